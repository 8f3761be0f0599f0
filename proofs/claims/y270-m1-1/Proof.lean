import JvmDerived
import JvmDerived.Pilot.@@N@@Statement
import JvmDerived.Pilot.@@N@@Code
set_option linter.unusedVariables false
set_option linter.unusedSimpArgs false
namespace Jvm.RoadKit
open Sem ClassFile Op Lib Jvm.Stand Jvm.Free Jvm.LawKit
section New
variable {p : Program} {l : Launch} {e : Env} {R : Room} {s : State} {m : MethodId} {args : Array Value} {below : List Frame} {meth : Method} {c : Code} {T : State} {locs : List Loc} {cells slots : Nat}
theorem own_retI (X : Stand p l e R s m args below meth c T locs cells slots) (hx : p.tables.exec = Jvm.exec) {pc : Nat} {Ls : Array Slot} {z : Int32} {rest : List Value} (hret : meth.sig.returnType = some .int) (hd : decode c.code pc = .ok (.ireturn, 1)) {fs : List Frame}
    (hl : ∀ (f : JFrame) (acts : List Action), f.method = m → f.locked = none → f.entered = [] → (doReturn e (T.setTop f) acts (some (.int z))).1 = T.setFrames fs) : Steps p.tables e below (T.setTop (mkF m pc Ls (.int z :: rest))) (T.setFrames fs) :=
  retOut X hx hret rfl (Or.inl ⟨rfl, Or.inl rfl, z, rfl⟩) hd hl
theorem own_retJ (X : Stand p l e R s m args below meth c T locs cells slots) (hx : p.tables.exec = Jvm.exec) {pc : Nat} {Ls : Array Slot} {z : Int64} {rest : List Value} (hret : meth.sig.returnType = some .long) (hd : decode c.code pc = .ok (.lreturn, 1)) {fs : List Frame}
    (hl : ∀ (f : JFrame) (acts : List Action), f.method = m → f.locked = none → f.entered = [] → (doReturn e (T.setTop f) acts (some (.long z))).1 = T.setFrames fs) : Steps p.tables e below (T.setTop (mkF m pc Ls (.long z :: rest))) (T.setFrames fs) :=
  retOut X hx hret rfl (Or.inr (Or.inl ⟨rfl, rfl, z, rfl⟩)) hd hl
end New
/-- the rest of a walk: from here the run comes to an end with Q -/
def own_Fin (p : Program) (e : Env) (below : List Frame) (A : State) (Q : Outcome → State → Prop) : Prop :=
  ∃ t o, Steps p.tables e below A t ∧ t.status = .running ∧ Ended t below o ∧ Q o t
theorem own_go {p : Program} {e : Env} {below : List Frame} {A B : State} {Q : Outcome → State → Prop} (st : ∀ t, Steps p.tables e below A t → Steps p.tables e below B t) (k : own_Fin p e below A Q) : own_Fin p e below B Q := by
  obtain ⟨t, o, h, r⟩ := k; exact ⟨t, o, st t h, r⟩
theorem own_start {p : Program} {e : Env} {below : List Frame} {T : State} {g g' : JFrame} {Q : Outcome → State → Prop} (q : g = g') (k : own_Fin p e below (T.setTop g') Q) :
    ∃ t o, Steps p.tables e below (T.setTop g) t ∧ t.status = .running ∧ Ended t below o ∧ Q o t := by subst q; exact k
theorem own_cat {v : Value} (h : v.isRef = true) : v.category = 1 := by cases v <;> simp [Value.isRef] at h <;> rfl
theorem own_st1 {l l' : Array Slot} {i : Nat} {v : Value} (hold : (match l[i]? with | some .unset => true | some (.val w) => w.category == 1 | _ => false) = true) (hv : v.isRef = true) (e : l.setIfInBounds i (.val v) = l') : storeLocals l i v = some l' := by
  subst e
  cases h : l[i]? with
  | none => simp [h] at hold
  | some o =>
    refine Jvm.Free.XS.store1 h ?_ (own_cat hv)
    cases o with
    | unset => exact Or.inl rfl
    | second => simp [h] at hold
    | val w => simp [h] at hold; exact Or.inr ⟨w, rfl, hold⟩
theorem own_st2 {l l' : Array Slot} {i : Nat} {v : Value} {o : Slot} (hold : l[i]? = some o) (ho : One o) (hv : v.category = 1) (e : l.setIfInBounds i (.val v) = l') : storeLocals l i v = some l' := by
  subst e; exact Jvm.Free.XS.store1 hold ho hv
theorem own_fitR {v : Value} {C : String} (h : v.isRef = true) : fits (.object C) v = true := by cases v <;> simp [Value.isRef, fits] at h ⊢
theorem own_osz {Z : State} {n0 : Nat} {h : Heap} (O : Old Z n0 h) : n0 ≤ h.size := O.1 ▸ O.2.1
def own_bi (P : Prop) [Decidable P] : Int32 := if P then 1 else 0
theorem own_bi1 {P : Prop} [Decidable P] (h : P) : own_bi P = 1 := if_pos h
theorem own_bi0 {P : Prop} [Decidable P] (h : ¬ P) : own_bi P = 0 := if_neg h
theorem own_bz {P : Prop} [Decidable P] (h : ¬ P) : own_bi P = 0 := if_neg h
theorem own_bn {P : Prop} [Decidable P] (h : P) : ¬ own_bi P = 0 := by rw [own_bi1 h]; decide
theorem own_narb {P : Prop} [Decidable P] : nar .boolean (own_bi P) = own_bi P := by unfold own_bi; split <;> decide
theorem own_narbi (P : Prop) [Decidable P] : narrow .boolean (.int (own_bi P)) = .int (own_bi P) := by unfold own_bi; split <;> rfl
theorem own_fitbi (P : Prop) [Decidable P] : fits .boolean (.int (own_bi P)) = true := by unfold own_bi; split <;> rfl
theorem own_e1 {P : Prop} [Decidable P] (h : P) : ¬ own_bi P = 0 := by rw [own_bi1 h]; decide
theorem own_e0 {P : Prop} [Decidable P] (h : ¬ P) : ¬ own_bi P = 1 := by rw [own_bi0 h]; decide
theorem own_retB {p : Program} {l : Launch} {e : Env} {R : Room} {s : State} {m : MethodId} {args : Array Value} {below : List Frame} {meth : Method} {c : Code} {T : State} {locs : List Loc} {cells slots : Nat} (X : Stand p l e R s m args below meth c T locs cells slots) (hx : p.tables.exec = Jvm.exec) {pc : Nat} {Ls : Array Slot} {P : Prop} [Decidable P] {rest : List Value} (hret : meth.sig.returnType = some .boolean) (hd : decode c.code pc = .ok (.ireturn, 1)) {fs : List Frame}
    (hl : ∀ (f : JFrame) (acts : List Action), f.method = m → f.locked = none → f.entered = [] → (doReturn e (T.setTop f) acts (some (.int (own_bi P)))).1 = T.setFrames fs) : Steps p.tables e below (T.setTop (mkF m pc Ls (.int (own_bi P) :: rest))) (T.setFrames fs) :=
  retN X hx (t := .boolean) hret (by simp) hd (by rw [own_narb]; exact hl)
theorem own_eqv {args : Array Value} {f s : State} {o : Option Outcome} {idx : List Nat} {a b : Term} {v : Value} (h : (Cond.eq a b).value args f o s idx = some true) (hb : b.eval args f o idx s = some v) (hk : (match v with | .int _ => true | .long _ => true | .ref _ => true | .null => true | _ => false) = true) : a.eval args f o idx s = some v := by
  obtain ⟨x, y, h1, h2, h3, h4⟩ := cmp_v (Or.inl h)
  rw [hb] at h2; cases h2
  rw [h1]
  cases x <;> cases v <;> simp [Kin, Value.isRef] at h3 h4 hk <;> simp [Cond.value, h1, hb] at h ⊢ <;> exact h
theorem own_eqBi {v : Option Value} {P : Prop} [Decidable P] (h : (v = some (.int 1) ∧ P) ∨ (v = some (.int 0) ∧ ¬ P)) : v = some (.int (own_bi P)) := by
  rcases h with ⟨h, q⟩ | ⟨h, q⟩
  · rw [h, own_bi1 q]
  · rw [h, own_bi0 q]
theorem own_up {cs : List Int32} (h : ∀ c ∈ cs, ¬ c < 0 ∧ ¬ (255 : Int32) < c) : ∀ c ∈ cs, ¬ c < 0 ∧ ¬ (65535 : Int32) < c := fun c hc => ⟨(h c hc).1, fun q => (h c hc).2 (by
  rw [Int32.lt_iff_toInt_lt] at q ⊢
  have e1 : (65535 : Int32).toInt = 65535 := by decide
  have e2 : (255 : Int32).toInt = 255 := by decide
  omega)⟩
theorem own_narid {a : Int32} (h : ¬ a < 0 ∧ ¬ (255 : Int32) < a) : nar .char a = a := by
  have e0 : (0 : Int32).toInt = 0 := by decide
  have e2 : (255 : Int32).toInt = 255 := by decide
  obtain ⟨h1, h2⟩ := h
  rw [Int32.lt_iff_toInt_lt] at h1 h2
  have q := c_i2c a
  rw [← Int32.toInt_inj]
  show a.toUInt32.toUInt16.toUInt32.toInt32.toInt = a.toInt
  omega
theorem own_nez {args : Array Value} {f s : State} {o : Option Outcome} {idx : List Nat} {t : Term} {z : Int32} (ev : t.eval args f o idx s = some (.int z)) (h : (Cond.not (Cond.eq t (Term.int 0))).value args f o s idx = some true) : ¬ z = 0 := by
  intro q; subst q; have h' := not_v h; simp [Cond.value, ev, Term.eval] at h'
theorem own_notOf {Z : State} {a0 : Array Value} {C O K : String} {n : Nat} (w : (Cond.superclass C O).before a0 Z = true) (w0 : (Cond.noSuperclass O).before a0 Z = true) (wi : (Cond.instantiable K n).before a0 Z = true) (hn : C ≠ K) (ho : O ≠ K) : ∃ c t, Z.vm.findClass C = some c ∧ Z.vm.findClass K = some t ∧ Z.vm.assignable c t = false := by
  obtain ⟨t, kt, g0, g2, g5, g7, -⟩ := Cond.instantiable_spec wi
  obtain ⟨c, h0⟩ := found_sup w
  obtain ⟨p, k, kp, h1, h2, h3, h4, h5, -, h7⟩ := Cond.superclass_spec h0 w
  obtain ⟨c', k', j1, j2, j3, -, -⟩ := Cond.noSuperclass_spec w0
  cases j1.symm.trans h1
  have ne := ids_ne h0 g0 hn
  have neo := ids_ne h1 g0 ho
  have g7' : kt.isInterface = false := by cases h : kt.isInterface <;> simp [h] at g7 ⊢
  have hs : ∀ fuel, Z.vm.isSubclassAux fuel c t = false := by
    intro fuel
    cases fuel with
    | zero => rfl
    | succ f =>
      cases f with
      | zero => simp [Vm.isSubclassAux, ne, h2, h4]
      | succ f => simp [Vm.isSubclassAux, ne, h2, h4, neo, j2, j3]
  refine ⟨c, t, h0, g0, ?_⟩
  show Z.vm.assignableAux (255 + 1) c t = false
  simp [Vm.assignableAux, ne, h2, g2, h5, g5, g7', Vm.isSubclass, hs]
theorem own_selS {args : Array Value} {s : State} {y w z : MethodName} {C : String} (h : (Cond.selects C w z).before args s = true) (e : z.cls = y.cls) (hpriv : s.PrivateAt y) (hinst : (Cond.instanceMethod y).before args s = true) (hy : y.cls ≠ "java/lang/invoke/MethodHandle" ∧ y.cls ≠ "java/lang/invoke/VarHandle") : (Cond.selects y.cls y y).before args s = true := by
  obtain ⟨c2, r2, m2, q1, q2, q3, q4, kP, hkP, hkPi⟩ := Cond.selects_spec h
  exact selects_self_of_private (c := m2.cls) (by rw [← e]; exact findClass_of_methodNamed q3) hkP hkPi hpriv hinst hy
theorem own_same {args : Array Value} {s : State} {y w z : MethodName} {C : String} (hinst : (Cond.instanceMethod y).before args s = true) (h : (Cond.selects C w z).before args s = true) (e : z.cls = y.cls) (hy : y.cls ≠ "java/lang/invoke/MethodHandle" ∧ y.cls ≠ "java/lang/invoke/VarHandle") : (Cond.sameMethod y.cls y.cls y.name y.desc).before args s = true := by
  obtain ⟨c2, r2, m2, q1, q2, q3, q4, kP, hkP, hkPi⟩ := Cond.selects_spec h
  obtain ⟨mk, methM, hnamed, hmethM, -, -⟩ := Cond.instanceMethod_spec hinst
  have hf : s.methodFound? y.cls y.name y.desc = some mk := State.methodFound?_of_named hnamed hy
  have hc : s.vm.findClass y.cls = some m2.cls := by rw [← e]; exact findClass_of_methodNamed q3
  have hn : s.methodNamed? ⟨y.cls, y.name, y.desc⟩ = some mk := hnamed
  simp [Cond.before, Cond.holds, Cond.value, hc, hf, hn, hkP, hkPi]
theorem own_eqE {T h : Heap} {a : Addr} {c : Cell} (e : T = h) (q : h[a]? = some c) : T[a]? = some c := by rw [e]; exact q
theorem own_nf {args : Array Value} {s : State} {y w z : MethodName} {C : String} (h : (Cond.selects C w z).before args s = true) (e : z.cls = y.cls) : NotFace s y := fun r0 h0 => by
  obtain ⟨c2, r2, m2, q1, q2, q3, q4, kP, hkP, hkPi⟩ := Cond.selects_spec h
  have a := findClass_of_methodNamed q3
  have b := findClass_of_methodNamed h0
  rw [e] at a
  have hc : m2.cls = r0.cls := Option.some.inj (a.symm.trans b)
  exact ⟨kP, by rw [← hc]; exact hkP, hkPi⟩
theorem own_selI {args : Array Value} {s : State} {y : MethodName} {n : Nat} (h : (Cond.instantiable y.cls n).before args s = true) (hpriv : s.PrivateAt y) (hinst : (Cond.instanceMethod y).before args s = true) (hy : y.cls ≠ "java/lang/invoke/MethodHandle" ∧ y.cls ≠ "java/lang/invoke/VarHandle") : (Cond.selects y.cls y y).before args s = true := by
  obtain ⟨c, k, h1, h2, h3, h4, -⟩ := Cond.instantiable_spec h
  exact selects_self_of_private h1 h2 (by cases hq : k.isInterface <;> simp [hq] at h4 ⊢) hpriv hinst hy
theorem own_selP {args : Array Value} {s : State} {y : MethodName} {S : String} (h : (Cond.superclass y.cls S).before args s = true) (hpriv : s.PrivateAt y) (hinst : (Cond.instanceMethod y).before args s = true) (hy : y.cls ≠ "java/lang/invoke/MethodHandle" ∧ y.cls ≠ "java/lang/invoke/VarHandle") : (Cond.selects y.cls y y).before args s = true := by
  obtain ⟨c, hc⟩ := found_sup h
  obtain ⟨p, k, kp, h1, h2, h3, h4, h5, h6, h7⟩ := Cond.superclass_spec hc h
  exact selects_self_of_private hc h2 h7 hpriv hinst hy
end Jvm.RoadKit
namespace Jvm.Pilot.@@N@@
open Jvm Jvm.ClassFile Sem Op Lib Jvm.Free Jvm.Stand Jvm.LawKit Jvm.RoadKit Bundle Jvm.Pilot.@@N@@.Jvm.D
theorem ow {Z : State} {a0 : Array Value} (hw : ∀ d ∈ tables_1, d.before a0 Z = true) (i : Nat) {d : Jvm.Cond} (h : tables_1[i]? = some d := by rfl) : d.before a0 Z = true := hw d (List.mem_of_getElem? h)
theorem d3_0 : decode jdk_68_method_2_code 0 = .ok (.aload_n 0, 1) := by decide +kernel
theorem d3_1 : decode jdk_68_method_2_code 1 = .ok (.invokespecial 3, 3) := by decide +kernel
theorem d3_4 : decode jdk_68_method_2_code 4 = .ok (.getstatic 18, 3) := by decide +kernel
theorem d3_7 : decode jdk_68_method_2_code 7 = .ok (.ifCond .eq 18, 3) := by decide +kernel
theorem d3_10 : decode jdk_68_method_2_code 10 = .ok (.aload_n 0, 1) := by decide +kernel
theorem d3_11 : decode jdk_68_method_2_code 11 = .ok (.iload_n 1, 1) := by decide +kernel
theorem d3_12 : decode jdk_68_method_2_code 12 = .ok (.newarray .byte, 2) := by decide +kernel
theorem d3_14 : decode jdk_68_method_2_code 14 = .ok (.putfield 15, 3) := by decide +kernel
theorem d3_17 : decode jdk_68_method_2_code 17 = .ok (.aload_n 0, 1) := by decide +kernel
theorem d3_18 : decode jdk_68_method_2_code 18 = .ok (.iconst 0, 1) := by decide +kernel
theorem d3_19 : decode jdk_68_method_2_code 19 = .ok (.putfield 22, 3) := by decide +kernel
theorem d3_22 : decode jdk_68_method_2_code 22 = .ok (.goto 16, 3) := by decide +kernel
theorem d3_38 : decode jdk_68_method_2_code 38 = .ok (.return_, 1) := by decide +kernel
theorem pn_0 : plainName "java/lang/AbstractStringBuilder" = true := by first | (simp [plainName, overriddenIn]; done) | decide +kernel
theorem ef_ai0 (m : MethodId) (x0 : Addr) (x1 : Int32) : entryFrame m #[(.ref x0), (.int x1)] 2 = mkF m 0 #[.val (.ref x0), .val (.int x1)] [] := by first | (simp [entryFrame, mkF, argsToLocals, Value.category]; done) | rfl
def Qai0 (Z : State) (b : Addr) (z : Int32) (h0 : Heap) (n0 : Nat) (v : Option Value) (h : Heap) (L : List Loc) : Prop := ∃ (t_ : Addr) (k_ : ClassId), v = none ∧ Fr n0 L ∧ Keep h0 h [b] ∧ h0.size ≤ t_ ∧ Exa Z h b "java/lang/StringBuilder" ∧ Fld Z h b "java/lang/AbstractStringBuilder" "value" "[B" (.ref t_) ∧ Fld Z h b "java/lang/AbstractStringBuilder" "coder" "B" (.int 0) ∧ Fld Z h b "java/lang/AbstractStringBuilder" "count" "I" (.int 0) ∧ Arv Z h t_ k_ .byte (0 : Int32) [] (.int 0) ∧ Exa Z h t_ "[B"
set_option maxRecDepth 65536 in
set_option maxHeartbeats 40000000 in
theorem ai0 (l : Launch) (Z : State) (a0 : Array Value) (hw : ∀ d ∈ tables_1, d.before a0 Z = true) (ws : List Jvm.Cond) (b : Addr) (z : Int32) (h0 : Heap) (n0 : Nat) (O : Old Z n0 h0) (S_String_COMPACT_STRINGS : Sta Z Z.heap "java/lang/String" "COMPACT_STRINGS" "Z" (.int z)) (hz : ¬ (z = (0 : Int32))) (E_b : Exa Z h0 b "java/lang/StringBuilder") (F_b_ASB_value : Fld Z h0 b "java/lang/AbstractStringBuilder" "value" "[B" .null) (F_b_ASB_coder : Fld Z h0 b "java/lang/AbstractStringBuilder" "coder" "B" (.int 0)) (F_b_ASB_count : Fld Z h0 b "java/lang/AbstractStringBuilder" "count" "I" (.int 0)) (g_b : n0 ≤ b) :
    MetFree l (⟨"java/lang/AbstractStringBuilder", "<init>", "(I)V"⟩ : MethodName) (head1 (Jvm.Cond.code (⟨"java/lang/AbstractStringBuilder", "<init>", "(I)V"⟩ : MethodName) jdk_68_method_2_code 2 none :: ws) ({ frames := 1, cells := 1, slots := 0, locals := 12 } : Room)) (fun a' U' => a' = #[(.ref b), (.int 0)] ∧ Z.Warmed39 U'.vm ∧ U'.heap = h0) (fun _ _ _ _ _ => True) (fun _ U' o' W' => ∃ v' L', o' = .returned v' ∧ Qai0 Z b z h0 n0 v' W'.heap L' ∧ FrameEnd U' o' W' L' ({ frames := 1, cells := 1, slots := 0, locals := 12 } : Room).cells ({ frames := 1, cells := 1, slots := 0, locals := 12 } : Room).slots) := by
  refine MetFree.of_bodySF (plainFor_of_name pn_0) hisR ?_
  intro p e s m args below meth c s₁ Bd hml0 hP hK
  obtain ⟨rfl, hZ, hh⟩ := hP
  have hx := Bd.exec
  have hby := Bd.bytes
  have hml : c.maxLocals = 2 := hml0
  have hown : s.vm.findClass "java/lang/AbstractStringBuilder" = some m.cls := findClass_of_methodNamed Bd.named
  have hnm := (name_of_methodNamed Bd.named Bd.method).1
  have X0 : Stand p l e ({ frames := 1, cells := 1, slots := 0, locals := 12 } : Room) s m #[(.ref b), (.int 0)] below meth c s₁ [] 0 0 := Stand.of_body Bd
  have e0 : s₁.heap = h0 := by rw [← hh, Bd.state]; rfl
  have N0 := Fr.nil n0
  have K0 := Keep.refl h0 [b]
  refine own_start (ef_ai0 m b (0 : Int32)) (Q := fun o' t' => ∃ v' L', o' = .returned v' ∧ Qai0 Z b z h0 n0 v' t'.heap L' ∧ FrameEnd s o' t' L' ({ frames := 1, cells := 1, slots := 0, locals := 12 } : Room).cells ({ frames := 1, cells := 1, slots := 0, locals := 12 } : Room).slots) ?_
  show own_Fin p e below (s₁.setTop (mkF m 0 #[.val (.ref b), .val (.int 0)] [])) _
  refine own_go (fun _ k => XS.aloadN X0.here hx rfl (hb hby d3_0) rfl rfl k) ?_
  show own_Fin p e below (s₁.setTop (mkF m 1 #[.val (.ref b), .val (.int 0)] [(.ref b)])) _
  obtain ⟨T1, X1, e1, st1⟩ := initO X0 hx hZ hown (ow hw 17) (ow hw 18) (ow hw 19) e0 (g := (mkF m 1 #[.val (.ref b), .val (.int 0)] [(.ref b)])) rfl (by rw [hml]; rfl) rfl (hb hby d3_1) (by decide) (W := 0) (by show 2 * 0 + _ ≤ _; exact Nat.le_of_eq rfl) (by decide)
  refine own_go (fun _ k => st1 _ k) ?_
  show own_Fin p e below (T1.setTop (mkF m 4 #[.val (.ref b), .val (.int 0)] [])) _
  obtain ⟨T2, X2, e2, st2⟩ := getS2 X1 hx hZ hown (host := "") (Or.inl (ow hw 20)) Via.refl e1 (S_String_COMPACT_STRINGS.ext O.2) (g := (mkF m 4 #[.val (.ref b), .val (.int 0)] [])) rfl (hb hby d3_4)
  refine own_go (fun _ k => st2 _ k) ?_
  show own_Fin p e below (T2.setTop (mkF m 7 #[.val (.ref b), .val (.int 0)] [(.int z)])) _
  refine own_go (fun _ k => XS.ifNo X2.here hx rfl (hb hby d3_7) rfl ((if0 _ _).trans (feq hz).1) (XS.aloadN X2.here hx rfl (hb hby d3_10) rfl rfl (XS.iloadN X2.here hx rfl (hb hby d3_11) rfl k))) ?_
  show own_Fin p e below (T2.setTop (mkF m 12 #[.val (.ref b), .val (.int 0)] [(.int 0), (.ref b)])) _
  obtain ⟨T3, h3, k3, X3, e3, E3, A3, B3, st3⟩ := newPE X2 hx hZ (ow hw 0) e2 (g := (mkF m 12 #[.val (.ref b), .val (.int 0)] [(.int 0), (.ref b)])) rfl (hb hby d3_12) rfl (by decide) (cap := 0) (by decide) (by decide) (by decide) (by decide) (ad := "[B") (by decide)
  obtain ⟨b3, g3⟩ : ∃ z, z = h0.size := ⟨_, rfl⟩
  rw [← g3] at A3 st3 B3
  refine own_go (fun _ k => st3 _ k) ?_
  have ne_b_b3 : b ≠ b3 := Nat.ne_of_lt (Nat.lt_of_lt_of_le E_b.lt (Nat.le_of_eq g3.symm))
  have g_b3 : n0 ≤ b3 := Nat.le_trans (own_osz O) (Nat.le_of_eq g3.symm)
  have sz_b3 : h0.size ≤ b3 := Nat.le_trans K0.1 (Nat.le_of_eq g3.symm)
  have E_b := E_b.ext E3
  have F_b_ASB_value := F_b_ASB_value.ext E3
  have F_b_ASB_coder := F_b_ASB_coder.ext E3
  have F_b_ASB_count := F_b_ASB_count.ext E3
  have O := O.ext E3
  have K4 := K0.ext E3
  have E_b3 := B3
  have V_b3 : Arv Z h3 b3 k3 .byte (0 : Int32) [] (.int 0) := (Arv.new A3 (by decide)).pad (pad_rep [] (.int 0) 0)
  show own_Fin p e below (T3.setTop (mkF m 14 #[.val (.ref b), .val (.int 0)] [(.ref b3), (.ref b)])) _
  obtain ⟨T5, h5, X5, e5, W5, st5⟩ := putF X3 hx hZ hown (host := "") (Or.inl (ow hw 22)) Via.refl e3 F_b_ASB_value E_b (Or.inl (ow hw 23)) (ow hw 6) (ty := (.array .byte)) (by decide) rfl rfl (g := (mkF m 14 #[.val (.ref b), .val (.int 0)] [(.ref b3), (.ref b)])) rfl rfl (hb hby d3_14)
  refine own_go (fun _ k => st5 _ k) ?_
  have E_b := E_b.wr W5
  have F_b_ASB_coder := F_b_ASB_coder.other W5 (Or.inr (slot_ne (Or.inl (ow hw 25)) (Or.inl (ow hw 23)) (by decide) (t := .byte) (t' := (.array .byte)) (by decide) (by decide)))
  have F_b_ASB_count := F_b_ASB_count.other W5 (Or.inr (slot_ne (Or.inl (ow hw 56)) (Or.inl (ow hw 23)) (by decide) (t := .int) (t' := (.array .byte)) (by decide) (by decide)))
  have E_b3 := E_b3.wr W5
  have V_b3 := V_b3.other W5 (Ne.symm ne_b_b3)
  have O := O.wr W5 g_b
  have K6 := K4.wr W5 (Or.inl (List.mem_of_getElem? (i := 0) rfl))
  have F_b_ASB_value := F_b_ASB_value.same W5
  have N5 := Fr.snoc X5 N0 g_b
  show own_Fin p e below (T5.setTop (mkF m 17 #[.val (.ref b), .val (.int 0)] [])) _
  refine own_go (fun _ k => XS.aloadN X5.here hx rfl (hb hby d3_17) rfl rfl (XS.iconst X5.here hx rfl (hb hby d3_18) k)) ?_
  show own_Fin p e below (T5.setTop (mkF m 19 #[.val (.ref b), .val (.int 0)] [(.int 0), (.ref b)])) _
  obtain ⟨T7, h7, X7, e7, W7, st7⟩ := putF X5 hx hZ hown (host := "") (Or.inl (ow hw 24)) Via.refl e5 F_b_ASB_coder E_b (Or.inl (ow hw 25)) (ow hw 6) (ty := .byte) (by decide) rfl rfl (g := (mkF m 19 #[.val (.ref b), .val (.int 0)] [(.int 0), (.ref b)])) rfl rfl (hb hby d3_19)
  refine own_go (fun _ k => st7 _ k) ?_
  have E_b := E_b.wr W7
  have F_b_ASB_value := F_b_ASB_value.other W7 (Or.inr (slot_ne (Or.inl (ow hw 23)) (Or.inl (ow hw 25)) (by decide) (t := (.array .byte)) (t' := .byte) (by decide) (by decide)))
  have F_b_ASB_count := F_b_ASB_count.other W7 (Or.inr (slot_ne (Or.inl (ow hw 56)) (Or.inl (ow hw 25)) (by decide) (t := .int) (t' := .byte) (by decide) (by decide)))
  have E_b3 := E_b3.wr W7
  have V_b3 := V_b3.other W7 (Ne.symm ne_b_b3)
  have O := O.wr W7 g_b
  have K8 := K6.wr W7 (Or.inl (List.mem_of_getElem? (i := 0) rfl))
  have F_b_ASB_coder := F_b_ASB_coder.same W7
  have N7 := Fr.snoc X7 N5 g_b
  show own_Fin p e below (T7.setTop (mkF m 22 #[.val (.ref b), .val (.int 0)] [])) _
  refine own_go (fun _ k => XS.goto X7.here hx rfl (pc0 := 22) (pc' := 38) rfl (hb hby d3_22) (by decide) (by decide) k) ?_
  show own_Fin p e below (T7.setTop (mkF m 38 #[.val (.ref b), .val (.int 0)] [])) _
  obtain ⟨fs, hr, hrun, hended, hW, hsame⟩ := X7.leave (v := none) (fun _ => rfl)
  refine ⟨_, _, ?_, hrun, hended, _, _, rfl, ?_, ⟨_, rfl⟩, hW, hsame.mono (by decide) (by decide)⟩
  ·exact X7.returnOut hx Bd.returns (hb hby d3_38) hr
  ·show Qai0 Z b z h0 n0 _ T7.heap _
   rw [e7]
   exact ⟨b3, k3, rfl, N7, K8, sz_b3, E_b, F_b_ASB_value, F_b_ASB_coder, F_b_ASB_count, V_b3, E_b3⟩
theorem d2_0 : decode jdk_67_method_2_code 0 = .ok (.aload_n 0, 1) := by decide +kernel
theorem d2_1 : decode jdk_67_method_2_code 1 = .ok (.iload_n 1, 1) := by decide +kernel
theorem d2_2 : decode jdk_67_method_2_code 2 = .ok (.invokespecial 1, 3) := by decide +kernel
theorem pd_0 : parseMethodDescriptor "(I)V" = some ⟨[.int], none⟩ := by decide +kernel
theorem d2_5 : decode jdk_67_method_2_code 5 = .ok (.return_, 1) := by decide +kernel
theorem pn_1 : plainName "java/lang/StringBuilder" = true := by first | (simp [plainName, overriddenIn]; done) | decide +kernel
theorem ef_si0 (m : MethodId) (x0 : Addr) (x1 : Int32) : entryFrame m #[(.ref x0), (.int x1)] 2 = mkF m 0 #[.val (.ref x0), .val (.int x1)] [] := by first | (simp [entryFrame, mkF, argsToLocals, Value.category]; done) | rfl
def Qsi0 (Z : State) (b : Addr) (z : Int32) (h0 : Heap) (n0 : Nat) (v : Option Value) (h : Heap) (L : List Loc) : Prop := ∃ (t_ : Addr) (k_ : ClassId), v = none ∧ Fr n0 L ∧ Keep h0 h [b] ∧ h0.size ≤ t_ ∧ Exa Z h b "java/lang/StringBuilder" ∧ Fld Z h b "java/lang/AbstractStringBuilder" "value" "[B" (.ref t_) ∧ Fld Z h b "java/lang/AbstractStringBuilder" "coder" "B" (.int 0) ∧ Fld Z h b "java/lang/AbstractStringBuilder" "count" "I" (.int 0) ∧ Arv Z h t_ k_ .byte (0 : Int32) [] (.int 0) ∧ Exa Z h t_ "[B"
set_option maxRecDepth 65536 in
set_option maxHeartbeats 40000000 in
theorem si0 (l : Launch) (Z : State) (a0 : Array Value) (hw : ∀ d ∈ tables_1, d.before a0 Z = true) (ws : List Jvm.Cond) (b : Addr) (z : Int32) (h0 : Heap) (n0 : Nat) (O : Old Z n0 h0) (S_String_COMPACT_STRINGS : Sta Z Z.heap "java/lang/String" "COMPACT_STRINGS" "Z" (.int z)) (hz : ¬ (z = (0 : Int32))) (E_b : Exa Z h0 b "java/lang/StringBuilder") (F_b_ASB_value : Fld Z h0 b "java/lang/AbstractStringBuilder" "value" "[B" .null) (F_b_ASB_coder : Fld Z h0 b "java/lang/AbstractStringBuilder" "coder" "B" (.int 0)) (F_b_ASB_count : Fld Z h0 b "java/lang/AbstractStringBuilder" "count" "I" (.int 0)) (g_b : n0 ≤ b) :
    MetFree l (⟨"java/lang/StringBuilder", "<init>", "(I)V"⟩ : MethodName) (head1 (Jvm.Cond.code (⟨"java/lang/StringBuilder", "<init>", "(I)V"⟩ : MethodName) jdk_67_method_2_code 2 none :: ws) ({ frames := 2, cells := 1, slots := 0, locals := 25 } : Room)) (fun a' U' => a' = #[(.ref b), (.int 0)] ∧ Z.Warmed39 U'.vm ∧ U'.heap = h0) (fun _ _ _ _ _ => True) (fun _ U' o' W' => ∃ v' L', o' = .returned v' ∧ Qsi0 Z b z h0 n0 v' W'.heap L' ∧ FrameEnd U' o' W' L' ({ frames := 2, cells := 1, slots := 0, locals := 25 } : Room).cells ({ frames := 2, cells := 1, slots := 0, locals := 25 } : Room).slots) := by
  refine MetFree.of_bodySF (plainFor_of_name pn_1) hisR ?_
  intro p e s m args below meth c s₁ Bd hml0 hP hK
  obtain ⟨rfl, hZ, hh⟩ := hP
  have hx := Bd.exec
  have hby := Bd.bytes
  have hml : c.maxLocals = 2 := hml0
  have hown : s.vm.findClass "java/lang/StringBuilder" = some m.cls := findClass_of_methodNamed Bd.named
  have hnm := (name_of_methodNamed Bd.named Bd.method).1
  have X0 : Stand p l e ({ frames := 2, cells := 1, slots := 0, locals := 25 } : Room) s m #[(.ref b), (.int 0)] below meth c s₁ [] 0 0 := Stand.of_body Bd
  have e0 : s₁.heap = h0 := by rw [← hh, Bd.state]; rfl
  have N0 := Fr.nil n0
  have K0 := Keep.refl h0 [b]
  refine own_start (ef_si0 m b (0 : Int32)) (Q := fun o' t' => ∃ v' L', o' = .returned v' ∧ Qsi0 Z b z h0 n0 v' t'.heap L' ∧ FrameEnd s o' t' L' ({ frames := 2, cells := 1, slots := 0, locals := 25 } : Room).cells ({ frames := 2, cells := 1, slots := 0, locals := 25 } : Room).slots) ?_
  show own_Fin p e below (s₁.setTop (mkF m 0 #[.val (.ref b), .val (.int 0)] [])) _
  refine own_go (fun _ k => XS.aloadN X0.here hx rfl (hb hby d2_0) rfl rfl (XS.iloadN X0.here hx rfl (hb hby d2_1) rfl k)) ?_
  show own_Fin p e below (s₁.setTop (mkF m 2 #[.val (.ref b), .val (.int 0)] [(.int 0), (.ref b)])) _
  obtain ⟨_, _, ⟨T10, L10, k10, n10⟩, -, X10, ⟨Lc10, hQ10, l10, y10, z10⟩, st10⟩ := X0.specialBack hx (y := (⟨"java/lang/AbstractStringBuilder", "<init>", "(I)V"⟩ : MethodName)) rfl hown (mvT hZ (ow hw 11)) (mvT hZ (ow hw 12)) (mvT hZ (ow hw 16)) (by decide) (backOf (W := 0) (ai0 l Z a0 hw [] b z h0 n0 O S_String_COMPACT_STRINGS hz E_b F_b_ASB_value F_b_ASB_coder F_b_ASB_count g_b) hZ (ow hw 16) (ow hw 15) (by decide) (by decide)) (g := (mkF m 2 #[.val (.ref b), .val (.int 0)] [(.int 0), (.ref b)])) rfl (by rw [hml]; rfl) (Steps.refl _) (a := b) (argsL := [(.int 0)]) (rest := []) (lenOf pd_0 rfl) rfl (by show 2 * 0 + _ ≤ _; exact Nat.le_of_eq rfl) (hb hby d2_2) (fun _ _ => ⟨rfl, e0, (by decide : 0 + 1 ≤ _), (by decide : 0 + 0 ≤ _)⟩)
  dsimp only [Pt.U, Pt.locs, Pt.cells, Pt.slots] at X10 l10 y10 z10 st10 hQ10
  subst l10 y10 z10
  obtain ⟨t_11, k_12, rfl, N10q, Kq10, P10_0, P10_1, P10_2, P10_3, P10_4, P10_5, P10_6⟩ := hQ10
  refine own_go (fun _ k => st10.trans k) ?_
  have N10 := Fr.app N0 N10q
  have ne_b_t_11 : b ≠ t_11 := Nat.ne_of_lt (Nat.lt_of_lt_of_le E_b.lt P10_0)
  have g_t_11 : n0 ≤ t_11 := Nat.le_trans (own_osz O) P10_0
  have sz_t_11 : h0.size ≤ t_11 := Nat.le_trans K0.1 P10_0
  have E_b := E_b.keep Kq10
  clear F_b_ASB_value
  clear F_b_ASB_coder
  clear F_b_ASB_count
  have O := O.keep Kq10 (allS g_b all0)
  have K13 := K0.trans Kq10 (allS (Or.inl (List.mem_of_getElem? (i := 0) rfl)) all0)
  have E_b := P10_1
  have F_b_ASB_value := P10_2
  have F_b_ASB_coder := P10_3
  have F_b_ASB_count := P10_4
  have V_t_11 := P10_5
  have E_t_11 := P10_6
  show own_Fin p e below (T10.setTop (mkF m 5 #[.val (.ref b), .val (.int 0)] [])) _
  obtain ⟨fs, hr, hrun, hended, hW, hsame⟩ := X10.leave (v := none) (fun _ => rfl)
  refine ⟨_, _, ?_, hrun, hended, _, _, rfl, ?_, ⟨_, rfl⟩, hW, hsame.mono (by decide) (by decide)⟩
  ·exact X10.returnOut hx Bd.returns (hb hby d2_5) hr
  ·show Qsi0 Z b z h0 n0 _ T10.heap _
   exact ⟨t_11, k_12, rfl, N10, K13, sz_t_11, E_b, F_b_ASB_value, F_b_ASB_coder, F_b_ASB_count, V_t_11, E_t_11⟩
theorem ef_ai1 (m : MethodId) (x0 : Addr) (x1 : Int32) : entryFrame m #[(.ref x0), (.int x1)] 2 = mkF m 0 #[.val (.ref x0), .val (.int x1)] [] := by first | (simp [entryFrame, mkF, argsToLocals, Value.category]; done) | rfl
def Qai1 (Z : State) (b : Addr) (z : Int32) (h0 : Heap) (n0 : Nat) (v : Option Value) (h : Heap) (L : List Loc) : Prop := ∃ (t_ : Addr) (k_ : ClassId), v = none ∧ Fr n0 L ∧ Keep h0 h [b] ∧ h0.size ≤ t_ ∧ Exa Z h b "java/lang/StringBuilder" ∧ Fld Z h b "java/lang/AbstractStringBuilder" "value" "[B" (.ref t_) ∧ Fld Z h b "java/lang/AbstractStringBuilder" "coder" "B" (.int 0) ∧ Fld Z h b "java/lang/AbstractStringBuilder" "count" "I" (.int 0) ∧ Arv Z h t_ k_ .byte (1 : Int32) [(.int 0)] (.int 0) ∧ Exa Z h t_ "[B"
set_option maxRecDepth 65536 in
set_option maxHeartbeats 40000000 in
theorem ai1 (l : Launch) (Z : State) (a0 : Array Value) (hw : ∀ d ∈ tables_1, d.before a0 Z = true) (ws : List Jvm.Cond) (b : Addr) (z : Int32) (h0 : Heap) (n0 : Nat) (O : Old Z n0 h0) (S_String_COMPACT_STRINGS : Sta Z Z.heap "java/lang/String" "COMPACT_STRINGS" "Z" (.int z)) (hz : ¬ (z = (0 : Int32))) (E_b : Exa Z h0 b "java/lang/StringBuilder") (F_b_ASB_value : Fld Z h0 b "java/lang/AbstractStringBuilder" "value" "[B" .null) (F_b_ASB_coder : Fld Z h0 b "java/lang/AbstractStringBuilder" "coder" "B" (.int 0)) (F_b_ASB_count : Fld Z h0 b "java/lang/AbstractStringBuilder" "count" "I" (.int 0)) (g_b : n0 ≤ b) :
    MetFree l (⟨"java/lang/AbstractStringBuilder", "<init>", "(I)V"⟩ : MethodName) (head1 (Jvm.Cond.code (⟨"java/lang/AbstractStringBuilder", "<init>", "(I)V"⟩ : MethodName) jdk_68_method_2_code 2 none :: ws) ({ frames := 1, cells := 1, slots := 1, locals := 12 } : Room)) (fun a' U' => a' = #[(.ref b), (.int 1)] ∧ Z.Warmed39 U'.vm ∧ U'.heap = h0) (fun _ _ _ _ _ => True) (fun _ U' o' W' => ∃ v' L', o' = .returned v' ∧ Qai1 Z b z h0 n0 v' W'.heap L' ∧ FrameEnd U' o' W' L' ({ frames := 1, cells := 1, slots := 1, locals := 12 } : Room).cells ({ frames := 1, cells := 1, slots := 1, locals := 12 } : Room).slots) := by
  refine MetFree.of_bodySF (plainFor_of_name pn_0) hisR ?_
  intro p e s m args below meth c s₁ Bd hml0 hP hK
  obtain ⟨rfl, hZ, hh⟩ := hP
  have hx := Bd.exec
  have hby := Bd.bytes
  have hml : c.maxLocals = 2 := hml0
  have hown : s.vm.findClass "java/lang/AbstractStringBuilder" = some m.cls := findClass_of_methodNamed Bd.named
  have hnm := (name_of_methodNamed Bd.named Bd.method).1
  have X0 : Stand p l e ({ frames := 1, cells := 1, slots := 1, locals := 12 } : Room) s m #[(.ref b), (.int 1)] below meth c s₁ [] 0 0 := Stand.of_body Bd
  have e0 : s₁.heap = h0 := by rw [← hh, Bd.state]; rfl
  have N0 := Fr.nil n0
  have K0 := Keep.refl h0 [b]
  refine own_start (ef_ai1 m b (1 : Int32)) (Q := fun o' t' => ∃ v' L', o' = .returned v' ∧ Qai1 Z b z h0 n0 v' t'.heap L' ∧ FrameEnd s o' t' L' ({ frames := 1, cells := 1, slots := 1, locals := 12 } : Room).cells ({ frames := 1, cells := 1, slots := 1, locals := 12 } : Room).slots) ?_
  show own_Fin p e below (s₁.setTop (mkF m 0 #[.val (.ref b), .val (.int 1)] [])) _
  refine own_go (fun _ k => XS.aloadN X0.here hx rfl (hb hby d3_0) rfl rfl k) ?_
  show own_Fin p e below (s₁.setTop (mkF m 1 #[.val (.ref b), .val (.int 1)] [(.ref b)])) _
  obtain ⟨T15, X15, e15, st15⟩ := initO X0 hx hZ hown (ow hw 17) (ow hw 18) (ow hw 19) e0 (g := (mkF m 1 #[.val (.ref b), .val (.int 1)] [(.ref b)])) rfl (by rw [hml]; rfl) rfl (hb hby d3_1) (by decide) (W := 0) (by show 2 * 0 + _ ≤ _; exact Nat.le_of_eq rfl) (by decide)
  refine own_go (fun _ k => st15 _ k) ?_
  show own_Fin p e below (T15.setTop (mkF m 4 #[.val (.ref b), .val (.int 1)] [])) _
  obtain ⟨T16, X16, e16, st16⟩ := getS2 X15 hx hZ hown (host := "") (Or.inl (ow hw 20)) Via.refl e15 (S_String_COMPACT_STRINGS.ext O.2) (g := (mkF m 4 #[.val (.ref b), .val (.int 1)] [])) rfl (hb hby d3_4)
  refine own_go (fun _ k => st16 _ k) ?_
  show own_Fin p e below (T16.setTop (mkF m 7 #[.val (.ref b), .val (.int 1)] [(.int z)])) _
  refine own_go (fun _ k => XS.ifNo X16.here hx rfl (hb hby d3_7) rfl ((if0 _ _).trans (feq hz).1) (XS.aloadN X16.here hx rfl (hb hby d3_10) rfl rfl (XS.iloadN X16.here hx rfl (hb hby d3_11) rfl k))) ?_
  show own_Fin p e below (T16.setTop (mkF m 12 #[.val (.ref b), .val (.int 1)] [(.int 1), (.ref b)])) _
  obtain ⟨T17, h17, k17, X17, e17, E17, A17, B17, st17⟩ := newPE X16 hx hZ (ow hw 0) e16 (g := (mkF m 12 #[.val (.ref b), .val (.int 1)] [(.int 1), (.ref b)])) rfl (hb hby d3_12) rfl (by decide) (cap := 1) (by decide) (by decide) (by decide) (by decide) (ad := "[B") (by decide)
  obtain ⟨b17, g17⟩ : ∃ z, z = h0.size := ⟨_, rfl⟩
  rw [← g17] at A17 st17 B17
  refine own_go (fun _ k => st17 _ k) ?_
  have ne_b_b17 : b ≠ b17 := Nat.ne_of_lt (Nat.lt_of_lt_of_le E_b.lt (Nat.le_of_eq g17.symm))
  have g_b17 : n0 ≤ b17 := Nat.le_trans (own_osz O) (Nat.le_of_eq g17.symm)
  have sz_b17 : h0.size ≤ b17 := Nat.le_trans K0.1 (Nat.le_of_eq g17.symm)
  have E_b := E_b.ext E17
  have F_b_ASB_value := F_b_ASB_value.ext E17
  have F_b_ASB_coder := F_b_ASB_coder.ext E17
  have F_b_ASB_count := F_b_ASB_count.ext E17
  have O := O.ext E17
  have K18 := K0.ext E17
  have E_b17 := B17
  have V_b17 : Arv Z h17 b17 k17 .byte (1 : Int32) [(.int 0)] (.int 0) := (Arv.new A17 (by decide)).pad (pad_rep [] (.int 0) 1)
  show own_Fin p e below (T17.setTop (mkF m 14 #[.val (.ref b), .val (.int 1)] [(.ref b17), (.ref b)])) _
  obtain ⟨T19, h19, X19, e19, W19, st19⟩ := putF X17 hx hZ hown (host := "") (Or.inl (ow hw 22)) Via.refl e17 F_b_ASB_value E_b (Or.inl (ow hw 23)) (ow hw 6) (ty := (.array .byte)) (by decide) rfl rfl (g := (mkF m 14 #[.val (.ref b), .val (.int 1)] [(.ref b17), (.ref b)])) rfl rfl (hb hby d3_14)
  refine own_go (fun _ k => st19 _ k) ?_
  have E_b := E_b.wr W19
  have F_b_ASB_coder := F_b_ASB_coder.other W19 (Or.inr (slot_ne (Or.inl (ow hw 25)) (Or.inl (ow hw 23)) (by decide) (t := .byte) (t' := (.array .byte)) (by decide) (by decide)))
  have F_b_ASB_count := F_b_ASB_count.other W19 (Or.inr (slot_ne (Or.inl (ow hw 56)) (Or.inl (ow hw 23)) (by decide) (t := .int) (t' := (.array .byte)) (by decide) (by decide)))
  have E_b17 := E_b17.wr W19
  have V_b17 := V_b17.other W19 (Ne.symm ne_b_b17)
  have O := O.wr W19 g_b
  have K20 := K18.wr W19 (Or.inl (List.mem_of_getElem? (i := 0) rfl))
  have F_b_ASB_value := F_b_ASB_value.same W19
  have N19 := Fr.snoc X19 N0 g_b
  show own_Fin p e below (T19.setTop (mkF m 17 #[.val (.ref b), .val (.int 1)] [])) _
  refine own_go (fun _ k => XS.aloadN X19.here hx rfl (hb hby d3_17) rfl rfl (XS.iconst X19.here hx rfl (hb hby d3_18) k)) ?_
  show own_Fin p e below (T19.setTop (mkF m 19 #[.val (.ref b), .val (.int 1)] [(.int 0), (.ref b)])) _
  obtain ⟨T21, h21, X21, e21, W21, st21⟩ := putF X19 hx hZ hown (host := "") (Or.inl (ow hw 24)) Via.refl e19 F_b_ASB_coder E_b (Or.inl (ow hw 25)) (ow hw 6) (ty := .byte) (by decide) rfl rfl (g := (mkF m 19 #[.val (.ref b), .val (.int 1)] [(.int 0), (.ref b)])) rfl rfl (hb hby d3_19)
  refine own_go (fun _ k => st21 _ k) ?_
  have E_b := E_b.wr W21
  have F_b_ASB_value := F_b_ASB_value.other W21 (Or.inr (slot_ne (Or.inl (ow hw 23)) (Or.inl (ow hw 25)) (by decide) (t := (.array .byte)) (t' := .byte) (by decide) (by decide)))
  have F_b_ASB_count := F_b_ASB_count.other W21 (Or.inr (slot_ne (Or.inl (ow hw 56)) (Or.inl (ow hw 25)) (by decide) (t := .int) (t' := .byte) (by decide) (by decide)))
  have E_b17 := E_b17.wr W21
  have V_b17 := V_b17.other W21 (Ne.symm ne_b_b17)
  have O := O.wr W21 g_b
  have K22 := K20.wr W21 (Or.inl (List.mem_of_getElem? (i := 0) rfl))
  have F_b_ASB_coder := F_b_ASB_coder.same W21
  have N21 := Fr.snoc X21 N19 g_b
  show own_Fin p e below (T21.setTop (mkF m 22 #[.val (.ref b), .val (.int 1)] [])) _
  refine own_go (fun _ k => XS.goto X21.here hx rfl (pc0 := 22) (pc' := 38) rfl (hb hby d3_22) (by decide) (by decide) k) ?_
  show own_Fin p e below (T21.setTop (mkF m 38 #[.val (.ref b), .val (.int 1)] [])) _
  obtain ⟨fs, hr, hrun, hended, hW, hsame⟩ := X21.leave (v := none) (fun _ => rfl)
  refine ⟨_, _, ?_, hrun, hended, _, _, rfl, ?_, ⟨_, rfl⟩, hW, hsame.mono (by decide) (by decide)⟩
  ·exact X21.returnOut hx Bd.returns (hb hby d3_38) hr
  ·show Qai1 Z b z h0 n0 _ T21.heap _
   rw [e21]
   exact ⟨b17, k17, rfl, N21, K22, sz_b17, E_b, F_b_ASB_value, F_b_ASB_coder, F_b_ASB_count, V_b17, E_b17⟩
theorem ef_si1 (m : MethodId) (x0 : Addr) (x1 : Int32) : entryFrame m #[(.ref x0), (.int x1)] 2 = mkF m 0 #[.val (.ref x0), .val (.int x1)] [] := by first | (simp [entryFrame, mkF, argsToLocals, Value.category]; done) | rfl
def Qsi1 (Z : State) (b : Addr) (z : Int32) (h0 : Heap) (n0 : Nat) (v : Option Value) (h : Heap) (L : List Loc) : Prop := ∃ (t_ : Addr) (k_ : ClassId), v = none ∧ Fr n0 L ∧ Keep h0 h [b] ∧ h0.size ≤ t_ ∧ Exa Z h b "java/lang/StringBuilder" ∧ Fld Z h b "java/lang/AbstractStringBuilder" "value" "[B" (.ref t_) ∧ Fld Z h b "java/lang/AbstractStringBuilder" "coder" "B" (.int 0) ∧ Fld Z h b "java/lang/AbstractStringBuilder" "count" "I" (.int 0) ∧ Arv Z h t_ k_ .byte (1 : Int32) [(.int 0)] (.int 0) ∧ Exa Z h t_ "[B"
set_option maxRecDepth 65536 in
set_option maxHeartbeats 40000000 in
theorem si1 (l : Launch) (Z : State) (a0 : Array Value) (hw : ∀ d ∈ tables_1, d.before a0 Z = true) (ws : List Jvm.Cond) (b : Addr) (z : Int32) (h0 : Heap) (n0 : Nat) (O : Old Z n0 h0) (S_String_COMPACT_STRINGS : Sta Z Z.heap "java/lang/String" "COMPACT_STRINGS" "Z" (.int z)) (hz : ¬ (z = (0 : Int32))) (E_b : Exa Z h0 b "java/lang/StringBuilder") (F_b_ASB_value : Fld Z h0 b "java/lang/AbstractStringBuilder" "value" "[B" .null) (F_b_ASB_coder : Fld Z h0 b "java/lang/AbstractStringBuilder" "coder" "B" (.int 0)) (F_b_ASB_count : Fld Z h0 b "java/lang/AbstractStringBuilder" "count" "I" (.int 0)) (g_b : n0 ≤ b) :
    MetFree l (⟨"java/lang/StringBuilder", "<init>", "(I)V"⟩ : MethodName) (head1 (Jvm.Cond.code (⟨"java/lang/StringBuilder", "<init>", "(I)V"⟩ : MethodName) jdk_67_method_2_code 2 none :: ws) ({ frames := 2, cells := 1, slots := 1, locals := 25 } : Room)) (fun a' U' => a' = #[(.ref b), (.int 1)] ∧ Z.Warmed39 U'.vm ∧ U'.heap = h0) (fun _ _ _ _ _ => True) (fun _ U' o' W' => ∃ v' L', o' = .returned v' ∧ Qsi1 Z b z h0 n0 v' W'.heap L' ∧ FrameEnd U' o' W' L' ({ frames := 2, cells := 1, slots := 1, locals := 25 } : Room).cells ({ frames := 2, cells := 1, slots := 1, locals := 25 } : Room).slots) := by
  refine MetFree.of_bodySF (plainFor_of_name pn_1) hisR ?_
  intro p e s m args below meth c s₁ Bd hml0 hP hK
  obtain ⟨rfl, hZ, hh⟩ := hP
  have hx := Bd.exec
  have hby := Bd.bytes
  have hml : c.maxLocals = 2 := hml0
  have hown : s.vm.findClass "java/lang/StringBuilder" = some m.cls := findClass_of_methodNamed Bd.named
  have hnm := (name_of_methodNamed Bd.named Bd.method).1
  have X0 : Stand p l e ({ frames := 2, cells := 1, slots := 1, locals := 25 } : Room) s m #[(.ref b), (.int 1)] below meth c s₁ [] 0 0 := Stand.of_body Bd
  have e0 : s₁.heap = h0 := by rw [← hh, Bd.state]; rfl
  have N0 := Fr.nil n0
  have K0 := Keep.refl h0 [b]
  refine own_start (ef_si1 m b (1 : Int32)) (Q := fun o' t' => ∃ v' L', o' = .returned v' ∧ Qsi1 Z b z h0 n0 v' t'.heap L' ∧ FrameEnd s o' t' L' ({ frames := 2, cells := 1, slots := 1, locals := 25 } : Room).cells ({ frames := 2, cells := 1, slots := 1, locals := 25 } : Room).slots) ?_
  show own_Fin p e below (s₁.setTop (mkF m 0 #[.val (.ref b), .val (.int 1)] [])) _
  refine own_go (fun _ k => XS.aloadN X0.here hx rfl (hb hby d2_0) rfl rfl (XS.iloadN X0.here hx rfl (hb hby d2_1) rfl k)) ?_
  show own_Fin p e below (s₁.setTop (mkF m 2 #[.val (.ref b), .val (.int 1)] [(.int 1), (.ref b)])) _
  obtain ⟨_, _, ⟨T24, L24, k24, n24⟩, -, X24, ⟨Lc24, hQ24, l24, y24, z24⟩, st24⟩ := X0.specialBack hx (y := (⟨"java/lang/AbstractStringBuilder", "<init>", "(I)V"⟩ : MethodName)) rfl hown (mvT hZ (ow hw 11)) (mvT hZ (ow hw 12)) (mvT hZ (ow hw 16)) (by decide) (backOf (W := 0) (ai1 l Z a0 hw [] b z h0 n0 O S_String_COMPACT_STRINGS hz E_b F_b_ASB_value F_b_ASB_coder F_b_ASB_count g_b) hZ (ow hw 16) (ow hw 15) (by decide) (by decide)) (g := (mkF m 2 #[.val (.ref b), .val (.int 1)] [(.int 1), (.ref b)])) rfl (by rw [hml]; rfl) (Steps.refl _) (a := b) (argsL := [(.int 1)]) (rest := []) (lenOf pd_0 rfl) rfl (by show 2 * 0 + _ ≤ _; exact Nat.le_of_eq rfl) (hb hby d2_2) (fun _ _ => ⟨rfl, e0, (by decide : 0 + 1 ≤ _), (by decide : 0 + 1 ≤ _)⟩)
  dsimp only [Pt.U, Pt.locs, Pt.cells, Pt.slots] at X24 l24 y24 z24 st24 hQ24
  subst l24 y24 z24
  obtain ⟨t_25, k_26, rfl, N24q, Kq24, P24_0, P24_1, P24_2, P24_3, P24_4, P24_5, P24_6⟩ := hQ24
  refine own_go (fun _ k => st24.trans k) ?_
  have N24 := Fr.app N0 N24q
  have ne_b_t_25 : b ≠ t_25 := Nat.ne_of_lt (Nat.lt_of_lt_of_le E_b.lt P24_0)
  have g_t_25 : n0 ≤ t_25 := Nat.le_trans (own_osz O) P24_0
  have sz_t_25 : h0.size ≤ t_25 := Nat.le_trans K0.1 P24_0
  have E_b := E_b.keep Kq24
  clear F_b_ASB_value
  clear F_b_ASB_coder
  clear F_b_ASB_count
  have O := O.keep Kq24 (allS g_b all0)
  have K27 := K0.trans Kq24 (allS (Or.inl (List.mem_of_getElem? (i := 0) rfl)) all0)
  have E_b := P24_1
  have F_b_ASB_value := P24_2
  have F_b_ASB_coder := P24_3
  have F_b_ASB_count := P24_4
  have V_t_25 := P24_5
  have E_t_25 := P24_6
  show own_Fin p e below (T24.setTop (mkF m 5 #[.val (.ref b), .val (.int 1)] [])) _
  obtain ⟨fs, hr, hrun, hended, hW, hsame⟩ := X24.leave (v := none) (fun _ => rfl)
  refine ⟨_, _, ?_, hrun, hended, _, _, rfl, ?_, ⟨_, rfl⟩, hW, hsame.mono (by decide) (by decide)⟩
  ·exact X24.returnOut hx Bd.returns (hb hby d2_5) hr
  ·show Qsi1 Z b z h0 n0 _ T24.heap _
   exact ⟨t_25, k_26, rfl, N24, K27, sz_t_25, E_b, F_b_ASB_value, F_b_ASB_coder, F_b_ASB_count, V_t_25, E_t_25⟩
theorem ef_ai2 (m : MethodId) (x0 : Addr) (x1 : Int32) : entryFrame m #[(.ref x0), (.int x1)] 2 = mkF m 0 #[.val (.ref x0), .val (.int x1)] [] := by first | (simp [entryFrame, mkF, argsToLocals, Value.category]; done) | rfl
def Qai2 (Z : State) (b : Addr) (z : Int32) (h0 : Heap) (n0 : Nat) (v : Option Value) (h : Heap) (L : List Loc) : Prop := ∃ (t_ : Addr) (k_ : ClassId), v = none ∧ Fr n0 L ∧ Keep h0 h [b] ∧ h0.size ≤ t_ ∧ Exa Z h b "java/lang/StringBuilder" ∧ Fld Z h b "java/lang/AbstractStringBuilder" "value" "[B" (.ref t_) ∧ Fld Z h b "java/lang/AbstractStringBuilder" "coder" "B" (.int 0) ∧ Fld Z h b "java/lang/AbstractStringBuilder" "count" "I" (.int 0) ∧ Arv Z h t_ k_ .byte (2 : Int32) [(.int 0), (.int 0)] (.int 0) ∧ Exa Z h t_ "[B"
set_option maxRecDepth 65536 in
set_option maxHeartbeats 40000000 in
theorem ai2 (l : Launch) (Z : State) (a0 : Array Value) (hw : ∀ d ∈ tables_1, d.before a0 Z = true) (ws : List Jvm.Cond) (b : Addr) (z : Int32) (h0 : Heap) (n0 : Nat) (O : Old Z n0 h0) (S_String_COMPACT_STRINGS : Sta Z Z.heap "java/lang/String" "COMPACT_STRINGS" "Z" (.int z)) (hz : ¬ (z = (0 : Int32))) (E_b : Exa Z h0 b "java/lang/StringBuilder") (F_b_ASB_value : Fld Z h0 b "java/lang/AbstractStringBuilder" "value" "[B" .null) (F_b_ASB_coder : Fld Z h0 b "java/lang/AbstractStringBuilder" "coder" "B" (.int 0)) (F_b_ASB_count : Fld Z h0 b "java/lang/AbstractStringBuilder" "count" "I" (.int 0)) (g_b : n0 ≤ b) :
    MetFree l (⟨"java/lang/AbstractStringBuilder", "<init>", "(I)V"⟩ : MethodName) (head1 (Jvm.Cond.code (⟨"java/lang/AbstractStringBuilder", "<init>", "(I)V"⟩ : MethodName) jdk_68_method_2_code 2 none :: ws) ({ frames := 1, cells := 1, slots := 2, locals := 12 } : Room)) (fun a' U' => a' = #[(.ref b), (.int 2)] ∧ Z.Warmed39 U'.vm ∧ U'.heap = h0) (fun _ _ _ _ _ => True) (fun _ U' o' W' => ∃ v' L', o' = .returned v' ∧ Qai2 Z b z h0 n0 v' W'.heap L' ∧ FrameEnd U' o' W' L' ({ frames := 1, cells := 1, slots := 2, locals := 12 } : Room).cells ({ frames := 1, cells := 1, slots := 2, locals := 12 } : Room).slots) := by
  refine MetFree.of_bodySF (plainFor_of_name pn_0) hisR ?_
  intro p e s m args below meth c s₁ Bd hml0 hP hK
  obtain ⟨rfl, hZ, hh⟩ := hP
  have hx := Bd.exec
  have hby := Bd.bytes
  have hml : c.maxLocals = 2 := hml0
  have hown : s.vm.findClass "java/lang/AbstractStringBuilder" = some m.cls := findClass_of_methodNamed Bd.named
  have hnm := (name_of_methodNamed Bd.named Bd.method).1
  have X0 : Stand p l e ({ frames := 1, cells := 1, slots := 2, locals := 12 } : Room) s m #[(.ref b), (.int 2)] below meth c s₁ [] 0 0 := Stand.of_body Bd
  have e0 : s₁.heap = h0 := by rw [← hh, Bd.state]; rfl
  have N0 := Fr.nil n0
  have K0 := Keep.refl h0 [b]
  refine own_start (ef_ai2 m b (2 : Int32)) (Q := fun o' t' => ∃ v' L', o' = .returned v' ∧ Qai2 Z b z h0 n0 v' t'.heap L' ∧ FrameEnd s o' t' L' ({ frames := 1, cells := 1, slots := 2, locals := 12 } : Room).cells ({ frames := 1, cells := 1, slots := 2, locals := 12 } : Room).slots) ?_
  show own_Fin p e below (s₁.setTop (mkF m 0 #[.val (.ref b), .val (.int 2)] [])) _
  refine own_go (fun _ k => XS.aloadN X0.here hx rfl (hb hby d3_0) rfl rfl k) ?_
  show own_Fin p e below (s₁.setTop (mkF m 1 #[.val (.ref b), .val (.int 2)] [(.ref b)])) _
  obtain ⟨T29, X29, e29, st29⟩ := initO X0 hx hZ hown (ow hw 17) (ow hw 18) (ow hw 19) e0 (g := (mkF m 1 #[.val (.ref b), .val (.int 2)] [(.ref b)])) rfl (by rw [hml]; rfl) rfl (hb hby d3_1) (by decide) (W := 0) (by show 2 * 0 + _ ≤ _; exact Nat.le_of_eq rfl) (by decide)
  refine own_go (fun _ k => st29 _ k) ?_
  show own_Fin p e below (T29.setTop (mkF m 4 #[.val (.ref b), .val (.int 2)] [])) _
  obtain ⟨T30, X30, e30, st30⟩ := getS2 X29 hx hZ hown (host := "") (Or.inl (ow hw 20)) Via.refl e29 (S_String_COMPACT_STRINGS.ext O.2) (g := (mkF m 4 #[.val (.ref b), .val (.int 2)] [])) rfl (hb hby d3_4)
  refine own_go (fun _ k => st30 _ k) ?_
  show own_Fin p e below (T30.setTop (mkF m 7 #[.val (.ref b), .val (.int 2)] [(.int z)])) _
  refine own_go (fun _ k => XS.ifNo X30.here hx rfl (hb hby d3_7) rfl ((if0 _ _).trans (feq hz).1) (XS.aloadN X30.here hx rfl (hb hby d3_10) rfl rfl (XS.iloadN X30.here hx rfl (hb hby d3_11) rfl k))) ?_
  show own_Fin p e below (T30.setTop (mkF m 12 #[.val (.ref b), .val (.int 2)] [(.int 2), (.ref b)])) _
  obtain ⟨T31, h31, k31, X31, e31, E31, A31, B31, st31⟩ := newPE X30 hx hZ (ow hw 0) e30 (g := (mkF m 12 #[.val (.ref b), .val (.int 2)] [(.int 2), (.ref b)])) rfl (hb hby d3_12) rfl (by decide) (cap := 2) (by decide) (by decide) (by decide) (by decide) (ad := "[B") (by decide)
  obtain ⟨b31, g31⟩ : ∃ z, z = h0.size := ⟨_, rfl⟩
  rw [← g31] at A31 st31 B31
  refine own_go (fun _ k => st31 _ k) ?_
  have ne_b_b31 : b ≠ b31 := Nat.ne_of_lt (Nat.lt_of_lt_of_le E_b.lt (Nat.le_of_eq g31.symm))
  have g_b31 : n0 ≤ b31 := Nat.le_trans (own_osz O) (Nat.le_of_eq g31.symm)
  have sz_b31 : h0.size ≤ b31 := Nat.le_trans K0.1 (Nat.le_of_eq g31.symm)
  have E_b := E_b.ext E31
  have F_b_ASB_value := F_b_ASB_value.ext E31
  have F_b_ASB_coder := F_b_ASB_coder.ext E31
  have F_b_ASB_count := F_b_ASB_count.ext E31
  have O := O.ext E31
  have K32 := K0.ext E31
  have E_b31 := B31
  have V_b31 : Arv Z h31 b31 k31 .byte (2 : Int32) [(.int 0), (.int 0)] (.int 0) := (Arv.new A31 (by decide)).pad (pad_rep [] (.int 0) 2)
  show own_Fin p e below (T31.setTop (mkF m 14 #[.val (.ref b), .val (.int 2)] [(.ref b31), (.ref b)])) _
  obtain ⟨T33, h33, X33, e33, W33, st33⟩ := putF X31 hx hZ hown (host := "") (Or.inl (ow hw 22)) Via.refl e31 F_b_ASB_value E_b (Or.inl (ow hw 23)) (ow hw 6) (ty := (.array .byte)) (by decide) rfl rfl (g := (mkF m 14 #[.val (.ref b), .val (.int 2)] [(.ref b31), (.ref b)])) rfl rfl (hb hby d3_14)
  refine own_go (fun _ k => st33 _ k) ?_
  have E_b := E_b.wr W33
  have F_b_ASB_coder := F_b_ASB_coder.other W33 (Or.inr (slot_ne (Or.inl (ow hw 25)) (Or.inl (ow hw 23)) (by decide) (t := .byte) (t' := (.array .byte)) (by decide) (by decide)))
  have F_b_ASB_count := F_b_ASB_count.other W33 (Or.inr (slot_ne (Or.inl (ow hw 56)) (Or.inl (ow hw 23)) (by decide) (t := .int) (t' := (.array .byte)) (by decide) (by decide)))
  have E_b31 := E_b31.wr W33
  have V_b31 := V_b31.other W33 (Ne.symm ne_b_b31)
  have O := O.wr W33 g_b
  have K34 := K32.wr W33 (Or.inl (List.mem_of_getElem? (i := 0) rfl))
  have F_b_ASB_value := F_b_ASB_value.same W33
  have N33 := Fr.snoc X33 N0 g_b
  show own_Fin p e below (T33.setTop (mkF m 17 #[.val (.ref b), .val (.int 2)] [])) _
  refine own_go (fun _ k => XS.aloadN X33.here hx rfl (hb hby d3_17) rfl rfl (XS.iconst X33.here hx rfl (hb hby d3_18) k)) ?_
  show own_Fin p e below (T33.setTop (mkF m 19 #[.val (.ref b), .val (.int 2)] [(.int 0), (.ref b)])) _
  obtain ⟨T35, h35, X35, e35, W35, st35⟩ := putF X33 hx hZ hown (host := "") (Or.inl (ow hw 24)) Via.refl e33 F_b_ASB_coder E_b (Or.inl (ow hw 25)) (ow hw 6) (ty := .byte) (by decide) rfl rfl (g := (mkF m 19 #[.val (.ref b), .val (.int 2)] [(.int 0), (.ref b)])) rfl rfl (hb hby d3_19)
  refine own_go (fun _ k => st35 _ k) ?_
  have E_b := E_b.wr W35
  have F_b_ASB_value := F_b_ASB_value.other W35 (Or.inr (slot_ne (Or.inl (ow hw 23)) (Or.inl (ow hw 25)) (by decide) (t := (.array .byte)) (t' := .byte) (by decide) (by decide)))
  have F_b_ASB_count := F_b_ASB_count.other W35 (Or.inr (slot_ne (Or.inl (ow hw 56)) (Or.inl (ow hw 25)) (by decide) (t := .int) (t' := .byte) (by decide) (by decide)))
  have E_b31 := E_b31.wr W35
  have V_b31 := V_b31.other W35 (Ne.symm ne_b_b31)
  have O := O.wr W35 g_b
  have K36 := K34.wr W35 (Or.inl (List.mem_of_getElem? (i := 0) rfl))
  have F_b_ASB_coder := F_b_ASB_coder.same W35
  have N35 := Fr.snoc X35 N33 g_b
  show own_Fin p e below (T35.setTop (mkF m 22 #[.val (.ref b), .val (.int 2)] [])) _
  refine own_go (fun _ k => XS.goto X35.here hx rfl (pc0 := 22) (pc' := 38) rfl (hb hby d3_22) (by decide) (by decide) k) ?_
  show own_Fin p e below (T35.setTop (mkF m 38 #[.val (.ref b), .val (.int 2)] [])) _
  obtain ⟨fs, hr, hrun, hended, hW, hsame⟩ := X35.leave (v := none) (fun _ => rfl)
  refine ⟨_, _, ?_, hrun, hended, _, _, rfl, ?_, ⟨_, rfl⟩, hW, hsame.mono (by decide) (by decide)⟩
  ·exact X35.returnOut hx Bd.returns (hb hby d3_38) hr
  ·show Qai2 Z b z h0 n0 _ T35.heap _
   rw [e35]
   exact ⟨b31, k31, rfl, N35, K36, sz_b31, E_b, F_b_ASB_value, F_b_ASB_coder, F_b_ASB_count, V_b31, E_b31⟩
theorem ef_si2 (m : MethodId) (x0 : Addr) (x1 : Int32) : entryFrame m #[(.ref x0), (.int x1)] 2 = mkF m 0 #[.val (.ref x0), .val (.int x1)] [] := by first | (simp [entryFrame, mkF, argsToLocals, Value.category]; done) | rfl
def Qsi2 (Z : State) (b : Addr) (z : Int32) (h0 : Heap) (n0 : Nat) (v : Option Value) (h : Heap) (L : List Loc) : Prop := ∃ (t_ : Addr) (k_ : ClassId), v = none ∧ Fr n0 L ∧ Keep h0 h [b] ∧ h0.size ≤ t_ ∧ Exa Z h b "java/lang/StringBuilder" ∧ Fld Z h b "java/lang/AbstractStringBuilder" "value" "[B" (.ref t_) ∧ Fld Z h b "java/lang/AbstractStringBuilder" "coder" "B" (.int 0) ∧ Fld Z h b "java/lang/AbstractStringBuilder" "count" "I" (.int 0) ∧ Arv Z h t_ k_ .byte (2 : Int32) [(.int 0), (.int 0)] (.int 0) ∧ Exa Z h t_ "[B"
set_option maxRecDepth 65536 in
set_option maxHeartbeats 40000000 in
theorem si2 (l : Launch) (Z : State) (a0 : Array Value) (hw : ∀ d ∈ tables_1, d.before a0 Z = true) (ws : List Jvm.Cond) (b : Addr) (z : Int32) (h0 : Heap) (n0 : Nat) (O : Old Z n0 h0) (S_String_COMPACT_STRINGS : Sta Z Z.heap "java/lang/String" "COMPACT_STRINGS" "Z" (.int z)) (hz : ¬ (z = (0 : Int32))) (E_b : Exa Z h0 b "java/lang/StringBuilder") (F_b_ASB_value : Fld Z h0 b "java/lang/AbstractStringBuilder" "value" "[B" .null) (F_b_ASB_coder : Fld Z h0 b "java/lang/AbstractStringBuilder" "coder" "B" (.int 0)) (F_b_ASB_count : Fld Z h0 b "java/lang/AbstractStringBuilder" "count" "I" (.int 0)) (g_b : n0 ≤ b) :
    MetFree l (⟨"java/lang/StringBuilder", "<init>", "(I)V"⟩ : MethodName) (head1 (Jvm.Cond.code (⟨"java/lang/StringBuilder", "<init>", "(I)V"⟩ : MethodName) jdk_67_method_2_code 2 none :: ws) ({ frames := 2, cells := 1, slots := 2, locals := 25 } : Room)) (fun a' U' => a' = #[(.ref b), (.int 2)] ∧ Z.Warmed39 U'.vm ∧ U'.heap = h0) (fun _ _ _ _ _ => True) (fun _ U' o' W' => ∃ v' L', o' = .returned v' ∧ Qsi2 Z b z h0 n0 v' W'.heap L' ∧ FrameEnd U' o' W' L' ({ frames := 2, cells := 1, slots := 2, locals := 25 } : Room).cells ({ frames := 2, cells := 1, slots := 2, locals := 25 } : Room).slots) := by
  refine MetFree.of_bodySF (plainFor_of_name pn_1) hisR ?_
  intro p e s m args below meth c s₁ Bd hml0 hP hK
  obtain ⟨rfl, hZ, hh⟩ := hP
  have hx := Bd.exec
  have hby := Bd.bytes
  have hml : c.maxLocals = 2 := hml0
  have hown : s.vm.findClass "java/lang/StringBuilder" = some m.cls := findClass_of_methodNamed Bd.named
  have hnm := (name_of_methodNamed Bd.named Bd.method).1
  have X0 : Stand p l e ({ frames := 2, cells := 1, slots := 2, locals := 25 } : Room) s m #[(.ref b), (.int 2)] below meth c s₁ [] 0 0 := Stand.of_body Bd
  have e0 : s₁.heap = h0 := by rw [← hh, Bd.state]; rfl
  have N0 := Fr.nil n0
  have K0 := Keep.refl h0 [b]
  refine own_start (ef_si2 m b (2 : Int32)) (Q := fun o' t' => ∃ v' L', o' = .returned v' ∧ Qsi2 Z b z h0 n0 v' t'.heap L' ∧ FrameEnd s o' t' L' ({ frames := 2, cells := 1, slots := 2, locals := 25 } : Room).cells ({ frames := 2, cells := 1, slots := 2, locals := 25 } : Room).slots) ?_
  show own_Fin p e below (s₁.setTop (mkF m 0 #[.val (.ref b), .val (.int 2)] [])) _
  refine own_go (fun _ k => XS.aloadN X0.here hx rfl (hb hby d2_0) rfl rfl (XS.iloadN X0.here hx rfl (hb hby d2_1) rfl k)) ?_
  show own_Fin p e below (s₁.setTop (mkF m 2 #[.val (.ref b), .val (.int 2)] [(.int 2), (.ref b)])) _
  obtain ⟨_, _, ⟨T38, L38, k38, n38⟩, -, X38, ⟨Lc38, hQ38, l38, y38, z38⟩, st38⟩ := X0.specialBack hx (y := (⟨"java/lang/AbstractStringBuilder", "<init>", "(I)V"⟩ : MethodName)) rfl hown (mvT hZ (ow hw 11)) (mvT hZ (ow hw 12)) (mvT hZ (ow hw 16)) (by decide) (backOf (W := 0) (ai2 l Z a0 hw [] b z h0 n0 O S_String_COMPACT_STRINGS hz E_b F_b_ASB_value F_b_ASB_coder F_b_ASB_count g_b) hZ (ow hw 16) (ow hw 15) (by decide) (by decide)) (g := (mkF m 2 #[.val (.ref b), .val (.int 2)] [(.int 2), (.ref b)])) rfl (by rw [hml]; rfl) (Steps.refl _) (a := b) (argsL := [(.int 2)]) (rest := []) (lenOf pd_0 rfl) rfl (by show 2 * 0 + _ ≤ _; exact Nat.le_of_eq rfl) (hb hby d2_2) (fun _ _ => ⟨rfl, e0, (by decide : 0 + 1 ≤ _), (by decide : 0 + 2 ≤ _)⟩)
  dsimp only [Pt.U, Pt.locs, Pt.cells, Pt.slots] at X38 l38 y38 z38 st38 hQ38
  subst l38 y38 z38
  obtain ⟨t_39, k_40, rfl, N38q, Kq38, P38_0, P38_1, P38_2, P38_3, P38_4, P38_5, P38_6⟩ := hQ38
  refine own_go (fun _ k => st38.trans k) ?_
  have N38 := Fr.app N0 N38q
  have ne_b_t_39 : b ≠ t_39 := Nat.ne_of_lt (Nat.lt_of_lt_of_le E_b.lt P38_0)
  have g_t_39 : n0 ≤ t_39 := Nat.le_trans (own_osz O) P38_0
  have sz_t_39 : h0.size ≤ t_39 := Nat.le_trans K0.1 P38_0
  have E_b := E_b.keep Kq38
  clear F_b_ASB_value
  clear F_b_ASB_coder
  clear F_b_ASB_count
  have O := O.keep Kq38 (allS g_b all0)
  have K41 := K0.trans Kq38 (allS (Or.inl (List.mem_of_getElem? (i := 0) rfl)) all0)
  have E_b := P38_1
  have F_b_ASB_value := P38_2
  have F_b_ASB_coder := P38_3
  have F_b_ASB_count := P38_4
  have V_t_39 := P38_5
  have E_t_39 := P38_6
  show own_Fin p e below (T38.setTop (mkF m 5 #[.val (.ref b), .val (.int 2)] [])) _
  obtain ⟨fs, hr, hrun, hended, hW, hsame⟩ := X38.leave (v := none) (fun _ => rfl)
  refine ⟨_, _, ?_, hrun, hended, _, _, rfl, ?_, ⟨_, rfl⟩, hW, hsame.mono (by decide) (by decide)⟩
  ·exact X38.returnOut hx Bd.returns (hb hby d2_5) hr
  ·show Qsi2 Z b z h0 n0 _ T38.heap _
   exact ⟨t_39, k_40, rfl, N38, K41, sz_t_39, E_b, F_b_ASB_value, F_b_ASB_coder, F_b_ASB_count, V_t_39, E_t_39⟩
theorem ef_ai3 (m : MethodId) (x0 : Addr) (x1 : Int32) : entryFrame m #[(.ref x0), (.int x1)] 2 = mkF m 0 #[.val (.ref x0), .val (.int x1)] [] := by first | (simp [entryFrame, mkF, argsToLocals, Value.category]; done) | rfl
def Qai3 (Z : State) (b : Addr) (z : Int32) (h0 : Heap) (n0 : Nat) (v : Option Value) (h : Heap) (L : List Loc) : Prop := ∃ (t_ : Addr) (k_ : ClassId), v = none ∧ Fr n0 L ∧ Keep h0 h [b] ∧ h0.size ≤ t_ ∧ Exa Z h b "java/lang/StringBuilder" ∧ Fld Z h b "java/lang/AbstractStringBuilder" "value" "[B" (.ref t_) ∧ Fld Z h b "java/lang/AbstractStringBuilder" "coder" "B" (.int 0) ∧ Fld Z h b "java/lang/AbstractStringBuilder" "count" "I" (.int 0) ∧ Arv Z h t_ k_ .byte (3 : Int32) [(.int 0), (.int 0), (.int 0)] (.int 0) ∧ Exa Z h t_ "[B"
set_option maxRecDepth 65536 in
set_option maxHeartbeats 40000000 in
theorem ai3 (l : Launch) (Z : State) (a0 : Array Value) (hw : ∀ d ∈ tables_1, d.before a0 Z = true) (ws : List Jvm.Cond) (b : Addr) (z : Int32) (h0 : Heap) (n0 : Nat) (O : Old Z n0 h0) (S_String_COMPACT_STRINGS : Sta Z Z.heap "java/lang/String" "COMPACT_STRINGS" "Z" (.int z)) (hz : ¬ (z = (0 : Int32))) (E_b : Exa Z h0 b "java/lang/StringBuilder") (F_b_ASB_value : Fld Z h0 b "java/lang/AbstractStringBuilder" "value" "[B" .null) (F_b_ASB_coder : Fld Z h0 b "java/lang/AbstractStringBuilder" "coder" "B" (.int 0)) (F_b_ASB_count : Fld Z h0 b "java/lang/AbstractStringBuilder" "count" "I" (.int 0)) (g_b : n0 ≤ b) :
    MetFree l (⟨"java/lang/AbstractStringBuilder", "<init>", "(I)V"⟩ : MethodName) (head1 (Jvm.Cond.code (⟨"java/lang/AbstractStringBuilder", "<init>", "(I)V"⟩ : MethodName) jdk_68_method_2_code 2 none :: ws) ({ frames := 1, cells := 1, slots := 3, locals := 12 } : Room)) (fun a' U' => a' = #[(.ref b), (.int 3)] ∧ Z.Warmed39 U'.vm ∧ U'.heap = h0) (fun _ _ _ _ _ => True) (fun _ U' o' W' => ∃ v' L', o' = .returned v' ∧ Qai3 Z b z h0 n0 v' W'.heap L' ∧ FrameEnd U' o' W' L' ({ frames := 1, cells := 1, slots := 3, locals := 12 } : Room).cells ({ frames := 1, cells := 1, slots := 3, locals := 12 } : Room).slots) := by
  refine MetFree.of_bodySF (plainFor_of_name pn_0) hisR ?_
  intro p e s m args below meth c s₁ Bd hml0 hP hK
  obtain ⟨rfl, hZ, hh⟩ := hP
  have hx := Bd.exec
  have hby := Bd.bytes
  have hml : c.maxLocals = 2 := hml0
  have hown : s.vm.findClass "java/lang/AbstractStringBuilder" = some m.cls := findClass_of_methodNamed Bd.named
  have hnm := (name_of_methodNamed Bd.named Bd.method).1
  have X0 : Stand p l e ({ frames := 1, cells := 1, slots := 3, locals := 12 } : Room) s m #[(.ref b), (.int 3)] below meth c s₁ [] 0 0 := Stand.of_body Bd
  have e0 : s₁.heap = h0 := by rw [← hh, Bd.state]; rfl
  have N0 := Fr.nil n0
  have K0 := Keep.refl h0 [b]
  refine own_start (ef_ai3 m b (3 : Int32)) (Q := fun o' t' => ∃ v' L', o' = .returned v' ∧ Qai3 Z b z h0 n0 v' t'.heap L' ∧ FrameEnd s o' t' L' ({ frames := 1, cells := 1, slots := 3, locals := 12 } : Room).cells ({ frames := 1, cells := 1, slots := 3, locals := 12 } : Room).slots) ?_
  show own_Fin p e below (s₁.setTop (mkF m 0 #[.val (.ref b), .val (.int 3)] [])) _
  refine own_go (fun _ k => XS.aloadN X0.here hx rfl (hb hby d3_0) rfl rfl k) ?_
  show own_Fin p e below (s₁.setTop (mkF m 1 #[.val (.ref b), .val (.int 3)] [(.ref b)])) _
  obtain ⟨T43, X43, e43, st43⟩ := initO X0 hx hZ hown (ow hw 17) (ow hw 18) (ow hw 19) e0 (g := (mkF m 1 #[.val (.ref b), .val (.int 3)] [(.ref b)])) rfl (by rw [hml]; rfl) rfl (hb hby d3_1) (by decide) (W := 0) (by show 2 * 0 + _ ≤ _; exact Nat.le_of_eq rfl) (by decide)
  refine own_go (fun _ k => st43 _ k) ?_
  show own_Fin p e below (T43.setTop (mkF m 4 #[.val (.ref b), .val (.int 3)] [])) _
  obtain ⟨T44, X44, e44, st44⟩ := getS2 X43 hx hZ hown (host := "") (Or.inl (ow hw 20)) Via.refl e43 (S_String_COMPACT_STRINGS.ext O.2) (g := (mkF m 4 #[.val (.ref b), .val (.int 3)] [])) rfl (hb hby d3_4)
  refine own_go (fun _ k => st44 _ k) ?_
  show own_Fin p e below (T44.setTop (mkF m 7 #[.val (.ref b), .val (.int 3)] [(.int z)])) _
  refine own_go (fun _ k => XS.ifNo X44.here hx rfl (hb hby d3_7) rfl ((if0 _ _).trans (feq hz).1) (XS.aloadN X44.here hx rfl (hb hby d3_10) rfl rfl (XS.iloadN X44.here hx rfl (hb hby d3_11) rfl k))) ?_
  show own_Fin p e below (T44.setTop (mkF m 12 #[.val (.ref b), .val (.int 3)] [(.int 3), (.ref b)])) _
  obtain ⟨T45, h45, k45, X45, e45, E45, A45, B45, st45⟩ := newPE X44 hx hZ (ow hw 0) e44 (g := (mkF m 12 #[.val (.ref b), .val (.int 3)] [(.int 3), (.ref b)])) rfl (hb hby d3_12) rfl (by decide) (cap := 3) (by decide) (by decide) (by decide) (by decide) (ad := "[B") (by decide)
  obtain ⟨b45, g45⟩ : ∃ z, z = h0.size := ⟨_, rfl⟩
  rw [← g45] at A45 st45 B45
  refine own_go (fun _ k => st45 _ k) ?_
  have ne_b_b45 : b ≠ b45 := Nat.ne_of_lt (Nat.lt_of_lt_of_le E_b.lt (Nat.le_of_eq g45.symm))
  have g_b45 : n0 ≤ b45 := Nat.le_trans (own_osz O) (Nat.le_of_eq g45.symm)
  have sz_b45 : h0.size ≤ b45 := Nat.le_trans K0.1 (Nat.le_of_eq g45.symm)
  have E_b := E_b.ext E45
  have F_b_ASB_value := F_b_ASB_value.ext E45
  have F_b_ASB_coder := F_b_ASB_coder.ext E45
  have F_b_ASB_count := F_b_ASB_count.ext E45
  have O := O.ext E45
  have K46 := K0.ext E45
  have E_b45 := B45
  have V_b45 : Arv Z h45 b45 k45 .byte (3 : Int32) [(.int 0), (.int 0), (.int 0)] (.int 0) := (Arv.new A45 (by decide)).pad (pad_rep [] (.int 0) 3)
  show own_Fin p e below (T45.setTop (mkF m 14 #[.val (.ref b), .val (.int 3)] [(.ref b45), (.ref b)])) _
  obtain ⟨T47, h47, X47, e47, W47, st47⟩ := putF X45 hx hZ hown (host := "") (Or.inl (ow hw 22)) Via.refl e45 F_b_ASB_value E_b (Or.inl (ow hw 23)) (ow hw 6) (ty := (.array .byte)) (by decide) rfl rfl (g := (mkF m 14 #[.val (.ref b), .val (.int 3)] [(.ref b45), (.ref b)])) rfl rfl (hb hby d3_14)
  refine own_go (fun _ k => st47 _ k) ?_
  have E_b := E_b.wr W47
  have F_b_ASB_coder := F_b_ASB_coder.other W47 (Or.inr (slot_ne (Or.inl (ow hw 25)) (Or.inl (ow hw 23)) (by decide) (t := .byte) (t' := (.array .byte)) (by decide) (by decide)))
  have F_b_ASB_count := F_b_ASB_count.other W47 (Or.inr (slot_ne (Or.inl (ow hw 56)) (Or.inl (ow hw 23)) (by decide) (t := .int) (t' := (.array .byte)) (by decide) (by decide)))
  have E_b45 := E_b45.wr W47
  have V_b45 := V_b45.other W47 (Ne.symm ne_b_b45)
  have O := O.wr W47 g_b
  have K48 := K46.wr W47 (Or.inl (List.mem_of_getElem? (i := 0) rfl))
  have F_b_ASB_value := F_b_ASB_value.same W47
  have N47 := Fr.snoc X47 N0 g_b
  show own_Fin p e below (T47.setTop (mkF m 17 #[.val (.ref b), .val (.int 3)] [])) _
  refine own_go (fun _ k => XS.aloadN X47.here hx rfl (hb hby d3_17) rfl rfl (XS.iconst X47.here hx rfl (hb hby d3_18) k)) ?_
  show own_Fin p e below (T47.setTop (mkF m 19 #[.val (.ref b), .val (.int 3)] [(.int 0), (.ref b)])) _
  obtain ⟨T49, h49, X49, e49, W49, st49⟩ := putF X47 hx hZ hown (host := "") (Or.inl (ow hw 24)) Via.refl e47 F_b_ASB_coder E_b (Or.inl (ow hw 25)) (ow hw 6) (ty := .byte) (by decide) rfl rfl (g := (mkF m 19 #[.val (.ref b), .val (.int 3)] [(.int 0), (.ref b)])) rfl rfl (hb hby d3_19)
  refine own_go (fun _ k => st49 _ k) ?_
  have E_b := E_b.wr W49
  have F_b_ASB_value := F_b_ASB_value.other W49 (Or.inr (slot_ne (Or.inl (ow hw 23)) (Or.inl (ow hw 25)) (by decide) (t := (.array .byte)) (t' := .byte) (by decide) (by decide)))
  have F_b_ASB_count := F_b_ASB_count.other W49 (Or.inr (slot_ne (Or.inl (ow hw 56)) (Or.inl (ow hw 25)) (by decide) (t := .int) (t' := .byte) (by decide) (by decide)))
  have E_b45 := E_b45.wr W49
  have V_b45 := V_b45.other W49 (Ne.symm ne_b_b45)
  have O := O.wr W49 g_b
  have K50 := K48.wr W49 (Or.inl (List.mem_of_getElem? (i := 0) rfl))
  have F_b_ASB_coder := F_b_ASB_coder.same W49
  have N49 := Fr.snoc X49 N47 g_b
  show own_Fin p e below (T49.setTop (mkF m 22 #[.val (.ref b), .val (.int 3)] [])) _
  refine own_go (fun _ k => XS.goto X49.here hx rfl (pc0 := 22) (pc' := 38) rfl (hb hby d3_22) (by decide) (by decide) k) ?_
  show own_Fin p e below (T49.setTop (mkF m 38 #[.val (.ref b), .val (.int 3)] [])) _
  obtain ⟨fs, hr, hrun, hended, hW, hsame⟩ := X49.leave (v := none) (fun _ => rfl)
  refine ⟨_, _, ?_, hrun, hended, _, _, rfl, ?_, ⟨_, rfl⟩, hW, hsame.mono (by decide) (by decide)⟩
  ·exact X49.returnOut hx Bd.returns (hb hby d3_38) hr
  ·show Qai3 Z b z h0 n0 _ T49.heap _
   rw [e49]
   exact ⟨b45, k45, rfl, N49, K50, sz_b45, E_b, F_b_ASB_value, F_b_ASB_coder, F_b_ASB_count, V_b45, E_b45⟩
theorem ef_si3 (m : MethodId) (x0 : Addr) (x1 : Int32) : entryFrame m #[(.ref x0), (.int x1)] 2 = mkF m 0 #[.val (.ref x0), .val (.int x1)] [] := by first | (simp [entryFrame, mkF, argsToLocals, Value.category]; done) | rfl
def Qsi3 (Z : State) (b : Addr) (z : Int32) (h0 : Heap) (n0 : Nat) (v : Option Value) (h : Heap) (L : List Loc) : Prop := ∃ (t_ : Addr) (k_ : ClassId), v = none ∧ Fr n0 L ∧ Keep h0 h [b] ∧ h0.size ≤ t_ ∧ Exa Z h b "java/lang/StringBuilder" ∧ Fld Z h b "java/lang/AbstractStringBuilder" "value" "[B" (.ref t_) ∧ Fld Z h b "java/lang/AbstractStringBuilder" "coder" "B" (.int 0) ∧ Fld Z h b "java/lang/AbstractStringBuilder" "count" "I" (.int 0) ∧ Arv Z h t_ k_ .byte (3 : Int32) [(.int 0), (.int 0), (.int 0)] (.int 0) ∧ Exa Z h t_ "[B"
set_option maxRecDepth 65536 in
set_option maxHeartbeats 40000000 in
theorem si3 (l : Launch) (Z : State) (a0 : Array Value) (hw : ∀ d ∈ tables_1, d.before a0 Z = true) (ws : List Jvm.Cond) (b : Addr) (z : Int32) (h0 : Heap) (n0 : Nat) (O : Old Z n0 h0) (S_String_COMPACT_STRINGS : Sta Z Z.heap "java/lang/String" "COMPACT_STRINGS" "Z" (.int z)) (hz : ¬ (z = (0 : Int32))) (E_b : Exa Z h0 b "java/lang/StringBuilder") (F_b_ASB_value : Fld Z h0 b "java/lang/AbstractStringBuilder" "value" "[B" .null) (F_b_ASB_coder : Fld Z h0 b "java/lang/AbstractStringBuilder" "coder" "B" (.int 0)) (F_b_ASB_count : Fld Z h0 b "java/lang/AbstractStringBuilder" "count" "I" (.int 0)) (g_b : n0 ≤ b) :
    MetFree l (⟨"java/lang/StringBuilder", "<init>", "(I)V"⟩ : MethodName) (head1 (Jvm.Cond.code (⟨"java/lang/StringBuilder", "<init>", "(I)V"⟩ : MethodName) jdk_67_method_2_code 2 none :: ws) ({ frames := 2, cells := 1, slots := 3, locals := 25 } : Room)) (fun a' U' => a' = #[(.ref b), (.int 3)] ∧ Z.Warmed39 U'.vm ∧ U'.heap = h0) (fun _ _ _ _ _ => True) (fun _ U' o' W' => ∃ v' L', o' = .returned v' ∧ Qsi3 Z b z h0 n0 v' W'.heap L' ∧ FrameEnd U' o' W' L' ({ frames := 2, cells := 1, slots := 3, locals := 25 } : Room).cells ({ frames := 2, cells := 1, slots := 3, locals := 25 } : Room).slots) := by
  refine MetFree.of_bodySF (plainFor_of_name pn_1) hisR ?_
  intro p e s m args below meth c s₁ Bd hml0 hP hK
  obtain ⟨rfl, hZ, hh⟩ := hP
  have hx := Bd.exec
  have hby := Bd.bytes
  have hml : c.maxLocals = 2 := hml0
  have hown : s.vm.findClass "java/lang/StringBuilder" = some m.cls := findClass_of_methodNamed Bd.named
  have hnm := (name_of_methodNamed Bd.named Bd.method).1
  have X0 : Stand p l e ({ frames := 2, cells := 1, slots := 3, locals := 25 } : Room) s m #[(.ref b), (.int 3)] below meth c s₁ [] 0 0 := Stand.of_body Bd
  have e0 : s₁.heap = h0 := by rw [← hh, Bd.state]; rfl
  have N0 := Fr.nil n0
  have K0 := Keep.refl h0 [b]
  refine own_start (ef_si3 m b (3 : Int32)) (Q := fun o' t' => ∃ v' L', o' = .returned v' ∧ Qsi3 Z b z h0 n0 v' t'.heap L' ∧ FrameEnd s o' t' L' ({ frames := 2, cells := 1, slots := 3, locals := 25 } : Room).cells ({ frames := 2, cells := 1, slots := 3, locals := 25 } : Room).slots) ?_
  show own_Fin p e below (s₁.setTop (mkF m 0 #[.val (.ref b), .val (.int 3)] [])) _
  refine own_go (fun _ k => XS.aloadN X0.here hx rfl (hb hby d2_0) rfl rfl (XS.iloadN X0.here hx rfl (hb hby d2_1) rfl k)) ?_
  show own_Fin p e below (s₁.setTop (mkF m 2 #[.val (.ref b), .val (.int 3)] [(.int 3), (.ref b)])) _
  obtain ⟨_, _, ⟨T52, L52, k52, n52⟩, -, X52, ⟨Lc52, hQ52, l52, y52, z52⟩, st52⟩ := X0.specialBack hx (y := (⟨"java/lang/AbstractStringBuilder", "<init>", "(I)V"⟩ : MethodName)) rfl hown (mvT hZ (ow hw 11)) (mvT hZ (ow hw 12)) (mvT hZ (ow hw 16)) (by decide) (backOf (W := 0) (ai3 l Z a0 hw [] b z h0 n0 O S_String_COMPACT_STRINGS hz E_b F_b_ASB_value F_b_ASB_coder F_b_ASB_count g_b) hZ (ow hw 16) (ow hw 15) (by decide) (by decide)) (g := (mkF m 2 #[.val (.ref b), .val (.int 3)] [(.int 3), (.ref b)])) rfl (by rw [hml]; rfl) (Steps.refl _) (a := b) (argsL := [(.int 3)]) (rest := []) (lenOf pd_0 rfl) rfl (by show 2 * 0 + _ ≤ _; exact Nat.le_of_eq rfl) (hb hby d2_2) (fun _ _ => ⟨rfl, e0, (by decide : 0 + 1 ≤ _), (by decide : 0 + 3 ≤ _)⟩)
  dsimp only [Pt.U, Pt.locs, Pt.cells, Pt.slots] at X52 l52 y52 z52 st52 hQ52
  subst l52 y52 z52
  obtain ⟨t_53, k_54, rfl, N52q, Kq52, P52_0, P52_1, P52_2, P52_3, P52_4, P52_5, P52_6⟩ := hQ52
  refine own_go (fun _ k => st52.trans k) ?_
  have N52 := Fr.app N0 N52q
  have ne_b_t_53 : b ≠ t_53 := Nat.ne_of_lt (Nat.lt_of_lt_of_le E_b.lt P52_0)
  have g_t_53 : n0 ≤ t_53 := Nat.le_trans (own_osz O) P52_0
  have sz_t_53 : h0.size ≤ t_53 := Nat.le_trans K0.1 P52_0
  have E_b := E_b.keep Kq52
  clear F_b_ASB_value
  clear F_b_ASB_coder
  clear F_b_ASB_count
  have O := O.keep Kq52 (allS g_b all0)
  have K55 := K0.trans Kq52 (allS (Or.inl (List.mem_of_getElem? (i := 0) rfl)) all0)
  have E_b := P52_1
  have F_b_ASB_value := P52_2
  have F_b_ASB_coder := P52_3
  have F_b_ASB_count := P52_4
  have V_t_53 := P52_5
  have E_t_53 := P52_6
  show own_Fin p e below (T52.setTop (mkF m 5 #[.val (.ref b), .val (.int 3)] [])) _
  obtain ⟨fs, hr, hrun, hended, hW, hsame⟩ := X52.leave (v := none) (fun _ => rfl)
  refine ⟨_, _, ?_, hrun, hended, _, _, rfl, ?_, ⟨_, rfl⟩, hW, hsame.mono (by decide) (by decide)⟩
  ·exact X52.returnOut hx Bd.returns (hb hby d2_5) hr
  ·show Qsi3 Z b z h0 n0 _ T52.heap _
   exact ⟨t_53, k_54, rfl, N52, K55, sz_t_53, E_b, F_b_ASB_value, F_b_ASB_coder, F_b_ASB_count, V_t_53, E_t_53⟩
theorem d11_0 : decode jdk_68_method_68_code 0 = .ok (.getstatic 18, 3) := by decide +kernel
theorem d11_3 : decode jdk_68_method_68_code 3 = .ok (.ifCond .eq 14, 3) := by decide +kernel
theorem d11_6 : decode jdk_68_method_68_code 6 = .ok (.aload_n 0, 1) := by decide +kernel
theorem d11_7 : decode jdk_68_method_68_code 7 = .ok (.getfield 22, 3) := by decide +kernel
theorem d11_10 : decode jdk_68_method_68_code 10 = .ok (.ifCond .ne 7, 3) := by decide +kernel
theorem d11_13 : decode jdk_68_method_68_code 13 = .ok (.iconst 1, 1) := by decide +kernel
theorem d11_14 : decode jdk_68_method_68_code 14 = .ok (.goto 4, 3) := by decide +kernel
theorem d11_18 : decode jdk_68_method_68_code 18 = .ok (.ireturn, 1) := by decide +kernel
theorem ef_rm11 (m : MethodId) (x0 : Addr) : entryFrame m #[(.ref x0)] 1 = mkF m 0 #[.val (.ref x0)] [] := by first | (simp [entryFrame, mkF, argsToLocals, Value.category]; done) | rfl
def Qrm11 (Z : State) (b : Addr) (z : Int32) (h0 : Heap) (n0 : Nat) (v : Option Value) (h : Heap) (L : List Loc) : Prop := v = some (.int 1) ∧ Fr n0 L ∧ h = h0
set_option maxRecDepth 65536 in
set_option maxHeartbeats 40000000 in
theorem rm11 (l : Launch) (Z : State) (a0 : Array Value) (hw : ∀ d ∈ tables_1, d.before a0 Z = true) (ws : List Jvm.Cond) (b : Addr) (z : Int32) (h0 : Heap) (n0 : Nat) (O : Old Z n0 h0) (S_String_COMPACT_STRINGS : Sta Z Z.heap "java/lang/String" "COMPACT_STRINGS" "Z" (.int z)) (hz : ¬ (z = (0 : Int32))) (F_b_ASB_coder : Fld Z h0 b "java/lang/AbstractStringBuilder" "coder" "B" (.int 0)) :
    MetFree l (⟨"java/lang/AbstractStringBuilder", "isLatin1", "()Z"⟩ : MethodName) (head1 (Jvm.Cond.code (⟨"java/lang/AbstractStringBuilder", "isLatin1", "()Z"⟩ : MethodName) jdk_68_method_68_code 1 (some .boolean) :: ws) ({ frames := 0, cells := 0, slots := 0, locals := 0 } : Room)) (fun a' U' => a' = #[(.ref b)] ∧ Z.Warmed39 U'.vm ∧ U'.heap = h0) (fun _ _ _ _ _ => True) (fun _ U' o' W' => ∃ v' L', o' = .returned v' ∧ Qrm11 Z b z h0 n0 v' W'.heap L' ∧ FrameEnd U' o' W' L' ({ frames := 0, cells := 0, slots := 0, locals := 0 } : Room).cells ({ frames := 0, cells := 0, slots := 0, locals := 0 } : Room).slots) := by
  refine MetFree.of_bodySF (plainFor_of_name pn_0) hisR ?_
  intro p e s m args below meth c s₁ Bd hml0 hP hK
  obtain ⟨rfl, hZ, hh⟩ := hP
  have hx := Bd.exec
  have hby := Bd.bytes
  have hml : c.maxLocals = 1 := hml0
  have hown : s.vm.findClass "java/lang/AbstractStringBuilder" = some m.cls := findClass_of_methodNamed Bd.named
  have hnm := (name_of_methodNamed Bd.named Bd.method).1
  have X0 : Stand p l e ({ frames := 0, cells := 0, slots := 0, locals := 0 } : Room) s m #[(.ref b)] below meth c s₁ [] 0 0 := Stand.of_body Bd
  have e0 : s₁.heap = h0 := by rw [← hh, Bd.state]; rfl
  have N0 := Fr.nil n0
  refine own_start (ef_rm11 m b) (Q := fun o' t' => ∃ v' L', o' = .returned v' ∧ Qrm11 Z b z h0 n0 v' t'.heap L' ∧ FrameEnd s o' t' L' ({ frames := 0, cells := 0, slots := 0, locals := 0 } : Room).cells ({ frames := 0, cells := 0, slots := 0, locals := 0 } : Room).slots) ?_
  show own_Fin p e below (s₁.setTop (mkF m 0 #[.val (.ref b)] [])) _
  obtain ⟨T57, X57, e57, st57⟩ := getS2 X0 hx hZ hown (host := "") (Or.inl (ow hw 20)) Via.refl e0 (S_String_COMPACT_STRINGS.ext O.2) (g := (mkF m 0 #[.val (.ref b)] [])) rfl (hb hby d11_0)
  refine own_go (fun _ k => st57 _ k) ?_
  show own_Fin p e below (T57.setTop (mkF m 3 #[.val (.ref b)] [(.int z)])) _
  refine own_go (fun _ k => XS.ifNo X57.here hx rfl (hb hby d11_3) rfl ((if0 _ _).trans (feq hz).1) (XS.aloadN X57.here hx rfl (hb hby d11_6) rfl rfl k)) ?_
  show own_Fin p e below (T57.setTop (mkF m 7 #[.val (.ref b)] [(.ref b)])) _
  obtain ⟨T58, X58, e58, st58⟩ := getF X57 hx hZ hown (host := "") (Or.inl (ow hw 24)) Via.refl e57 F_b_ASB_coder (g := (mkF m 7 #[.val (.ref b)] [(.ref b)])) rfl rfl (hb hby d11_7)
  refine own_go (fun _ k => st58 _ k) ?_
  show own_Fin p e below (T58.setTop (mkF m 10 #[.val (.ref b)] [(.int 0)])) _
  refine own_go (fun _ k => XS.ifNo X58.here hx rfl (hb hby d11_10) rfl ((if0 _ _).trans (teq (by decide : (0 : Int32) = (0 : Int32))).2) (XS.iconst X58.here hx rfl (hb hby d11_13) (XS.goto X58.here hx rfl (pc0 := 14) (pc' := 18) rfl (hb hby d11_14) (by decide) (by decide) k))) ?_
  show own_Fin p e below (T58.setTop (mkF m 18 #[.val (.ref b)] [(.int 1)])) _
  obtain ⟨fs, hr, hrun, hended, hW, hsame⟩ := X58.leave (v := some (.int 1)) (fun h => by rw [Bd.returns] at h; cases h)
  refine ⟨_, _, ?_, hrun, hended, _, _, rfl, ?_, ⟨_, rfl⟩, hW, hsame.mono (by decide) (by decide)⟩
  ·exact retN X58 hx (t := .boolean) Bd.returns (by simp) (hb hby d11_18) hr
  ·show Qrm11 Z b z h0 n0 _ T58.heap _
   rw [e58]
   exact ⟨rfl, N0, rfl⟩
theorem d18_0 : decode jdk_43_method_3_code 0 = .ok (.iload_n 0, 1) := by decide +kernel
theorem d18_1 : decode jdk_43_method_3_code 1 = .ok (.sipush 255, 3) := by decide +kernel
theorem d18_4 : decode jdk_43_method_3_code 4 = .ok (.if_icmp .gt 7, 3) := by decide +kernel
theorem d18_7 : decode jdk_43_method_3_code 7 = .ok (.iconst 1, 1) := by decide +kernel
theorem d18_8 : decode jdk_43_method_3_code 8 = .ok (.goto 4, 3) := by decide +kernel
theorem d18_12 : decode jdk_43_method_3_code 12 = .ok (.ireturn, 1) := by decide +kernel
theorem pn_2 : plainName "java/lang/StringLatin1" = true := by first | (simp [plainName, overriddenIn]; done) | decide +kernel
theorem ef_rm18 (m : MethodId) (x0 : Int32) : entryFrame m #[(.int x0)] 1 = mkF m 0 #[.val (.int x0)] [] := by first | (simp [entryFrame, mkF, argsToLocals, Value.category]; done) | rfl
def Qrm18 (Z : State) (c_ : Int32) (h0 : Heap) (n0 : Nat) (v : Option Value) (h : Heap) (L : List Loc) : Prop := v = some (.int 1) ∧ Fr n0 L ∧ h = h0
set_option maxRecDepth 65536 in
set_option maxHeartbeats 40000000 in
theorem rm18 (l : Launch) (Z : State) (a0 : Array Value) (hw : ∀ d ∈ tables_1, d.before a0 Z = true) (ws : List Jvm.Cond) (c_ : Int32) (h0 : Heap) (n0 : Nat) (hce : ¬ ((255 : Int32) < c_)) :
    MetFree l (⟨"java/lang/StringLatin1", "canEncode", "(C)Z"⟩ : MethodName) (head1 (Jvm.Cond.code (⟨"java/lang/StringLatin1", "canEncode", "(C)Z"⟩ : MethodName) jdk_43_method_3_code 1 (some .boolean) :: ws) ({ frames := 0, cells := 0, slots := 0, locals := 0 } : Room)) (fun a' U' => a' = #[(.int c_)] ∧ Z.Warmed39 U'.vm ∧ U'.heap = h0) (fun _ _ _ _ _ => True) (fun _ U' o' W' => ∃ v' L', o' = .returned v' ∧ Qrm18 Z c_ h0 n0 v' W'.heap L' ∧ FrameEnd U' o' W' L' ({ frames := 0, cells := 0, slots := 0, locals := 0 } : Room).cells ({ frames := 0, cells := 0, slots := 0, locals := 0 } : Room).slots) := by
  refine MetFree.of_bodySF (plainFor_of_name pn_2) hisR ?_
  intro p e s m args below meth c s₁ Bd hml0 hP hK
  obtain ⟨rfl, hZ, hh⟩ := hP
  have hx := Bd.exec
  have hby := Bd.bytes
  have hml : c.maxLocals = 1 := hml0
  have hown : s.vm.findClass "java/lang/StringLatin1" = some m.cls := findClass_of_methodNamed Bd.named
  have hnm := (name_of_methodNamed Bd.named Bd.method).1
  have X0 : Stand p l e ({ frames := 0, cells := 0, slots := 0, locals := 0 } : Room) s m #[(.int c_)] below meth c s₁ [] 0 0 := Stand.of_body Bd
  have e0 : s₁.heap = h0 := by rw [← hh, Bd.state]; rfl
  have N0 := Fr.nil n0
  refine own_start (ef_rm18 m c_) (Q := fun o' t' => ∃ v' L', o' = .returned v' ∧ Qrm18 Z c_ h0 n0 v' t'.heap L' ∧ FrameEnd s o' t' L' ({ frames := 0, cells := 0, slots := 0, locals := 0 } : Room).cells ({ frames := 0, cells := 0, slots := 0, locals := 0 } : Room).slots) ?_
  show own_Fin p e below (s₁.setTop (mkF m 0 #[.val (.int c_)] [])) _
  refine own_go (fun _ k => XS.iloadN X0.here hx rfl (hb hby d18_0) rfl (XS.sipush X0.here hx rfl (hb hby d18_1) (XS.icmpNo X0.here hx rfl (hb hby d18_4) rfl (flt hce).2.2.1 (XS.iconst X0.here hx rfl (hb hby d18_7) (XS.goto X0.here hx rfl (pc0 := 8) (pc' := 12) rfl (hb hby d18_8) (by decide) (by decide) k))))) ?_
  show own_Fin p e below (s₁.setTop (mkF m 12 #[.val (.int c_)] [(.int 1)])) _
  obtain ⟨fs, hr, hrun, hended, hW, hsame⟩ := X0.leave (v := some (.int 1)) (fun h => by rw [Bd.returns] at h; cases h)
  refine ⟨_, _, ?_, hrun, hended, _, _, rfl, ?_, ⟨_, rfl⟩, hW, hsame.mono (by decide) (by decide)⟩
  ·exact retN X0 hx (t := .boolean) Bd.returns (by simp) (hb hby d18_12) hr
  ·show Qrm18 Z c_ h0 n0 _ s₁.heap _
   rw [e0]
   exact ⟨rfl, N0, rfl⟩
theorem d8_0 : decode jdk_68_method_64_code 0 = .ok (.aload_n 0, 1) := by decide +kernel
theorem d8_1 : decode jdk_68_method_64_code 1 = .ok (.getfield 15, 3) := by decide +kernel
theorem d8_4 : decode jdk_68_method_64_code 4 = .ok (.areturn, 1) := by decide +kernel
theorem ef_rm8 (m : MethodId) (x0 : Addr) : entryFrame m #[(.ref x0)] 1 = mkF m 0 #[.val (.ref x0)] [] := by first | (simp [entryFrame, mkF, argsToLocals, Value.category]; done) | rfl
def Qrm8 (Z : State) (b : Addr) (t_ : Addr) (h0 : Heap) (n0 : Nat) (v : Option Value) (h : Heap) (L : List Loc) : Prop := v = some (.ref t_) ∧ Fr n0 L ∧ h = h0
set_option maxRecDepth 65536 in
set_option maxHeartbeats 40000000 in
theorem rm8 (l : Launch) (Z : State) (a0 : Array Value) (hw : ∀ d ∈ tables_1, d.before a0 Z = true) (ws : List Jvm.Cond) (b : Addr) (t_ : Addr) (h0 : Heap) (n0 : Nat) (O : Old Z n0 h0) (F_b_ASB_value : Fld Z h0 b "java/lang/AbstractStringBuilder" "value" "[B" (.ref t_)) :
    MetFree l (⟨"java/lang/AbstractStringBuilder", "getValue", "()[B"⟩ : MethodName) (head1 (Jvm.Cond.code (⟨"java/lang/AbstractStringBuilder", "getValue", "()[B"⟩ : MethodName) jdk_68_method_64_code 1 (some (.array .byte)) :: ws) ({ frames := 0, cells := 0, slots := 0, locals := 0 } : Room)) (fun a' U' => a' = #[(.ref b)] ∧ Z.Warmed39 U'.vm ∧ U'.heap = h0) (fun _ _ _ _ _ => True) (fun _ U' o' W' => ∃ v' L', o' = .returned v' ∧ Qrm8 Z b t_ h0 n0 v' W'.heap L' ∧ FrameEnd U' o' W' L' ({ frames := 0, cells := 0, slots := 0, locals := 0 } : Room).cells ({ frames := 0, cells := 0, slots := 0, locals := 0 } : Room).slots) := by
  refine MetFree.of_bodySF (plainFor_of_name pn_0) hisR ?_
  intro p e s m args below meth c s₁ Bd hml0 hP hK
  obtain ⟨rfl, hZ, hh⟩ := hP
  have hx := Bd.exec
  have hby := Bd.bytes
  have hml : c.maxLocals = 1 := hml0
  have hown : s.vm.findClass "java/lang/AbstractStringBuilder" = some m.cls := findClass_of_methodNamed Bd.named
  have hnm := (name_of_methodNamed Bd.named Bd.method).1
  have X0 : Stand p l e ({ frames := 0, cells := 0, slots := 0, locals := 0 } : Room) s m #[(.ref b)] below meth c s₁ [] 0 0 := Stand.of_body Bd
  have e0 : s₁.heap = h0 := by rw [← hh, Bd.state]; rfl
  have N0 := Fr.nil n0
  refine own_start (ef_rm8 m b) (Q := fun o' t' => ∃ v' L', o' = .returned v' ∧ Qrm8 Z b t_ h0 n0 v' t'.heap L' ∧ FrameEnd s o' t' L' ({ frames := 0, cells := 0, slots := 0, locals := 0 } : Room).cells ({ frames := 0, cells := 0, slots := 0, locals := 0 } : Room).slots) ?_
  show own_Fin p e below (s₁.setTop (mkF m 0 #[.val (.ref b)] [])) _
  refine own_go (fun _ k => XS.aloadN X0.here hx rfl (hb hby d8_0) rfl rfl k) ?_
  show own_Fin p e below (s₁.setTop (mkF m 1 #[.val (.ref b)] [(.ref b)])) _
  obtain ⟨T61, X61, e61, st61⟩ := getF X0 hx hZ hown (host := "") (Or.inl (ow hw 22)) Via.refl e0 F_b_ASB_value (g := (mkF m 1 #[.val (.ref b)] [(.ref b)])) rfl rfl (hb hby d8_1)
  refine own_go (fun _ k => st61 _ k) ?_
  show own_Fin p e below (T61.setTop (mkF m 4 #[.val (.ref b)] [(.ref t_)])) _
  obtain ⟨fs, hr, hrun, hended, hW, hsame⟩ := X61.leave (v := some (.ref t_)) (fun h => by rw [Bd.returns] at h; cases h)
  refine ⟨_, _, ?_, hrun, hended, _, _, rfl, ?_, ⟨_, rfl⟩, hW, hsame.mono (by decide) (by decide)⟩
  ·exact X61.areturnOut hx rfl Bd.returns rfl (hb hby d8_4) hr
  ·show Qrm8 Z b t_ h0 n0 _ T61.heap _
   rw [e61]
   exact ⟨rfl, N0, rfl⟩
def own_mx (a b : Int32) : Int32 := if a < b then b else a
def own_mn (a b : Int32) : Int32 := if b < a then b else a
def own_nw (N : Int32) : Int32 := N + (N + (2 : Int32))
def own_gr (N m_ : Int32) : Prop := m_ = N + (1 : Int32) ∧ 0 ≤ N.toInt ∧ N.toInt ≤ 8
def own_ok (N : Int32) (vs : List Value) (cn : Int32) : Prop := 0 ≤ cn.toInt ∧ cn.toInt ≤ N.toInt ∧ N.toInt ≤ 20 ∧ vs.length = N.toInt.toNat
theorem own_sh0 (N : Int32) : N >>> ((0 : Int32) &&& 31) = N := by
  have h := c_ishr N 0 0 (by decide)
  rw [← Int32.toInt_inj, h]; simp
theorem own_sl0 (N : Int32) : N <<< ((0 : Int32) &&& 31) = N := by
  have e : (0 : Int32) &&& 31 = 0 := by decide
  rw [e]; exact Int32.shiftLeft_zero
theorem own_nwi {N m_ : Int32} (h : own_gr N m_) : (own_nw N).toInt = 2 * N.toInt + 2 := by
  obtain ⟨-, h1, h2⟩ := h
  unfold own_nw
  have q1 := c_iadd N 2
  have rq1 := rng32 (N + 2)
  have q2 := c_iadd N (N + 2)
  have rq2 := rng32 (N + (N + 2))
  have e2 : (2 : Int32).toInt = 2 := by decide
  omega
theorem own_PLe {N m_ : Int32} (h : own_gr N m_) : (N + (own_mx ((m_ <<< ((0 : Int32) &&& 31)) - N) (N + (2 : Int32)))) = own_nw N := by
  have h' := h
  obtain ⟨rfl, h1, h2⟩ := h
  have e1 : (1 : Int32).toInt = 1 := by decide
  have e2 : (2 : Int32).toInt = 2 := by decide
  have q1 := c_iadd N 2
  have rq1 := rng32 (N + 2)
  have q3 := c_iadd N 1
  have rq3 := rng32 (N + 1)
  have q4 := c_isub (N + 1) N
  have rq4 := rng32 ((N + 1) - N)
  rw [own_sl0]
  unfold own_nw own_mx
  rw [if_pos (by rw [Int32.lt_iff_toInt_lt]; omega)]
theorem own_PL1 {N m_ : Int32} (h : own_gr N m_) : (0 : Int32) < (N + (own_mx ((m_ <<< ((0 : Int32) &&& 31)) - N) (N + (2 : Int32)))) := by
  have q := own_nwi h
  rw [own_PLe h, Int32.lt_iff_toInt_lt]
  obtain ⟨-, h1, h2⟩ := h
  have e : (0 : Int32).toInt = 0 := by decide
  omega
theorem own_PL2 {N m_ : Int32} (h : own_gr N m_) : ¬ ((2147483639 : Int32) < (N + (own_mx ((m_ <<< ((0 : Int32) &&& 31)) - N) (N + (2 : Int32))))) := by
  have q := own_nwi h
  rw [own_PLe h, Int32.lt_iff_toInt_lt]
  obtain ⟨-, h1, h2⟩ := h
  have e : (2147483639 : Int32).toInt = 2147483639 := by decide
  omega
theorem own_PL3 {N m_ : Int32} (h : own_gr N m_) : ¬ ((N + (own_mx ((m_ <<< ((0 : Int32) &&& 31)) - N) (N + (2 : Int32)))) = (2147483647 : Int32)) := by
  have q := own_nwi h
  rw [own_PLe h, ← Int32.toInt_inj]
  obtain ⟨-, h1, h2⟩ := h
  have e : (2147483647 : Int32).toInt = 2147483647 := by decide
  omega
theorem own_PLr {N m_ : Int32} (h : own_gr N m_) : (N + (own_mx ((m_ <<< ((0 : Int32) &&& 31)) - N) (N + (2 : Int32)))) >>> ((0 : Int32) &&& 31) = own_nw N := by rw [own_sh0, own_PLe h]
theorem own_ck {N m_ : Int32} (h : own_gr N m_) : (0 : Int32) < (m_ - (N >>> ((0 : Int32) &&& 31))) := by
  rw [own_sh0]
  obtain ⟨rfl, h1, h2⟩ := h
  have e1 : (1 : Int32).toInt = 1 := by decide
  have e : (0 : Int32).toInt = 0 := by decide
  have q3 := c_iadd N 1
  have rq3 := rng32 (N + 1)
  have q4 := c_isub (N + 1) N
  have rq4 := rng32 ((N + 1) - N)
  rw [Int32.lt_iff_toInt_lt]; omega
theorem own_us (vs : List Value) (dv : Value) : ∀ (k : Nat), k ≤ vs.length → vs.take k = (List.range k).map fun i => vs.getD (0 + i) dv := by
  intro k hk
  apply List.ext_getElem
  · simp; omega
  · intro i h1 h2
    simp at h1 h2 ⊢
    have : i < vs.length := by omega
    simp [List.getD_eq_getElem?_getD, this]
theorem own_cut (dv : Value) (us : List Value) (k j : Nat) : (([] ++ List.replicate k dv).take ((0 : Int32).toNatClampNeg) ++ us ++ ([] ++ List.replicate k dv).drop ((0 : Int32).toNatClampNeg + j)) = us ++ List.replicate (k - j) dv := by
  have e : (0 : Int32).toNatClampNeg = 0 := by decide
  rw [e]; simp
theorem own_min {a b : Int32} (h : a < b) : own_mn b a = a := by
  unfold own_mn; exact if_pos h
theorem own_min2 {a b : Int32} (h : ¬ b < a) : own_mn a b = a := by
  unfold own_mn; exact if_neg h
theorem own_nn {N : Int32} (h : 0 ≤ N.toInt) : ¬ (N < 0) := by
  have e : (0 : Int32).toInt = 0 := by decide
  rw [Int32.lt_iff_toInt_lt]; omega
theorem own_cn {N : Int32} (h : 0 ≤ N.toInt) : (N.toNatClampNeg : Int) = N.toInt := by
  have := nat_of (own_nn h); omega
def own_zs (N : Int32) (vs : List Value) : List Value := vs ++ List.replicate ((own_nw N).toNatClampNeg - N.toNatClampNeg) (.int 0)
theorem own_zl {N m_ : Int32} (h : own_gr N m_) {vs : List Value} (hl : vs.length = N.toInt.toNat) : (own_zs N vs).length = (own_nw N).toInt.toNat := by
  have q := own_nwi h
  obtain ⟨-, h1, h2⟩ := h
  have a1 := own_cn h1
  have a2 := own_cn (N := own_nw N) (by omega)
  unfold own_zs
  simp only [List.length_append, List.length_replicate]; omega
theorem d21_0 : decode jdk_29_method_65_code 0 = .ok (.iload_n 0, 1) := by decide +kernel
theorem d21_1 : decode jdk_29_method_65_code 1 = .ok (.iload_n 1, 1) := by decide +kernel
theorem d21_2 : decode jdk_29_method_65_code 2 = .ok (.if_icmp .lt 7, 3) := by decide +kernel
theorem d21_9 : decode jdk_29_method_65_code 9 = .ok (.iload_n 1, 1) := by decide +kernel
theorem d21_10 : decode jdk_29_method_65_code 10 = .ok (.ireturn, 1) := by decide +kernel
theorem d21_5 : decode jdk_29_method_65_code 5 = .ok (.iload_n 0, 1) := by decide +kernel
theorem d21_6 : decode jdk_29_method_65_code 6 = .ok (.goto 4, 3) := by decide +kernel
theorem ef_mxx (m : MethodId) (x0 : Int32) (x1 : Int32) : entryFrame m #[(.int x0), (.int x1)] 2 = mkF m 0 #[.val (.int x0), .val (.int x1)] [] := by first | (simp [entryFrame, mkF, argsToLocals, Value.category]; done) | rfl
def Qmxx (Z : State) (a : Int32) (b : Int32) (h0 : Heap) (n0 : Nat) (v : Option Value) (h : Heap) (L : List Loc) : Prop := v = some (.int (own_mx a b)) ∧ Fr n0 L ∧ h = h0
set_option maxRecDepth 65536 in
set_option maxHeartbeats 40000000 in
theorem mxx (l : Launch) (Z : State) (a0 : Array Value) (hw : ∀ d ∈ tables_1, d.before a0 Z = true) (ws : List Jvm.Cond) (a : Int32) (b : Int32) (h0 : Heap) (n0 : Nat) :
    MetFree l (⟨"java/lang/Math", "max", "(II)I"⟩ : MethodName) (head1 (Jvm.Cond.code (⟨"java/lang/Math", "max", "(II)I"⟩ : MethodName) jdk_29_method_65_code 2 (some .int) :: ws) ({ frames := 0, cells := 0, slots := 0, locals := 0 } : Room)) (fun a' U' => a' = #[(.int a), (.int b)] ∧ Z.Warmed39 U'.vm ∧ U'.heap = h0) (fun _ _ _ _ _ => True) (fun _ U' o' W' => ∃ v' L', o' = .returned v' ∧ Qmxx Z a b h0 n0 v' W'.heap L' ∧ FrameEnd U' o' W' L' ({ frames := 0, cells := 0, slots := 0, locals := 0 } : Room).cells ({ frames := 0, cells := 0, slots := 0, locals := 0 } : Room).slots) := by
  refine MetFree.of_bodySF (Jvm.Free.JP.mathPlain rfl (by decide +kernel)) hisR ?_
  intro p e s m args below meth c s₁ Bd hml0 hP hK
  obtain ⟨rfl, hZ, hh⟩ := hP
  have hx := Bd.exec
  have hby := Bd.bytes
  have hml : c.maxLocals = 2 := hml0
  have hown : s.vm.findClass "java/lang/Math" = some m.cls := findClass_of_methodNamed Bd.named
  have hnm := (name_of_methodNamed Bd.named Bd.method).1
  have X0 : Stand p l e ({ frames := 0, cells := 0, slots := 0, locals := 0 } : Room) s m #[(.int a), (.int b)] below meth c s₁ [] 0 0 := Stand.of_body Bd
  have e0 : s₁.heap = h0 := by rw [← hh, Bd.state]; rfl
  have N0 := Fr.nil n0
  refine own_start (ef_mxx m a b) (Q := fun o' t' => ∃ v' L', o' = .returned v' ∧ Qmxx Z a b h0 n0 v' t'.heap L' ∧ FrameEnd s o' t' L' ({ frames := 0, cells := 0, slots := 0, locals := 0 } : Room).cells ({ frames := 0, cells := 0, slots := 0, locals := 0 } : Room).slots) ?_
  show own_Fin p e below (s₁.setTop (mkF m 0 #[.val (.int a), .val (.int b)] [])) _
  refine own_go (fun _ k => XS.iloadN X0.here hx rfl (hb hby d21_0) rfl (XS.iloadN X0.here hx rfl (hb hby d21_1) rfl k)) ?_
  show own_Fin p e below (s₁.setTop (mkF m 2 #[.val (.int a), .val (.int b)] [(.int b), (.int a)])) _
  by_cases hc2_63 : a < b
  ·refine own_go (fun _ k => XS.icmpYes X0.here hx rfl (pc0 := 2) (pc' := 9) rfl (hb hby d21_2) rfl (tlt hc2_63).1 (by decide) (by decide) (XS.iloadN X0.here hx rfl (hb hby d21_9) rfl k)) ?_
   show own_Fin p e below (s₁.setTop (mkF m 10 #[.val (.int a), .val (.int b)] [(.int b)])) _
   obtain ⟨fs, hr, hrun, hended, hW, hsame⟩ := X0.leave (v := some (.int b)) (fun h => by rw [Bd.returns] at h; cases h)
   refine ⟨_, _, ?_, hrun, hended, _, _, rfl, ?_, ⟨_, rfl⟩, hW, hsame.mono (by decide) (by decide)⟩
   ·exact own_retI X0 hx Bd.returns (hb hby d21_10) hr
   ·show Qmxx Z a b h0 n0 _ s₁.heap _
    rw [e0]
    exact ⟨(by simp [own_mx, hc2_63]), N0, rfl⟩
  ·refine own_go (fun _ k => XS.icmpNo X0.here hx rfl (hb hby d21_2) rfl (flt hc2_63).1 (XS.iloadN X0.here hx rfl (hb hby d21_5) rfl (XS.goto X0.here hx rfl (pc0 := 6) (pc' := 10) rfl (hb hby d21_6) (by decide) (by decide) k))) ?_
   show own_Fin p e below (s₁.setTop (mkF m 10 #[.val (.int a), .val (.int b)] [(.int a)])) _
   obtain ⟨fs, hr, hrun, hended, hW, hsame⟩ := X0.leave (v := some (.int a)) (fun h => by rw [Bd.returns] at h; cases h)
   refine ⟨_, _, ?_, hrun, hended, _, _, rfl, ?_, ⟨_, rfl⟩, hW, hsame.mono (by decide) (by decide)⟩
   ·exact own_retI X0 hx Bd.returns (hb hby d21_10) hr
   ·show Qmxx Z a b h0 n0 _ s₁.heap _
    rw [e0]
    exact ⟨(by simp [own_mx, hc2_63]), N0, rfl⟩
theorem d23_0 : decode jdk_29_method_69_code 0 = .ok (.iload_n 0, 1) := by decide +kernel
theorem d23_1 : decode jdk_29_method_69_code 1 = .ok (.iload_n 1, 1) := by decide +kernel
theorem d23_2 : decode jdk_29_method_69_code 2 = .ok (.if_icmp .gt 7, 3) := by decide +kernel
theorem d23_9 : decode jdk_29_method_69_code 9 = .ok (.iload_n 1, 1) := by decide +kernel
theorem d23_10 : decode jdk_29_method_69_code 10 = .ok (.ireturn, 1) := by decide +kernel
theorem d23_5 : decode jdk_29_method_69_code 5 = .ok (.iload_n 0, 1) := by decide +kernel
theorem d23_6 : decode jdk_29_method_69_code 6 = .ok (.goto 4, 3) := by decide +kernel
theorem ef_mnn (m : MethodId) (x0 : Int32) (x1 : Int32) : entryFrame m #[(.int x0), (.int x1)] 2 = mkF m 0 #[.val (.int x0), .val (.int x1)] [] := by first | (simp [entryFrame, mkF, argsToLocals, Value.category]; done) | rfl
def Qmnn (Z : State) (a : Int32) (b : Int32) (h0 : Heap) (n0 : Nat) (v : Option Value) (h : Heap) (L : List Loc) : Prop := v = some (.int (own_mn a b)) ∧ Fr n0 L ∧ h = h0
set_option maxRecDepth 65536 in
set_option maxHeartbeats 40000000 in
theorem mnn (l : Launch) (Z : State) (a0 : Array Value) (hw : ∀ d ∈ tables_1, d.before a0 Z = true) (ws : List Jvm.Cond) (a : Int32) (b : Int32) (h0 : Heap) (n0 : Nat) :
    MetFree l (⟨"java/lang/Math", "min", "(II)I"⟩ : MethodName) (head1 (Jvm.Cond.code (⟨"java/lang/Math", "min", "(II)I"⟩ : MethodName) jdk_29_method_69_code 2 (some .int) :: ws) ({ frames := 0, cells := 0, slots := 0, locals := 0 } : Room)) (fun a' U' => a' = #[(.int a), (.int b)] ∧ Z.Warmed39 U'.vm ∧ U'.heap = h0) (fun _ _ _ _ _ => True) (fun _ U' o' W' => ∃ v' L', o' = .returned v' ∧ Qmnn Z a b h0 n0 v' W'.heap L' ∧ FrameEnd U' o' W' L' ({ frames := 0, cells := 0, slots := 0, locals := 0 } : Room).cells ({ frames := 0, cells := 0, slots := 0, locals := 0 } : Room).slots) := by
  refine MetFree.of_bodySF (Jvm.Free.JP.mathPlain rfl (by decide +kernel)) hisR ?_
  intro p e s m args below meth c s₁ Bd hml0 hP hK
  obtain ⟨rfl, hZ, hh⟩ := hP
  have hx := Bd.exec
  have hby := Bd.bytes
  have hml : c.maxLocals = 2 := hml0
  have hown : s.vm.findClass "java/lang/Math" = some m.cls := findClass_of_methodNamed Bd.named
  have hnm := (name_of_methodNamed Bd.named Bd.method).1
  have X0 : Stand p l e ({ frames := 0, cells := 0, slots := 0, locals := 0 } : Room) s m #[(.int a), (.int b)] below meth c s₁ [] 0 0 := Stand.of_body Bd
  have e0 : s₁.heap = h0 := by rw [← hh, Bd.state]; rfl
  have N0 := Fr.nil n0
  refine own_start (ef_mnn m a b) (Q := fun o' t' => ∃ v' L', o' = .returned v' ∧ Qmnn Z a b h0 n0 v' t'.heap L' ∧ FrameEnd s o' t' L' ({ frames := 0, cells := 0, slots := 0, locals := 0 } : Room).cells ({ frames := 0, cells := 0, slots := 0, locals := 0 } : Room).slots) ?_
  show own_Fin p e below (s₁.setTop (mkF m 0 #[.val (.int a), .val (.int b)] [])) _
  refine own_go (fun _ k => XS.iloadN X0.here hx rfl (hb hby d23_0) rfl (XS.iloadN X0.here hx rfl (hb hby d23_1) rfl k)) ?_
  show own_Fin p e below (s₁.setTop (mkF m 2 #[.val (.int a), .val (.int b)] [(.int b), (.int a)])) _
  by_cases hc2_66 : b < a
  ·refine own_go (fun _ k => XS.icmpYes X0.here hx rfl (pc0 := 2) (pc' := 9) rfl (hb hby d23_2) rfl (tlt hc2_66).2.2.1 (by decide) (by decide) (XS.iloadN X0.here hx rfl (hb hby d23_9) rfl k)) ?_
   show own_Fin p e below (s₁.setTop (mkF m 10 #[.val (.int a), .val (.int b)] [(.int b)])) _
   obtain ⟨fs, hr, hrun, hended, hW, hsame⟩ := X0.leave (v := some (.int b)) (fun h => by rw [Bd.returns] at h; cases h)
   refine ⟨_, _, ?_, hrun, hended, _, _, rfl, ?_, ⟨_, rfl⟩, hW, hsame.mono (by decide) (by decide)⟩
   ·exact own_retI X0 hx Bd.returns (hb hby d23_10) hr
   ·show Qmnn Z a b h0 n0 _ s₁.heap _
    rw [e0]
    exact ⟨(by simp [own_mn, hc2_66]), N0, rfl⟩
  ·refine own_go (fun _ k => XS.icmpNo X0.here hx rfl (hb hby d23_2) rfl (flt hc2_66).2.2.1 (XS.iloadN X0.here hx rfl (hb hby d23_5) rfl (XS.goto X0.here hx rfl (pc0 := 6) (pc' := 10) rfl (hb hby d23_6) (by decide) (by decide) k))) ?_
   show own_Fin p e below (s₁.setTop (mkF m 10 #[.val (.int a), .val (.int b)] [(.int a)])) _
   obtain ⟨fs, hr, hrun, hended, hW, hsame⟩ := X0.leave (v := some (.int a)) (fun h => by rw [Bd.returns] at h; cases h)
   refine ⟨_, _, ?_, hrun, hended, _, _, rfl, ?_, ⟨_, rfl⟩, hW, hsame.mono (by decide) (by decide)⟩
   ·exact own_retI X0 hx Bd.returns (hb hby d23_10) hr
   ·show Qmnn Z a b h0 n0 _ s₁.heap _
    rw [e0]
    exact ⟨(by simp [own_mn, hc2_66]), N0, rfl⟩
theorem d20_0 : decode jdk_48_method_27_code 0 = .ok (.iload_n 0, 1) := by decide +kernel
theorem d20_1 : decode jdk_48_method_27_code 1 = .ok (.iload_n 1, 1) := by decide +kernel
theorem d20_2 : decode jdk_48_method_27_code 2 = .ok (.iload_n 2, 1) := by decide +kernel
theorem d20_3 : decode jdk_48_method_27_code 3 = .ok (.invokestatic 194, 3) := by decide +kernel
theorem pd_1 : parseMethodDescriptor "(II)I" = some ⟨[.int, .int], some .int⟩ := by decide +kernel
theorem d20_6 : decode jdk_48_method_27_code 6 = .ok (.iadd, 1) := by decide +kernel
theorem d20_7 : decode jdk_48_method_27_code 7 = .ok (.istore_n 3, 1) := by decide +kernel
theorem d20_8 : decode jdk_48_method_27_code 8 = .ok (.iconst 0, 1) := by decide +kernel
theorem d20_9 : decode jdk_48_method_27_code 9 = .ok (.iload_n 3, 1) := by decide +kernel
theorem d20_10 : decode jdk_48_method_27_code 10 = .ok (.if_icmp .ge 11, 3) := by decide +kernel
theorem d20_13 : decode jdk_48_method_27_code 13 = .ok (.iload_n 3, 1) := by decide +kernel
theorem d20_14 : decode jdk_48_method_27_code 14 = .ok (.ldc 200, 2) := by decide +kernel
theorem d20_16 : decode jdk_48_method_27_code 16 = .ok (.if_icmp .gt 5, 3) := by decide +kernel
theorem d20_19 : decode jdk_48_method_27_code 19 = .ok (.iload_n 3, 1) := by decide +kernel
theorem d20_20 : decode jdk_48_method_27_code 20 = .ok (.ireturn, 1) := by decide +kernel
theorem pn_3 : plainName "jdk/internal/util/ArraysSupport" = true := by first | (simp [plainName, overriddenIn]; done) | decide +kernel
theorem ef_nl (m : MethodId) (x0 : Int32) (x1 : Int32) (x2 : Int32) : entryFrame m #[(.int x0), (.int x1), (.int x2)] 4 = mkF m 0 #[.val (.int x0), .val (.int x1), .val (.int x2), .unset] [] := by first | (simp [entryFrame, mkF, argsToLocals, Value.category]; done) | rfl
def Qnl (Z : State) (o : Int32) (mg : Int32) (pg : Int32) (h0 : Heap) (n0 : Nat) (v : Option Value) (h : Heap) (L : List Loc) : Prop := v = some (.int (o + (own_mx mg pg))) ∧ Fr n0 L ∧ h = h0
set_option maxRecDepth 65536 in
set_option maxHeartbeats 40000000 in
theorem nl (l : Launch) (Z : State) (a0 : Array Value) (hw : ∀ d ∈ tables_1, d.before a0 Z = true) (ws : List Jvm.Cond) (o : Int32) (mg : Int32) (pg : Int32) (h0 : Heap) (n0 : Nat) (h1 : (0 : Int32) < (o + (own_mx mg pg))) (h2 : ¬ ((2147483639 : Int32) < (o + (own_mx mg pg)))) :
    MetFree l (⟨"jdk/internal/util/ArraysSupport", "newLength", "(III)I"⟩ : MethodName) (head1 (Jvm.Cond.code (⟨"jdk/internal/util/ArraysSupport", "newLength", "(III)I"⟩ : MethodName) jdk_48_method_27_code 4 (some .int) :: ws) ({ frames := 1, cells := 0, slots := 0, locals := 14 } : Room)) (fun a' U' => a' = #[(.int o), (.int mg), (.int pg)] ∧ Z.Warmed39 U'.vm ∧ U'.heap = h0) (fun _ _ _ _ _ => True) (fun _ U' o' W' => ∃ v' L', o' = .returned v' ∧ Qnl Z o mg pg h0 n0 v' W'.heap L' ∧ FrameEnd U' o' W' L' ({ frames := 1, cells := 0, slots := 0, locals := 14 } : Room).cells ({ frames := 1, cells := 0, slots := 0, locals := 14 } : Room).slots) := by
  refine MetFree.of_bodySF (plainFor_of_name pn_3) hisR ?_
  intro p e s m args below meth c s₁ Bd hml0 hP hK
  obtain ⟨rfl, hZ, hh⟩ := hP
  have hx := Bd.exec
  have hby := Bd.bytes
  have hml : c.maxLocals = 4 := hml0
  have hown : s.vm.findClass "jdk/internal/util/ArraysSupport" = some m.cls := findClass_of_methodNamed Bd.named
  have hnm := (name_of_methodNamed Bd.named Bd.method).1
  have X0 : Stand p l e ({ frames := 1, cells := 0, slots := 0, locals := 14 } : Room) s m #[(.int o), (.int mg), (.int pg)] below meth c s₁ [] 0 0 := Stand.of_body Bd
  have e0 : s₁.heap = h0 := by rw [← hh, Bd.state]; rfl
  have N0 := Fr.nil n0
  refine own_start (ef_nl m o mg pg) (Q := fun o' t' => ∃ v' L', o' = .returned v' ∧ Qnl Z o mg pg h0 n0 v' t'.heap L' ∧ FrameEnd s o' t' L' ({ frames := 1, cells := 0, slots := 0, locals := 14 } : Room).cells ({ frames := 1, cells := 0, slots := 0, locals := 14 } : Room).slots) ?_
  show own_Fin p e below (s₁.setTop (mkF m 0 #[.val (.int o), .val (.int mg), .val (.int pg), .unset] [])) _
  refine own_go (fun _ k => XS.iloadN X0.here hx rfl (hb hby d20_0) rfl (XS.iloadN X0.here hx rfl (hb hby d20_1) rfl (XS.iloadN X0.here hx rfl (hb hby d20_2) rfl k))) ?_
  show own_Fin p e below (s₁.setTop (mkF m 3 #[.val (.int o), .val (.int mg), .val (.int pg), .unset] [(.int pg), (.int mg), (.int o)])) _
  obtain ⟨_, _, ⟨T69, L69, k69, n69⟩, -, X69, ⟨Lc69, hQ69, l69, y69, z69⟩, st69⟩ := Jvm.LawKit.callS X0 hx (y := (⟨"java/lang/Math", "max", "(II)I"⟩ : MethodName)) hown (mvT hZ (ow hw 120)) (mvT hZ (ow hw 121)) (mvT hZ (ow hw 122)) (mvT hZ (ow hw 123)) (by decide) (backOf (W := 1) (mxx l Z a0 hw [] mg pg h0 n0 ) hZ (ow hw 123) (ow hw 122) (by decide) (by decide)) (g := (mkF m 3 #[.val (.int o), .val (.int mg), .val (.int pg), .unset] [(.int pg), (.int mg), (.int o)])) rfl (by rw [hml]; rfl) (argsL := [(.int mg), (.int pg)]) (rest := [(.int o)]) (lenOf pd_1 rfl) rfl (by show 2 * 0 + _ ≤ _; exact Nat.le_of_eq rfl) (hb hby d20_3) (fun _ _ => ⟨rfl, e0, (by decide : 0 + 0 ≤ _), (by decide : 0 + 0 ≤ _)⟩)
  dsimp only [Pt.U, Pt.locs, Pt.cells, Pt.slots] at X69 l69 y69 z69 st69 hQ69
  subst l69 y69 z69
  obtain ⟨rfl, N69q, e69⟩ := hQ69
  refine own_go (fun _ k => st69 _ k) ?_
  have N69 := Fr.app N0 N69q
  show own_Fin p e below (T69.setTop (mkF m 6 #[.val (.int o), .val (.int mg), .val (.int pg), .unset] [(.int (own_mx mg pg)), (.int o)])) _
  refine own_go (fun _ k => XS.iadd X69.here hx rfl (hb hby d20_6) rfl (XS.istoreN X69.here hx rfl (hb hby d20_7) rfl (l' := #[.val (.int o), .val (.int mg), .val (.int pg), .val (.int (o + (own_mx mg pg)))]) rfl (XS.iconst X69.here hx rfl (hb hby d20_8) (XS.iloadN X69.here hx rfl (hb hby d20_9) rfl (XS.icmpNo X69.here hx rfl (hb hby d20_10) rfl (tlt h1).2.1 (XS.iloadN X69.here hx rfl (hb hby d20_13) rfl k)))))) ?_
  show own_Fin p e below (T69.setTop (mkF m 14 #[.val (.int o), .val (.int mg), .val (.int pg), .val (.int (o + (own_mx mg pg)))] [(.int (o + (own_mx mg pg)))])) _
  refine own_go (fun _ k => X69.ldcInt hx hown (mvT hZ (ow hw 124)) (g := (mkF m 14 #[.val (.int o), .val (.int mg), .val (.int pg), .val (.int (o + (own_mx mg pg)))] [(.int (o + (own_mx mg pg)))])) rfl (hb hby d20_14) _ k) ?_
  show own_Fin p e below (T69.setTop (mkF m 16 #[.val (.int o), .val (.int mg), .val (.int pg), .val (.int (o + (own_mx mg pg)))] [(.int 2147483639), (.int (o + (own_mx mg pg)))])) _
  refine own_go (fun _ k => XS.icmpNo X69.here hx rfl (hb hby d20_16) rfl (flt h2).2.2.1 (XS.iloadN X69.here hx rfl (hb hby d20_19) rfl k)) ?_
  show own_Fin p e below (T69.setTop (mkF m 20 #[.val (.int o), .val (.int mg), .val (.int pg), .val (.int (o + (own_mx mg pg)))] [(.int (o + (own_mx mg pg)))])) _
  obtain ⟨fs, hr, hrun, hended, hW, hsame⟩ := X69.leave (v := some (.int (o + (own_mx mg pg)))) (fun h => by rw [Bd.returns] at h; cases h)
  refine ⟨_, _, ?_, hrun, hended, _, _, rfl, ?_, ⟨_, rfl⟩, hW, hsame.mono (by decide) (by decide)⟩
  ·exact own_retI X69 hx Bd.returns (hb hby d20_20) hr
  ·show Qnl Z o mg pg h0 n0 _ T69.heap _
   rw [e69]
   exact ⟨rfl, N69, rfl⟩
theorem d19_0 : decode jdk_68_method_10_code 0 = .ok (.aload_n 0, 1) := by decide +kernel
theorem d19_1 : decode jdk_68_method_10_code 1 = .ok (.getfield 15, 3) := by decide +kernel
theorem d19_4 : decode jdk_68_method_10_code 4 = .ok (.arraylength, 1) := by decide +kernel
theorem d19_5 : decode jdk_68_method_10_code 5 = .ok (.istore_n 2, 1) := by decide +kernel
theorem d19_6 : decode jdk_68_method_10_code 6 = .ok (.iload_n 1, 1) := by decide +kernel
theorem d19_7 : decode jdk_68_method_10_code 7 = .ok (.aload_n 0, 1) := by decide +kernel
theorem d19_8 : decode jdk_68_method_10_code 8 = .ok (.getfield 22, 3) := by decide +kernel
theorem d19_11 : decode jdk_68_method_10_code 11 = .ok (.ishl, 1) := by decide +kernel
theorem d19_12 : decode jdk_68_method_10_code 12 = .ok (.istore_n 3, 1) := by decide +kernel
theorem d19_13 : decode jdk_68_method_10_code 13 = .ok (.iload_n 3, 1) := by decide +kernel
theorem d19_14 : decode jdk_68_method_10_code 14 = .ok (.iload_n 2, 1) := by decide +kernel
theorem d19_15 : decode jdk_68_method_10_code 15 = .ok (.isub, 1) := by decide +kernel
theorem d19_16 : decode jdk_68_method_10_code 16 = .ok (.istore 4, 2) := by decide +kernel
theorem d19_18 : decode jdk_68_method_10_code 18 = .ok (.iload_n 2, 1) := by decide +kernel
theorem d19_19 : decode jdk_68_method_10_code 19 = .ok (.iload 4, 2) := by decide +kernel
theorem d19_21 : decode jdk_68_method_10_code 21 = .ok (.iload_n 2, 1) := by decide +kernel
theorem d19_22 : decode jdk_68_method_10_code 22 = .ok (.iconst 2, 1) := by decide +kernel
theorem d19_23 : decode jdk_68_method_10_code 23 = .ok (.aload_n 0, 1) := by decide +kernel
theorem d19_24 : decode jdk_68_method_10_code 24 = .ok (.getfield 22, 3) := by decide +kernel
theorem d19_27 : decode jdk_68_method_10_code 27 = .ok (.ishl, 1) := by decide +kernel
theorem d19_28 : decode jdk_68_method_10_code 28 = .ok (.iadd, 1) := by decide +kernel
theorem d19_29 : decode jdk_68_method_10_code 29 = .ok (.invokestatic 114, 3) := by decide +kernel
theorem pd_2 : parseMethodDescriptor "(III)I" = some ⟨[.int, .int, .int], some .int⟩ := by decide +kernel
theorem d19_32 : decode jdk_68_method_10_code 32 = .ok (.istore 5, 2) := by decide +kernel
theorem d19_34 : decode jdk_68_method_10_code 34 = .ok (.iload 5, 2) := by decide +kernel
theorem d19_36 : decode jdk_68_method_10_code 36 = .ok (.ldc 39, 2) := by decide +kernel
theorem d19_38 : decode jdk_68_method_10_code 38 = .ok (.if_icmp .ne 13, 3) := by decide +kernel
theorem d19_51 : decode jdk_68_method_10_code 51 = .ok (.iload 5, 2) := by decide +kernel
theorem d19_53 : decode jdk_68_method_10_code 53 = .ok (.aload_n 0, 1) := by decide +kernel
theorem d19_54 : decode jdk_68_method_10_code 54 = .ok (.getfield 22, 3) := by decide +kernel
theorem d19_57 : decode jdk_68_method_10_code 57 = .ok (.ishr, 1) := by decide +kernel
theorem d19_58 : decode jdk_68_method_10_code 58 = .ok (.ireturn, 1) := by decide +kernel
theorem ef_nc (m : MethodId) (x0 : Addr) (x1 : Int32) : entryFrame m #[(.ref x0), (.int x1)] 6 = mkF m 0 #[.val (.ref x0), .val (.int x1), .unset, .unset, .unset, .unset] [] := by first | (simp [entryFrame, mkF, argsToLocals, Value.category]; done) | rfl
def Qnc (Z : State) (b : Addr) (m_ : Int32) (t : Addr) (kt : ClassId) (N : Int32) (vs : List Value) (h0 : Heap) (n0 : Nat) (v : Option Value) (h : Heap) (L : List Loc) : Prop := v = some (.int (own_nw N)) ∧ Fr n0 L ∧ h = h0
set_option maxRecDepth 65536 in
set_option maxHeartbeats 40000000 in
theorem nc (l : Launch) (Z : State) (a0 : Array Value) (hw : ∀ d ∈ tables_1, d.before a0 Z = true) (ws : List Jvm.Cond) (b : Addr) (m_ : Int32) (t : Addr) (kt : ClassId) (N : Int32) (vs : List Value) (h0 : Heap) (n0 : Nat) (O : Old Z n0 h0) (F_b_ASB_value : Fld Z h0 b "java/lang/AbstractStringBuilder" "value" "[B" (.ref t)) (F_b_ASB_coder : Fld Z h0 b "java/lang/AbstractStringBuilder" "coder" "B" (.int 0)) (V_t : Arv Z h0 t kt .byte N vs (.int 0)) (hgr : own_gr N m_) :
    MetFree l (⟨"java/lang/AbstractStringBuilder", "newCapacity", "(I)I"⟩ : MethodName) (head1 (Jvm.Cond.code (⟨"java/lang/AbstractStringBuilder", "newCapacity", "(I)I"⟩ : MethodName) jdk_68_method_10_code 6 (some .int) :: ws) ({ frames := 2, cells := 0, slots := 0, locals := 29 } : Room)) (fun a' U' => a' = #[(.ref b), (.int m_)] ∧ Z.Warmed39 U'.vm ∧ U'.heap = h0) (fun _ _ _ _ _ => True) (fun _ U' o' W' => ∃ v' L', o' = .returned v' ∧ Qnc Z b m_ t kt N vs h0 n0 v' W'.heap L' ∧ FrameEnd U' o' W' L' ({ frames := 2, cells := 0, slots := 0, locals := 29 } : Room).cells ({ frames := 2, cells := 0, slots := 0, locals := 29 } : Room).slots) := by
  refine MetFree.of_bodySF (plainFor_of_name pn_0) hisR ?_
  intro p e s m args below meth c s₁ Bd hml0 hP hK
  obtain ⟨rfl, hZ, hh⟩ := hP
  have hx := Bd.exec
  have hby := Bd.bytes
  have hml : c.maxLocals = 6 := hml0
  have hown : s.vm.findClass "java/lang/AbstractStringBuilder" = some m.cls := findClass_of_methodNamed Bd.named
  have hnm := (name_of_methodNamed Bd.named Bd.method).1
  have X0 : Stand p l e ({ frames := 2, cells := 0, slots := 0, locals := 29 } : Room) s m #[(.ref b), (.int m_)] below meth c s₁ [] 0 0 := Stand.of_body Bd
  have e0 : s₁.heap = h0 := by rw [← hh, Bd.state]; rfl
  have N0 := Fr.nil n0
  refine own_start (ef_nc m b m_) (Q := fun o' t' => ∃ v' L', o' = .returned v' ∧ Qnc Z b m_ t kt N vs h0 n0 v' t'.heap L' ∧ FrameEnd s o' t' L' ({ frames := 2, cells := 0, slots := 0, locals := 29 } : Room).cells ({ frames := 2, cells := 0, slots := 0, locals := 29 } : Room).slots) ?_
  show own_Fin p e below (s₁.setTop (mkF m 0 #[.val (.ref b), .val (.int m_), .unset, .unset, .unset, .unset] [])) _
  refine own_go (fun _ k => XS.aloadN X0.here hx rfl (hb hby d19_0) rfl rfl k) ?_
  show own_Fin p e below (s₁.setTop (mkF m 1 #[.val (.ref b), .val (.int m_), .unset, .unset, .unset, .unset] [(.ref b)])) _
  obtain ⟨T71, X71, e71, st71⟩ := getF X0 hx hZ hown (host := "") (Or.inl (ow hw 22)) Via.refl e0 F_b_ASB_value (g := (mkF m 1 #[.val (.ref b), .val (.int m_), .unset, .unset, .unset, .unset] [(.ref b)])) rfl rfl (hb hby d19_1)
  refine own_go (fun _ k => st71 _ k) ?_
  show own_Fin p e below (T71.setTop (mkF m 4 #[.val (.ref b), .val (.int m_), .unset, .unset, .unset, .unset] [(.ref t)])) _
  obtain ⟨cl72, A72, -, S72, M72, -, -⟩ := id V_t
  refine own_go (fun _ k => X71.arraylength hx (own_eqE e71 A72.1) (State.isArrayOf_alike hZ.alike A72.2.1) (g := (mkF m 4 #[.val (.ref b), .val (.int m_), .unset, .unset, .unset, .unset] [(.ref t)])) rfl rfl (hb hby d19_4) _ (by rw [len_of S72 M72]; exact k)) ?_
  show own_Fin p e below (T71.setTop (mkF m 5 #[.val (.ref b), .val (.int m_), .unset, .unset, .unset, .unset] [(.int N)])) _
  refine own_go (fun _ k => XS.istoreN X71.here hx rfl (hb hby d19_5) rfl (l' := #[.val (.ref b), .val (.int m_), .val (.int N), .unset, .unset, .unset]) rfl (XS.iloadN X71.here hx rfl (hb hby d19_6) rfl (XS.aloadN X71.here hx rfl (hb hby d19_7) rfl rfl k))) ?_
  show own_Fin p e below (T71.setTop (mkF m 8 #[.val (.ref b), .val (.int m_), .val (.int N), .unset, .unset, .unset] [(.ref b), (.int m_)])) _
  obtain ⟨T73, X73, e73, st73⟩ := getF X71 hx hZ hown (host := "") (Or.inl (ow hw 24)) Via.refl e71 F_b_ASB_coder (g := (mkF m 8 #[.val (.ref b), .val (.int m_), .val (.int N), .unset, .unset, .unset] [(.ref b), (.int m_)])) rfl rfl (hb hby d19_8)
  refine own_go (fun _ k => st73 _ k) ?_
  show own_Fin p e below (T73.setTop (mkF m 11 #[.val (.ref b), .val (.int m_), .val (.int N), .unset, .unset, .unset] [(.int 0), (.int m_)])) _
  refine own_go (fun _ k => XS.ishl X73.here hx rfl (hb hby d19_11) rfl (XS.istoreN X73.here hx rfl (hb hby d19_12) rfl (l' := #[.val (.ref b), .val (.int m_), .val (.int N), .val (.int (m_ <<< ((0 : Int32) &&& 31))), .unset, .unset]) rfl (XS.iloadN X73.here hx rfl (hb hby d19_13) rfl (XS.iloadN X73.here hx rfl (hb hby d19_14) rfl (XS.isub X73.here hx rfl (hb hby d19_15) rfl (XS.istore X73.here hx rfl (hb hby d19_16) rfl (l' := #[.val (.ref b), .val (.int m_), .val (.int N), .val (.int (m_ <<< ((0 : Int32) &&& 31))), .val (.int ((m_ <<< ((0 : Int32) &&& 31)) - N)), .unset]) rfl (XS.iloadN X73.here hx rfl (hb hby d19_18) rfl (XS.iload X73.here hx rfl (hb hby d19_19) rfl (XS.iloadN X73.here hx rfl (hb hby d19_21) rfl (XS.iconst X73.here hx rfl (hb hby d19_22) k)))))))))) ?_
  show own_Fin p e below (T73.setTop (mkF m 23 #[.val (.ref b), .val (.int m_), .val (.int N), .val (.int (m_ <<< ((0 : Int32) &&& 31))), .val (.int ((m_ <<< ((0 : Int32) &&& 31)) - N)), .unset] [(.int 2), (.int N), (.int ((m_ <<< ((0 : Int32) &&& 31)) - N)), (.int N)])) _
  refine own_go (fun _ k => XS.aloadN X73.here hx rfl (hb hby d19_23) rfl rfl k) ?_
  show own_Fin p e below (T73.setTop (mkF m 24 #[.val (.ref b), .val (.int m_), .val (.int N), .val (.int (m_ <<< ((0 : Int32) &&& 31))), .val (.int ((m_ <<< ((0 : Int32) &&& 31)) - N)), .unset] [(.ref b), (.int 2), (.int N), (.int ((m_ <<< ((0 : Int32) &&& 31)) - N)), (.int N)])) _
  obtain ⟨T74, X74, e74, st74⟩ := getF X73 hx hZ hown (host := "") (Or.inl (ow hw 24)) Via.refl e73 F_b_ASB_coder (g := (mkF m 24 #[.val (.ref b), .val (.int m_), .val (.int N), .val (.int (m_ <<< ((0 : Int32) &&& 31))), .val (.int ((m_ <<< ((0 : Int32) &&& 31)) - N)), .unset] [(.ref b), (.int 2), (.int N), (.int ((m_ <<< ((0 : Int32) &&& 31)) - N)), (.int N)])) rfl rfl (hb hby d19_24)
  refine own_go (fun _ k => st74 _ k) ?_
  show own_Fin p e below (T74.setTop (mkF m 27 #[.val (.ref b), .val (.int m_), .val (.int N), .val (.int (m_ <<< ((0 : Int32) &&& 31))), .val (.int ((m_ <<< ((0 : Int32) &&& 31)) - N)), .unset] [(.int 0), (.int 2), (.int N), (.int ((m_ <<< ((0 : Int32) &&& 31)) - N)), (.int N)])) _
  refine own_go (fun _ k => XS.ishl X74.here hx rfl (hb hby d19_27) rfl (XS.iadd X74.here hx rfl (hb hby d19_28) rfl k)) ?_
  show own_Fin p e below (T74.setTop (mkF m 29 #[.val (.ref b), .val (.int m_), .val (.int N), .val (.int (m_ <<< ((0 : Int32) &&& 31))), .val (.int ((m_ <<< ((0 : Int32) &&& 31)) - N)), .unset] [(.int (N + (2 : Int32))), (.int ((m_ <<< ((0 : Int32) &&& 31)) - N)), (.int N)])) _
  obtain ⟨_, _, ⟨T75, L75, k75, n75⟩, -, X75, ⟨Lc75, hQ75, l75, y75, z75⟩, st75⟩ := Jvm.LawKit.callS X74 hx (y := (⟨"jdk/internal/util/ArraysSupport", "newLength", "(III)I"⟩ : MethodName)) hown (mvT hZ (ow hw 116)) (mvT hZ (ow hw 117)) (mvT hZ (ow hw 118)) (mvT hZ (ow hw 119)) (by decide) (backOf (W := 0) (nl l Z a0 hw [] N ((m_ <<< ((0 : Int32) &&& 31)) - N) (N + (2 : Int32)) h0 n0 (own_PL1 hgr) (own_PL2 hgr)) hZ (ow hw 119) (ow hw 118) (by decide) (by decide)) (g := (mkF m 29 #[.val (.ref b), .val (.int m_), .val (.int N), .val (.int (m_ <<< ((0 : Int32) &&& 31))), .val (.int ((m_ <<< ((0 : Int32) &&& 31)) - N)), .unset] [(.int (N + (2 : Int32))), (.int ((m_ <<< ((0 : Int32) &&& 31)) - N)), (.int N)])) rfl (by rw [hml]; rfl) (argsL := [(.int N), (.int ((m_ <<< ((0 : Int32) &&& 31)) - N)), (.int (N + (2 : Int32)))]) (rest := []) (lenOf pd_2 rfl) rfl (by show 2 * 0 + _ ≤ _; exact Nat.le_of_eq rfl) (hb hby d19_29) (fun _ _ => ⟨rfl, e74, (by decide : 0 + 0 ≤ _), (by decide : 0 + 0 ≤ _)⟩)
  dsimp only [Pt.U, Pt.locs, Pt.cells, Pt.slots] at X75 l75 y75 z75 st75 hQ75
  subst l75 y75 z75
  obtain ⟨rfl, N75q, e75⟩ := hQ75
  refine own_go (fun _ k => st75 _ k) ?_
  have N75 := Fr.app N0 N75q
  show own_Fin p e below (T75.setTop (mkF m 32 #[.val (.ref b), .val (.int m_), .val (.int N), .val (.int (m_ <<< ((0 : Int32) &&& 31))), .val (.int ((m_ <<< ((0 : Int32) &&& 31)) - N)), .unset] [(.int (N + (own_mx ((m_ <<< ((0 : Int32) &&& 31)) - N) (N + (2 : Int32)))))])) _
  refine own_go (fun _ k => XS.istore X75.here hx rfl (hb hby d19_32) rfl (l' := #[.val (.ref b), .val (.int m_), .val (.int N), .val (.int (m_ <<< ((0 : Int32) &&& 31))), .val (.int ((m_ <<< ((0 : Int32) &&& 31)) - N)), .val (.int (N + (own_mx ((m_ <<< ((0 : Int32) &&& 31)) - N) (N + (2 : Int32)))))]) rfl (XS.iload X75.here hx rfl (hb hby d19_34) rfl k)) ?_
  show own_Fin p e below (T75.setTop (mkF m 36 #[.val (.ref b), .val (.int m_), .val (.int N), .val (.int (m_ <<< ((0 : Int32) &&& 31))), .val (.int ((m_ <<< ((0 : Int32) &&& 31)) - N)), .val (.int (N + (own_mx ((m_ <<< ((0 : Int32) &&& 31)) - N) (N + (2 : Int32)))))] [(.int (N + (own_mx ((m_ <<< ((0 : Int32) &&& 31)) - N) (N + (2 : Int32)))))])) _
  refine own_go (fun _ k => X75.ldcInt hx hown (mvT hZ (ow hw 125)) (g := (mkF m 36 #[.val (.ref b), .val (.int m_), .val (.int N), .val (.int (m_ <<< ((0 : Int32) &&& 31))), .val (.int ((m_ <<< ((0 : Int32) &&& 31)) - N)), .val (.int (N + (own_mx ((m_ <<< ((0 : Int32) &&& 31)) - N) (N + (2 : Int32)))))] [(.int (N + (own_mx ((m_ <<< ((0 : Int32) &&& 31)) - N) (N + (2 : Int32)))))])) rfl (hb hby d19_36) _ k) ?_
  show own_Fin p e below (T75.setTop (mkF m 38 #[.val (.ref b), .val (.int m_), .val (.int N), .val (.int (m_ <<< ((0 : Int32) &&& 31))), .val (.int ((m_ <<< ((0 : Int32) &&& 31)) - N)), .val (.int (N + (own_mx ((m_ <<< ((0 : Int32) &&& 31)) - N) (N + (2 : Int32)))))] [(.int 2147483647), (.int (N + (own_mx ((m_ <<< ((0 : Int32) &&& 31)) - N) (N + (2 : Int32)))))])) _
  refine own_go (fun _ k => XS.icmpYes X75.here hx rfl (pc0 := 38) (pc' := 51) rfl (hb hby d19_38) rfl (feq ((own_PL3 hgr) : ¬ ((N + (own_mx ((m_ <<< ((0 : Int32) &&& 31)) - N) (N + (2 : Int32)))) = (2147483647 : Int32)))).2 (by decide) (by decide) (XS.iload X75.here hx rfl (hb hby d19_51) rfl (XS.aloadN X75.here hx rfl (hb hby d19_53) rfl rfl k))) ?_
  show own_Fin p e below (T75.setTop (mkF m 54 #[.val (.ref b), .val (.int m_), .val (.int N), .val (.int (m_ <<< ((0 : Int32) &&& 31))), .val (.int ((m_ <<< ((0 : Int32) &&& 31)) - N)), .val (.int (N + (own_mx ((m_ <<< ((0 : Int32) &&& 31)) - N) (N + (2 : Int32)))))] [(.ref b), (.int (N + (own_mx ((m_ <<< ((0 : Int32) &&& 31)) - N) (N + (2 : Int32)))))])) _
  obtain ⟨T76, X76, e76, st76⟩ := getF X75 hx hZ hown (host := "") (Or.inl (ow hw 24)) Via.refl e75 F_b_ASB_coder (g := (mkF m 54 #[.val (.ref b), .val (.int m_), .val (.int N), .val (.int (m_ <<< ((0 : Int32) &&& 31))), .val (.int ((m_ <<< ((0 : Int32) &&& 31)) - N)), .val (.int (N + (own_mx ((m_ <<< ((0 : Int32) &&& 31)) - N) (N + (2 : Int32)))))] [(.ref b), (.int (N + (own_mx ((m_ <<< ((0 : Int32) &&& 31)) - N) (N + (2 : Int32)))))])) rfl rfl (hb hby d19_54)
  refine own_go (fun _ k => st76 _ k) ?_
  show own_Fin p e below (T76.setTop (mkF m 57 #[.val (.ref b), .val (.int m_), .val (.int N), .val (.int (m_ <<< ((0 : Int32) &&& 31))), .val (.int ((m_ <<< ((0 : Int32) &&& 31)) - N)), .val (.int (N + (own_mx ((m_ <<< ((0 : Int32) &&& 31)) - N) (N + (2 : Int32)))))] [(.int 0), (.int (N + (own_mx ((m_ <<< ((0 : Int32) &&& 31)) - N) (N + (2 : Int32)))))])) _
  refine own_go (fun _ k => XS.ishr X76.here hx rfl (hb hby d19_57) rfl k) ?_
  show own_Fin p e below (T76.setTop (mkF m 58 #[.val (.ref b), .val (.int m_), .val (.int N), .val (.int (m_ <<< ((0 : Int32) &&& 31))), .val (.int ((m_ <<< ((0 : Int32) &&& 31)) - N)), .val (.int (N + (own_mx ((m_ <<< ((0 : Int32) &&& 31)) - N) (N + (2 : Int32)))))] [(.int ((N + (own_mx ((m_ <<< ((0 : Int32) &&& 31)) - N) (N + (2 : Int32)))) >>> ((0 : Int32) &&& 31)))])) _
  obtain ⟨fs, hr, hrun, hended, hW, hsame⟩ := X76.leave (v := some (.int ((N + (own_mx ((m_ <<< ((0 : Int32) &&& 31)) - N) (N + (2 : Int32)))) >>> ((0 : Int32) &&& 31)))) (fun h => by rw [Bd.returns] at h; cases h)
  refine ⟨_, _, ?_, hrun, hended, _, _, rfl, ?_, ⟨_, rfl⟩, hW, hsame.mono (by decide) (by decide)⟩
  ·exact own_retI X76 hx Bd.returns (hb hby d19_58) hr
  ·show Qnc Z b m_ t kt N vs h0 n0 _ T76.heap _
   rw [e76]
   exact ⟨(by rw [own_PLr hgr]), N75, rfl⟩
theorem d22_0 : decode jdk_65_method_121_code 0 = .ok (.iload_n 1, 1) := by decide +kernel
theorem d22_1 : decode jdk_65_method_121_code 1 = .ok (.aload_n 0, 1) := by decide +kernel
theorem d22_2 : decode jdk_65_method_121_code 2 = .ok (.arraylength, 1) := by decide +kernel
theorem d22_3 : decode jdk_65_method_121_code 3 = .ok (.if_icmp .ne 11, 3) := by decide +kernel
theorem d22_14 : decode jdk_65_method_121_code 14 = .ok (.iload_n 1, 1) := by decide +kernel
theorem d22_15 : decode jdk_65_method_121_code 15 = .ok (.newarray .byte, 2) := by decide +kernel
theorem d22_17 : decode jdk_65_method_121_code 17 = .ok (.astore_n 2, 1) := by decide +kernel
theorem d22_18 : decode jdk_65_method_121_code 18 = .ok (.aload_n 0, 1) := by decide +kernel
theorem d22_19 : decode jdk_65_method_121_code 19 = .ok (.iconst 0, 1) := by decide +kernel
theorem d22_20 : decode jdk_65_method_121_code 20 = .ok (.aload_n 2, 1) := by decide +kernel
theorem d22_21 : decode jdk_65_method_121_code 21 = .ok (.iconst 0, 1) := by decide +kernel
theorem d22_22 : decode jdk_65_method_121_code 22 = .ok (.aload_n 0, 1) := by decide +kernel
theorem d22_23 : decode jdk_65_method_121_code 23 = .ok (.arraylength, 1) := by decide +kernel
theorem d22_24 : decode jdk_65_method_121_code 24 = .ok (.iload_n 1, 1) := by decide +kernel
theorem d22_25 : decode jdk_65_method_121_code 25 = .ok (.invokestatic 304, 3) := by decide +kernel
theorem d22_28 : decode jdk_65_method_121_code 28 = .ok (.invokestatic 150, 3) := by decide +kernel
theorem d22_31 : decode jdk_65_method_121_code 31 = .ok (.aload_n 2, 1) := by decide +kernel
theorem d22_32 : decode jdk_65_method_121_code 32 = .ok (.areturn, 1) := by decide +kernel
theorem pn_4 : plainName "java/util/Arrays" = true := by first | (simp [plainName, overriddenIn]; done) | decide +kernel
theorem ef_cof (m : MethodId) (x0 : Addr) (x1 : Int32) : entryFrame m #[(.ref x0), (.int x1)] 3 = mkF m 0 #[.val (.ref x0), .val (.int x1), .unset] [] := by first | (simp [entryFrame, mkF, argsToLocals, Value.category]; done) | rfl
def Qcof (Z : State) (a : Addr) (ka : ClassId) (N : Int32) (vs : List Value) (h0 : Heap) (n0 : Nat) (v : Option Value) (h : Heap) (L : List Loc) : Prop := ∃ (b_ : Addr) (k_ : ClassId), v = some (.ref b_) ∧ Fr n0 L ∧ Keep h0 h [] ∧ h0.size ≤ b_ ∧ Arv Z h b_ k_ .byte (own_nw N) (own_zs N vs) (.int 0) ∧ Exa Z h b_ "[B"
set_option maxRecDepth 65536 in
set_option maxHeartbeats 40000000 in
theorem cof (l : Launch) (Z : State) (a0 : Array Value) (hw : ∀ d ∈ tables_1, d.before a0 Z = true) (ws : List Jvm.Cond) (a : Addr) (ka : ClassId) (N : Int32) (vs : List Value) (h0 : Heap) (n0 : Nat) (O : Old Z n0 h0) (V_a : Arv Z h0 a ka .byte N vs (.int 0)) (hn0 : ¬ N < 0) (hvl : N.toNatClampNeg ≤ vs.length) (hvm : vs.length ≤ N.toNatClampNeg) (hnlt : ¬ (own_nw N) < N) (hne : ¬ ((own_nw N) = N)) (hnw : ¬ ((own_nw N) < 0)) (hnn : N.toNatClampNeg ≤ (own_nw N).toNatClampNeg) (hcap : (own_nw N).toNatClampNeg ≤ 18) :
    MetFree l (⟨"java/util/Arrays", "copyOf", "([BI)[B"⟩ : MethodName) (head1 (Jvm.Cond.code (⟨"java/util/Arrays", "copyOf", "([BI)[B"⟩ : MethodName) jdk_65_method_121_code 3 (some (.array .byte)) :: ws) ({ frames := 1, cells := 1, slots := 18, locals := 18 } : Room)) (fun a' U' => a' = #[(.ref a), (.int (own_nw N))] ∧ Z.Warmed39 U'.vm ∧ U'.heap = h0) (fun _ _ _ _ _ => True) (fun _ U' o' W' => ∃ v' L', o' = .returned v' ∧ Qcof Z a ka N vs h0 n0 v' W'.heap L' ∧ FrameEnd U' o' W' L' ({ frames := 1, cells := 1, slots := 18, locals := 18 } : Room).cells ({ frames := 1, cells := 1, slots := 18, locals := 18 } : Room).slots) := by
  refine MetFree.of_bodySF (plainFor_of_name pn_4) hisR ?_
  intro p e s m args below meth c s₁ Bd hml0 hP hK
  obtain ⟨rfl, hZ, hh⟩ := hP
  have hx := Bd.exec
  have hby := Bd.bytes
  have hml : c.maxLocals = 3 := hml0
  have hown : s.vm.findClass "java/util/Arrays" = some m.cls := findClass_of_methodNamed Bd.named
  have hnm := (name_of_methodNamed Bd.named Bd.method).1
  have X0 : Stand p l e ({ frames := 1, cells := 1, slots := 18, locals := 18 } : Room) s m #[(.ref a), (.int (own_nw N))] below meth c s₁ [] 0 0 := Stand.of_body Bd
  have e0 : s₁.heap = h0 := by rw [← hh, Bd.state]; rfl
  have N0 := Fr.nil n0
  have K0 := Keep.refl h0 []
  refine own_start (ef_cof m a (own_nw N)) (Q := fun o' t' => ∃ v' L', o' = .returned v' ∧ Qcof Z a ka N vs h0 n0 v' t'.heap L' ∧ FrameEnd s o' t' L' ({ frames := 1, cells := 1, slots := 18, locals := 18 } : Room).cells ({ frames := 1, cells := 1, slots := 18, locals := 18 } : Room).slots) ?_
  show own_Fin p e below (s₁.setTop (mkF m 0 #[.val (.ref a), .val (.int (own_nw N)), .unset] [])) _
  refine own_go (fun _ k => XS.iloadN X0.here hx rfl (hb hby d22_0) rfl (XS.aloadN X0.here hx rfl (hb hby d22_1) rfl rfl k)) ?_
  show own_Fin p e below (s₁.setTop (mkF m 2 #[.val (.ref a), .val (.int (own_nw N)), .unset] [(.ref a), (.int (own_nw N))])) _
  obtain ⟨cl78, A78, -, S78, M78, -, -⟩ := id V_a
  refine own_go (fun _ k => X0.arraylength hx (own_eqE e0 A78.1) (State.isArrayOf_alike hZ.alike A78.2.1) (g := (mkF m 2 #[.val (.ref a), .val (.int (own_nw N)), .unset] [(.ref a), (.int (own_nw N))])) rfl rfl (hb hby d22_2) _ (by rw [len_of S78 M78]; exact k)) ?_
  show own_Fin p e below (s₁.setTop (mkF m 3 #[.val (.ref a), .val (.int (own_nw N)), .unset] [(.int N), (.int (own_nw N))])) _
  refine own_go (fun _ k => XS.icmpYes X0.here hx rfl (pc0 := 3) (pc' := 14) rfl (hb hby d22_3) rfl (feq hne).2 (by decide) (by decide) (XS.iloadN X0.here hx rfl (hb hby d22_14) rfl k)) ?_
  show own_Fin p e below (s₁.setTop (mkF m 15 #[.val (.ref a), .val (.int (own_nw N)), .unset] [(.int (own_nw N))])) _
  obtain ⟨T79, h79, k79, X79, e79, E79, A79, B79, st79⟩ := newPE X0 hx hZ (ow hw 0) e0 (g := (mkF m 15 #[.val (.ref a), .val (.int (own_nw N)), .unset] [(.int (own_nw N))])) rfl (hb hby d22_15) rfl hnw (cap := 18) hcap (by decide) (by decide) (by decide) (ad := "[B") (by decide)
  obtain ⟨b79, g79⟩ : ∃ z, z = h0.size := ⟨_, rfl⟩
  rw [← g79] at A79 st79 B79
  refine own_go (fun _ k => st79 _ k) ?_
  have ne_a_b79 : a ≠ b79 := Nat.ne_of_lt (Nat.lt_of_lt_of_le V_a.lt (Nat.le_of_eq g79.symm))
  have g_b79 : n0 ≤ b79 := Nat.le_trans (own_osz O) (Nat.le_of_eq g79.symm)
  have sz_b79 : h0.size ≤ b79 := Nat.le_trans K0.1 (Nat.le_of_eq g79.symm)
  have V_a := V_a.ext E79
  have O := O.ext E79
  have K80 := K0.ext E79
  have E_b79 := B79
  have V_b79 : Arv Z h79 b79 k79 .byte (own_nw N) [] (.int 0) := Arv.new A79 hnw
  show own_Fin p e below (T79.setTop (mkF m 17 #[.val (.ref a), .val (.int (own_nw N)), .unset] [(.ref b79)])) _
  refine own_go (fun _ k => XS.astoreN X79.here hx rfl (hb hby d22_17) rfl rfl (l' := #[.val (.ref a), .val (.int (own_nw N)), .val (.ref b79)]) rfl (XS.aloadN X79.here hx rfl (hb hby d22_18) rfl rfl (XS.iconst X79.here hx rfl (hb hby d22_19) (XS.aloadN X79.here hx rfl (hb hby d22_20) rfl rfl (XS.iconst X79.here hx rfl (hb hby d22_21) (XS.aloadN X79.here hx rfl (hb hby d22_22) rfl rfl k)))))) ?_
  show own_Fin p e below (T79.setTop (mkF m 23 #[.val (.ref a), .val (.int (own_nw N)), .val (.ref b79)] [(.ref a), (.int 0), (.ref b79), (.int 0), (.ref a)])) _
  obtain ⟨cl81, A81, -, S81, M81, -, -⟩ := id V_a
  refine own_go (fun _ k => X79.arraylength hx (own_eqE e79 A81.1) (State.isArrayOf_alike hZ.alike A81.2.1) (g := (mkF m 23 #[.val (.ref a), .val (.int (own_nw N)), .val (.ref b79)] [(.ref a), (.int 0), (.ref b79), (.int 0), (.ref a)])) rfl rfl (hb hby d22_23) _ (by rw [len_of S81 M81]; exact k)) ?_
  show own_Fin p e below (T79.setTop (mkF m 24 #[.val (.ref a), .val (.int (own_nw N)), .val (.ref b79)] [(.int N), (.int 0), (.ref b79), (.int 0), (.ref a)])) _
  refine own_go (fun _ k => XS.iloadN X79.here hx rfl (hb hby d22_24) rfl k) ?_
  show own_Fin p e below (T79.setTop (mkF m 25 #[.val (.ref a), .val (.int (own_nw N)), .val (.ref b79)] [(.int (own_nw N)), (.int N), (.int 0), (.ref b79), (.int 0), (.ref a)])) _
  obtain ⟨_, _, ⟨T82, L82, k82, n82⟩, -, X82, ⟨Lc82, hQ82, l82, y82, z82⟩, st82⟩ := Jvm.LawKit.callS X79 hx (y := (⟨"java/lang/Math", "min", "(II)I"⟩ : MethodName)) hown (mvT hZ (ow hw 129)) (mvT hZ (ow hw 130)) (mvT hZ (ow hw 122)) (mvT hZ (ow hw 131)) (by decide) (backOf (W := 4) (mnn l Z a0 hw [] N (own_nw N) h79 n0 ) hZ (ow hw 131) (ow hw 122) (by decide) (by decide)) (g := (mkF m 25 #[.val (.ref a), .val (.int (own_nw N)), .val (.ref b79)] [(.int (own_nw N)), (.int N), (.int 0), (.ref b79), (.int 0), (.ref a)])) rfl (by rw [hml]; rfl) (argsL := [(.int N), (.int (own_nw N))]) (rest := [(.int 0), (.ref b79), (.int 0), (.ref a)]) (lenOf pd_1 rfl) rfl (by show 2 * 0 + _ ≤ _; exact Nat.le_of_eq rfl) (hb hby d22_25) (fun _ _ => ⟨rfl, e79, (by decide : 1 + 0 ≤ _), (by decide : 18 + 0 ≤ _)⟩)
  dsimp only [Pt.U, Pt.locs, Pt.cells, Pt.slots] at X82 l82 y82 z82 st82 hQ82
  subst l82 y82 z82
  obtain ⟨rfl, N82q, e82⟩ := hQ82
  refine own_go (fun _ k => st82 _ k) ?_
  have N82 := Fr.app N0 N82q
  show own_Fin p e below (T82.setTop (mkF m 28 #[.val (.ref a), .val (.int (own_nw N)), .val (.ref b79)] [(.int (own_mn N (own_nw N))), (.int 0), (.ref b79), (.int 0), (.ref a)])) _
  rw [show own_mn N (own_nw N) = N from own_min2 hnlt]
  have V_b79 := V_b79.pad (pad_rep [] (.int 0) (own_nw N).toNatClampNeg)
  show own_Fin p e below (T82.setTop (mkF m 28 #[.val (.ref a), .val (.int (own_nw N)), .val (.ref b79)] [(.int N), (.int 0), (.ref b79), (.int 0), (.ref a)])) _
  obtain ⟨T83, h83, L83, X83, e83, Nq83, Kq83, V83, st83⟩ := cpA X82 hx hZ hown (ow hw 132) (ow hw 135) (ow hw 133) (ow hw 134) e82 V_a V_b79 (Or.inl ⟨rfl, rfl⟩) (by decide) (by decide) hn0 (by rw [show (0 : Int32).toNatClampNeg = 0 from by decide]; omega) (by rw [show (0 : Int32).toNatClampNeg = 0 from by decide]; omega) (sp := (0 : Int32)) (dp := (0 : Int32)) (us := vs.take N.toNatClampNeg) (own_us vs _ _ hvl) (by rw [show (0 : Int32).toNatClampNeg = 0 from by decide]; simp <;> omega) N82 g_b79 (g := (mkF m 28 #[.val (.ref a), .val (.int (own_nw N)), .val (.ref b79)] [(.int N), (.int 0), (.ref b79), (.int 0), (.ref a)])) rfl (by rw [hml]; rfl) rfl (hb hby d22_28) (by decide) (W := 0) (by show 2 * 0 + _ ≤ _; exact Nat.le_of_eq rfl) (by decide)
  rw [own_cut, List.take_of_length_le hvm] at V83
  refine own_go (fun _ k => st83 _ k) ?_
  have V_a := V_a.keep Kq83 (ninS ne_a_b79 nin0)
  have E_b79 := E_b79.keep Kq83
  have O := O.keep Kq83 (allS g_b79 all0)
  have K84 := K80.trans Kq83 (allS (Or.inr sz_b79) all0)
  have V_b79 := V83
  show own_Fin p e below (T83.setTop (mkF m 31 #[.val (.ref a), .val (.int (own_nw N)), .val (.ref b79)] [])) _
  refine own_go (fun _ k => XS.aloadN X83.here hx rfl (hb hby d22_31) rfl rfl k) ?_
  show own_Fin p e below (T83.setTop (mkF m 32 #[.val (.ref a), .val (.int (own_nw N)), .val (.ref b79)] [(.ref b79)])) _
  obtain ⟨fs, hr, hrun, hended, hW, hsame⟩ := X83.leave (v := some (.ref b79)) (fun h => by rw [Bd.returns] at h; cases h)
  refine ⟨_, _, ?_, hrun, hended, _, _, rfl, ?_, ⟨_, rfl⟩, hW, hsame.mono (by decide) (by decide)⟩
  ·exact X83.areturnOut hx rfl Bd.returns rfl (hb hby d22_32) hr
  ·show Qcof Z a ka N vs h0 n0 _ T83.heap _
   rw [e83]
   exact ⟨b79, k79, rfl, Nq83, K84, sz_b79, V_b79, E_b79⟩
theorem own_c1 {N m_ : Int32} (h : own_gr N m_) : ¬ (own_nw N) < N := by
  have q := own_nwi h
  rw [Int32.lt_iff_toInt_lt]; have := h.2.1; omega
theorem own_c2 {N m_ : Int32} (h : own_gr N m_) : ¬ ((own_nw N) = N) := by
  have q := own_nwi h
  rw [← Int32.toInt_inj]; have := h.2.1; omega
theorem own_c3 {N m_ : Int32} (h : own_gr N m_) : 0 ≤ (own_nw N).toInt := by
  have q := own_nwi h
  have := h.2.1; omega
theorem own_c4 {N m_ : Int32} (h : own_gr N m_) : N.toNatClampNeg ≤ (own_nw N).toNatClampNeg := by
  have q := own_nwi h
  have a1 := own_cn h.2.1
  have a2 := own_cn (own_c3 h)
  have := h.2.1; omega
theorem own_c5 {N m_ : Int32} (h : own_gr N m_) : (own_nw N).toNatClampNeg ≤ 18 := by
  have q := own_nwi h
  have a2 := own_cn (own_c3 h)
  have := h.2.2; omega
theorem own_l1 {N : Int32} {vs : List Value} (h0 : 0 ≤ N.toInt) (h : vs.length = N.toInt.toNat) : N.toNatClampNeg ≤ vs.length ∧ vs.length ≤ N.toNatClampNeg := by
  have := own_cn h0; omega
theorem own_tk {vs : List Value} {cn : Int32} {v : Value} (h0 : 0 ≤ cn.toInt) (hb : cn.toInt < 100) (hl : cn.toInt < vs.length) : (vs.set cn.toNatClampNeg v).take ((cn + (1 : Int32)).toNatClampNeg) = vs.take cn.toNatClampNeg ++ [v] := by
  have e1 : (1 : Int32).toInt = 1 := by decide
  have q := c_iadd cn 1
  have rq := rng32 (cn + 1)
  have a1 := own_cn h0
  have a2 := own_cn (N := cn + 1) (by omega)
  have e : (cn + (1 : Int32)).toNatClampNeg = cn.toNatClampNeg + 1 := by omega
  rw [e, List.take_add_one, List.take_set_of_le (Nat.le_refl _)]
  congr 1
  have hk : cn.toNatClampNeg < vs.length := by omega
  rw [List.getElem?_set_self hk]; rfl
theorem own_okg {N m_ cn : Int32} {vs : List Value} (hg : own_gr N m_) (h : own_ok N vs cn) (v : Value) : own_ok (own_nw N) ((own_zs N vs).set cn.toNatClampNeg v) (cn + (1 : Int32)) := by
  obtain ⟨a, b, c, d⟩ := h
  have q := own_nwi hg
  have zl := own_zl hg d
  have e1 : (1 : Int32).toInt = 1 := by decide
  have q3 := c_iadd cn 1
  have rq3 := rng32 (cn + 1)
  obtain ⟨-, h1, h2⟩ := hg
  exact ⟨by omega, by omega, by omega, by rw [List.length_set]; exact zl⟩
theorem own_tkg {N m_ cn : Int32} {vs : List Value} (hg : own_gr N m_) (h : own_ok N vs cn) (v : Value) : ((own_zs N vs).set cn.toNatClampNeg v).take ((cn + (1 : Int32)).toNatClampNeg) = vs.take cn.toNatClampNeg ++ [v] := by
  obtain ⟨a, b, c, d⟩ := h
  have q := own_nwi hg
  have zl := own_zl hg d
  have c1 := own_cn a
  have hg2 := hg.2
  rw [own_tk a (by omega) (by omega)]
  congr 1
  unfold own_zs
  exact List.take_append_of_le_length (by omega)
theorem own_okn {N cn : Int32} {vs : List Value} (h : own_ok N vs cn) (hn : ¬ (cn = N)) (v : Value) : own_ok N (vs.set cn.toNatClampNeg v) (cn + (1 : Int32)) := by
  obtain ⟨a, b, c, d⟩ := h
  have e1 : (1 : Int32).toInt = 1 := by decide
  have q3 := c_iadd cn 1
  have rq3 := rng32 (cn + 1)
  rw [← Int32.toInt_inj] at hn
  exact ⟨by omega, by omega, by omega, by rw [List.length_set]; exact d⟩
theorem own_tkn {N cn : Int32} {vs : List Value} (h : own_ok N vs cn) (hn : ¬ (cn = N)) (v : Value) : (vs.set cn.toNatClampNeg v).take ((cn + (1 : Int32)).toNatClampNeg) = vs.take cn.toNatClampNeg ++ [v] := by
  obtain ⟨a, b, c, d⟩ := h
  rw [← Int32.toInt_inj] at hn
  exact own_tk a (by omega) (by omega)
theorem own_hle {N cn : Int32} {vs : List Value} (h : own_ok N vs cn) (hn : ¬ (cn = N)) : ¬ ((0 : Int32) < ((cn + (1 : Int32)) - (N >>> ((0 : Int32) &&& 31)))) := by
  obtain ⟨a, b, c, d⟩ := h
  rw [← Int32.toInt_inj] at hn
  have e1 : (1 : Int32).toInt = 1 := by decide
  have e0 : (0 : Int32).toInt = 0 := by decide
  have q3 := c_iadd cn 1
  have rq3 := rng32 (cn + 1)
  have q4 := c_isub (cn + 1) N
  have rq4 := rng32 ((cn + 1) - N)
  rw [own_sh0, Int32.lt_iff_toInt_lt]; omega
theorem own_inn {N cn : Int32} {vs : List Value} (h : own_ok N vs cn) (hn : ¬ (cn = N)) : ¬ cn < 0 ∧ cn < N := by
  obtain ⟨a, b, c, d⟩ := h
  rw [← Int32.toInt_inj] at hn
  exact ⟨own_nn a, by rw [Int32.lt_iff_toInt_lt]; omega⟩
theorem own_lnn {N cn : Int32} {vs : List Value} (h : own_ok N vs cn) (hn : ¬ (cn = N)) : cn.toNatClampNeg < vs.length := by
  obtain ⟨a, b, c, d⟩ := h
  rw [← Int32.toInt_inj] at hn
  have := own_cn a; omega
theorem own_grc {N cn : Int32} {vs : List Value} (h : own_ok N vs cn) (hn : cn = N) (h8 : cn.toInt ≤ 8) : own_gr N (cn + (1 : Int32)) := by
  subst hn; exact ⟨rfl, h.1, h8⟩
theorem own_ing {N m_ cn : Int32} {vs : List Value} (hg : own_gr N m_) (h : own_ok N vs cn) : ¬ cn < 0 ∧ cn < own_nw N := by
  have q := own_nwi hg
  obtain ⟨a, b, c, d⟩ := h
  have := hg.2
  exact ⟨own_nn a, by rw [Int32.lt_iff_toInt_lt]; omega⟩
theorem own_lng {N m_ cn : Int32} {vs : List Value} (hg : own_gr N m_) (h : own_ok N vs cn) : cn.toNatClampNeg < (own_zs N vs).length := by
  have q := own_nwi hg
  obtain ⟨a, b, c, d⟩ := h
  have zl := own_zl hg d
  have := own_cn a
  have := hg.2
  omega
theorem d17_0 : decode jdk_68_method_9_code 0 = .ok (.aload_n 0, 1) := by decide +kernel
theorem d17_1 : decode jdk_68_method_9_code 1 = .ok (.getfield 15, 3) := by decide +kernel
theorem d17_4 : decode jdk_68_method_9_code 4 = .ok (.arraylength, 1) := by decide +kernel
theorem d17_5 : decode jdk_68_method_9_code 5 = .ok (.aload_n 0, 1) := by decide +kernel
theorem d17_6 : decode jdk_68_method_9_code 6 = .ok (.getfield 22, 3) := by decide +kernel
theorem d17_9 : decode jdk_68_method_9_code 9 = .ok (.ishr, 1) := by decide +kernel
theorem d17_10 : decode jdk_68_method_9_code 10 = .ok (.istore_n 2, 1) := by decide +kernel
theorem d17_11 : decode jdk_68_method_9_code 11 = .ok (.iload_n 1, 1) := by decide +kernel
theorem d17_12 : decode jdk_68_method_9_code 12 = .ok (.iload_n 2, 1) := by decide +kernel
theorem d17_13 : decode jdk_68_method_9_code 13 = .ok (.isub, 1) := by decide +kernel
theorem d17_14 : decode jdk_68_method_9_code 14 = .ok (.ifCond .le 24, 3) := by decide +kernel
theorem d17_17 : decode jdk_68_method_9_code 17 = .ok (.aload_n 0, 1) := by decide +kernel
theorem d17_18 : decode jdk_68_method_9_code 18 = .ok (.aload_n 0, 1) := by decide +kernel
theorem d17_19 : decode jdk_68_method_9_code 19 = .ok (.getfield 15, 3) := by decide +kernel
theorem d17_22 : decode jdk_68_method_9_code 22 = .ok (.aload_n 0, 1) := by decide +kernel
theorem d17_23 : decode jdk_68_method_9_code 23 = .ok (.iload_n 1, 1) := by decide +kernel
theorem d17_24 : decode jdk_68_method_9_code 24 = .ok (.invokevirtual 104, 3) := by decide +kernel
theorem pd_3 : parseMethodDescriptor "(I)I" = some ⟨[.int], some .int⟩ := by decide +kernel
theorem d17_27 : decode jdk_68_method_9_code 27 = .ok (.aload_n 0, 1) := by decide +kernel
theorem d17_28 : decode jdk_68_method_9_code 28 = .ok (.getfield 22, 3) := by decide +kernel
theorem d17_31 : decode jdk_68_method_9_code 31 = .ok (.ishl, 1) := by decide +kernel
theorem d17_32 : decode jdk_68_method_9_code 32 = .ok (.invokestatic 108, 3) := by decide +kernel
theorem pd_4 : parseMethodDescriptor "([BI)[B" = some ⟨[(.array .byte), .int], some (.array .byte)⟩ := by decide +kernel
theorem d17_35 : decode jdk_68_method_9_code 35 = .ok (.putfield 15, 3) := by decide +kernel
theorem d17_38 : decode jdk_68_method_9_code 38 = .ok (.return_, 1) := by decide +kernel
theorem ef_ecg (m : MethodId) (x0 : Addr) (x1 : Int32) : entryFrame m #[(.ref x0), (.int x1)] 3 = mkF m 0 #[.val (.ref x0), .val (.int x1), .unset] [] := by first | (simp [entryFrame, mkF, argsToLocals, Value.category]; done) | rfl
def Qecg (Z : State) (b : Addr) (m_ : Int32) (t : Addr) (kt : ClassId) (N : Int32) (vs : List Value) (cn : Int32) (h0 : Heap) (n0 : Nat) (v : Option Value) (h : Heap) (L : List Loc) : Prop := ∃ (t2_ : Addr) (k2_ : ClassId), v = none ∧ Fr n0 L ∧ Keep h0 h [b] ∧ h0.size ≤ t2_ ∧ Exa Z h b "java/lang/StringBuilder" ∧ Fld Z h b "java/lang/AbstractStringBuilder" "value" "[B" (.ref t2_) ∧ Fld Z h b "java/lang/AbstractStringBuilder" "coder" "B" (.int 0) ∧ Fld Z h b "java/lang/AbstractStringBuilder" "count" "I" (.int cn) ∧ Arv Z h t2_ k2_ .byte (own_nw N) (own_zs N vs) (.int 0) ∧ Exa Z h t2_ "[B"
set_option maxRecDepth 65536 in
set_option maxHeartbeats 40000000 in
theorem ecg (l : Launch) (Z : State) (a0 : Array Value) (hw : ∀ d ∈ tables_1, d.before a0 Z = true) (ws : List Jvm.Cond) (b : Addr) (m_ : Int32) (t : Addr) (kt : ClassId) (N : Int32) (vs : List Value) (cn : Int32) (h0 : Heap) (n0 : Nat) (O : Old Z n0 h0) (E_b : Exa Z h0 b "java/lang/StringBuilder") (F_b_ASB_value : Fld Z h0 b "java/lang/AbstractStringBuilder" "value" "[B" (.ref t)) (F_b_ASB_coder : Fld Z h0 b "java/lang/AbstractStringBuilder" "coder" "B" (.int 0)) (F_b_ASB_count : Fld Z h0 b "java/lang/AbstractStringBuilder" "count" "I" (.int cn)) (V_t : Arv Z h0 t kt .byte N vs (.int 0)) (g_b : n0 ≤ b) (nbt : b ≠ t) (hgr : own_gr N m_) (hln : vs.length = N.toInt.toNat) :
    MetFree l (⟨"java/lang/AbstractStringBuilder", "ensureCapacityInternal", "(I)V"⟩ : MethodName) (head1 (Jvm.Cond.code (⟨"java/lang/AbstractStringBuilder", "ensureCapacityInternal", "(I)V"⟩ : MethodName) jdk_68_method_9_code 3 none :: ws) ({ frames := 3, cells := 1, slots := 18, locals := 48 } : Room)) (fun a' U' => a' = #[(.ref b), (.int m_)] ∧ Z.Warmed39 U'.vm ∧ U'.heap = h0) (fun _ _ _ _ _ => True) (fun _ U' o' W' => ∃ v' L', o' = .returned v' ∧ Qecg Z b m_ t kt N vs cn h0 n0 v' W'.heap L' ∧ FrameEnd U' o' W' L' ({ frames := 3, cells := 1, slots := 18, locals := 48 } : Room).cells ({ frames := 3, cells := 1, slots := 18, locals := 48 } : Room).slots) := by
  refine MetFree.of_bodySF (plainFor_of_name pn_0) hisR ?_
  intro p e s m args below meth c s₁ Bd hml0 hP hK
  obtain ⟨rfl, hZ, hh⟩ := hP
  have hx := Bd.exec
  have hby := Bd.bytes
  have hml : c.maxLocals = 3 := hml0
  have hown : s.vm.findClass "java/lang/AbstractStringBuilder" = some m.cls := findClass_of_methodNamed Bd.named
  have hnm := (name_of_methodNamed Bd.named Bd.method).1
  have X0 : Stand p l e ({ frames := 3, cells := 1, slots := 18, locals := 48 } : Room) s m #[(.ref b), (.int m_)] below meth c s₁ [] 0 0 := Stand.of_body Bd
  have e0 : s₁.heap = h0 := by rw [← hh, Bd.state]; rfl
  have N0 := Fr.nil n0
  have K0 := Keep.refl h0 [b]
  refine own_start (ef_ecg m b m_) (Q := fun o' t' => ∃ v' L', o' = .returned v' ∧ Qecg Z b m_ t kt N vs cn h0 n0 v' t'.heap L' ∧ FrameEnd s o' t' L' ({ frames := 3, cells := 1, slots := 18, locals := 48 } : Room).cells ({ frames := 3, cells := 1, slots := 18, locals := 48 } : Room).slots) ?_
  show own_Fin p e below (s₁.setTop (mkF m 0 #[.val (.ref b), .val (.int m_), .unset] [])) _
  refine own_go (fun _ k => XS.aloadN X0.here hx rfl (hb hby d17_0) rfl rfl k) ?_
  show own_Fin p e below (s₁.setTop (mkF m 1 #[.val (.ref b), .val (.int m_), .unset] [(.ref b)])) _
  obtain ⟨T86, X86, e86, st86⟩ := getF X0 hx hZ hown (host := "") (Or.inl (ow hw 22)) Via.refl e0 F_b_ASB_value (g := (mkF m 1 #[.val (.ref b), .val (.int m_), .unset] [(.ref b)])) rfl rfl (hb hby d17_1)
  refine own_go (fun _ k => st86 _ k) ?_
  show own_Fin p e below (T86.setTop (mkF m 4 #[.val (.ref b), .val (.int m_), .unset] [(.ref t)])) _
  obtain ⟨cl87, A87, -, S87, M87, -, -⟩ := id V_t
  refine own_go (fun _ k => X86.arraylength hx (own_eqE e86 A87.1) (State.isArrayOf_alike hZ.alike A87.2.1) (g := (mkF m 4 #[.val (.ref b), .val (.int m_), .unset] [(.ref t)])) rfl rfl (hb hby d17_4) _ (by rw [len_of S87 M87]; exact k)) ?_
  show own_Fin p e below (T86.setTop (mkF m 5 #[.val (.ref b), .val (.int m_), .unset] [(.int N)])) _
  refine own_go (fun _ k => XS.aloadN X86.here hx rfl (hb hby d17_5) rfl rfl k) ?_
  show own_Fin p e below (T86.setTop (mkF m 6 #[.val (.ref b), .val (.int m_), .unset] [(.ref b), (.int N)])) _
  obtain ⟨T88, X88, e88, st88⟩ := getF X86 hx hZ hown (host := "") (Or.inl (ow hw 24)) Via.refl e86 F_b_ASB_coder (g := (mkF m 6 #[.val (.ref b), .val (.int m_), .unset] [(.ref b), (.int N)])) rfl rfl (hb hby d17_6)
  refine own_go (fun _ k => st88 _ k) ?_
  show own_Fin p e below (T88.setTop (mkF m 9 #[.val (.ref b), .val (.int m_), .unset] [(.int 0), (.int N)])) _
  refine own_go (fun _ k => XS.ishr X88.here hx rfl (hb hby d17_9) rfl (XS.istoreN X88.here hx rfl (hb hby d17_10) rfl (l' := #[.val (.ref b), .val (.int m_), .val (.int (N >>> ((0 : Int32) &&& 31)))]) rfl (XS.iloadN X88.here hx rfl (hb hby d17_11) rfl (XS.iloadN X88.here hx rfl (hb hby d17_12) rfl (XS.isub X88.here hx rfl (hb hby d17_13) rfl (XS.ifNo X88.here hx rfl (hb hby d17_14) rfl ((if0 _ _).trans (tlt ((own_ck hgr) : (0 : Int32) < (m_ - (N >>> ((0 : Int32) &&& 31))))).2.2.2) (XS.aloadN X88.here hx rfl (hb hby d17_17) rfl rfl (XS.aloadN X88.here hx rfl (hb hby d17_18) rfl rfl k)))))))) ?_
  show own_Fin p e below (T88.setTop (mkF m 19 #[.val (.ref b), .val (.int m_), .val (.int (N >>> ((0 : Int32) &&& 31)))] [(.ref b), (.ref b)])) _
  obtain ⟨T89, X89, e89, st89⟩ := getF X88 hx hZ hown (host := "") (Or.inl (ow hw 22)) Via.refl e88 F_b_ASB_value (g := (mkF m 19 #[.val (.ref b), .val (.int m_), .val (.int (N >>> ((0 : Int32) &&& 31)))] [(.ref b), (.ref b)])) rfl rfl (hb hby d17_19)
  refine own_go (fun _ k => st89 _ k) ?_
  show own_Fin p e below (T89.setTop (mkF m 22 #[.val (.ref b), .val (.int m_), .val (.int (N >>> ((0 : Int32) &&& 31)))] [(.ref t), (.ref b)])) _
  refine own_go (fun _ k => XS.aloadN X89.here hx rfl (hb hby d17_22) rfl rfl (XS.iloadN X89.here hx rfl (hb hby d17_23) rfl k)) ?_
  show own_Fin p e below (T89.setTop (mkF m 24 #[.val (.ref b), .val (.int m_), .val (.int (N >>> ((0 : Int32) &&& 31)))] [(.int m_), (.ref b), (.ref t), (.ref b)])) _
  obtain ⟨cq90, q90, q90'⟩ := E_b.cell
  obtain ⟨_, _, ⟨T90, L90, k90, n90⟩, -, X90, ⟨Lc90, hQ90, l90, y90, z90⟩, st90⟩ := X89.privateBack hx (y := (⟨"java/lang/AbstractStringBuilder", "newCapacity", "(I)I"⟩ : MethodName)) hown (mvT hZ (ow hw 111)) (mvT hZ (ow hw 112)) (own_selS (mvT hZ (ow hw 44)) (by exact rfl) (Cond.privateMethod_at (mvP hZ (ow hw 113) (args := #[]))) (mvT hZ (ow hw 112)) (by decide)) (Cond.privateMethod_at (mvP hZ (ow hw 113) (args := #[]))) (mvT hZ (ow hw 115)) (by decide) (backOf (W := 2) (nc l Z a0 hw [] b m_ t kt N vs h0 n0 O F_b_ASB_value F_b_ASB_coder V_t hgr) hZ (ow hw 115) (ow hw 15) (by decide) (by decide)) (g := (mkF m 24 #[.val (.ref b), .val (.int m_), .val (.int (N >>> ((0 : Int32) &&& 31)))] [(.int m_), (.ref b), (.ref t), (.ref b)])) rfl (by rw [hml]; rfl) (Steps.refl _) (a := b) (own_eqE e89 q90) q90' (argsL := [(.int m_)]) (rest := [(.ref t), (.ref b)]) (lenOf pd_3 rfl) rfl (by show 2 * 0 + _ ≤ _; exact Nat.le_of_eq rfl) (hb hby d17_24) (fun _ _ => ⟨rfl, e89, (by decide : 0 + 0 ≤ _), (by decide : 0 + 0 ≤ _)⟩)
  dsimp only [Pt.U, Pt.locs, Pt.cells, Pt.slots] at X90 l90 y90 z90 st90 hQ90
  subst l90 y90 z90
  obtain ⟨rfl, N90q, e90⟩ := hQ90
  refine own_go (fun _ k => st90.trans k) ?_
  have N90 := Fr.app N0 N90q
  show own_Fin p e below (T90.setTop (mkF m 27 #[.val (.ref b), .val (.int m_), .val (.int (N >>> ((0 : Int32) &&& 31)))] [(.int (own_nw N)), (.ref t), (.ref b)])) _
  refine own_go (fun _ k => XS.aloadN X90.here hx rfl (hb hby d17_27) rfl rfl k) ?_
  show own_Fin p e below (T90.setTop (mkF m 28 #[.val (.ref b), .val (.int m_), .val (.int (N >>> ((0 : Int32) &&& 31)))] [(.ref b), (.int (own_nw N)), (.ref t), (.ref b)])) _
  obtain ⟨T91, X91, e91, st91⟩ := getF X90 hx hZ hown (host := "") (Or.inl (ow hw 24)) Via.refl e90 F_b_ASB_coder (g := (mkF m 28 #[.val (.ref b), .val (.int m_), .val (.int (N >>> ((0 : Int32) &&& 31)))] [(.ref b), (.int (own_nw N)), (.ref t), (.ref b)])) rfl rfl (hb hby d17_28)
  refine own_go (fun _ k => st91 _ k) ?_
  show own_Fin p e below (T91.setTop (mkF m 31 #[.val (.ref b), .val (.int m_), .val (.int (N >>> ((0 : Int32) &&& 31)))] [(.int 0), (.int (own_nw N)), (.ref t), (.ref b)])) _
  refine own_go (fun _ k => XS.ishl X91.here hx rfl (hb hby d17_31) rfl k) ?_
  show own_Fin p e below (T91.setTop (mkF m 32 #[.val (.ref b), .val (.int m_), .val (.int (N >>> ((0 : Int32) &&& 31)))] [(.int ((own_nw N) <<< ((0 : Int32) &&& 31))), (.ref t), (.ref b)])) _
  rw [own_sl0]
  show own_Fin p e below (T91.setTop (mkF m 32 #[.val (.ref b), .val (.int m_), .val (.int (N >>> ((0 : Int32) &&& 31)))] [(.int (own_nw N)), (.ref t), (.ref b)])) _
  show own_Fin p e below (T91.setTop (mkF m 32 #[.val (.ref b), .val (.int m_), .val (.int (N >>> ((0 : Int32) &&& 31)))] [(.int (own_nw N)), (.ref t), (.ref b)])) _
  obtain ⟨_, _, ⟨T92, L92, k92, n92⟩, -, X92, ⟨Lc92, hQ92, l92, y92, z92⟩, st92⟩ := Jvm.LawKit.callS X91 hx (y := (⟨"java/util/Arrays", "copyOf", "([BI)[B"⟩ : MethodName)) hown (mvT hZ (ow hw 126)) (mvT hZ (ow hw 127)) (mvT hZ (ow hw 66)) (mvT hZ (ow hw 128)) (by decide) (backOf (W := 1) (cof l Z a0 hw [] t kt N vs h0 n0 O V_t (own_nn hgr.2.1) (own_l1 hgr.2.1 hln).1 (own_l1 hgr.2.1 hln).2 (own_c1 hgr) (own_c2 hgr) (own_nn (own_c3 hgr)) (own_c4 hgr) (own_c5 hgr)) hZ (ow hw 128) (ow hw 66) (by decide) (by decide)) (g := (mkF m 32 #[.val (.ref b), .val (.int m_), .val (.int (N >>> ((0 : Int32) &&& 31)))] [(.int (own_nw N)), (.ref t), (.ref b)])) rfl (by rw [hml]; rfl) (argsL := [(.ref t), (.int (own_nw N))]) (rest := [(.ref b)]) (lenOf pd_4 rfl) rfl (by show 2 * 0 + _ ≤ _; exact Nat.le_of_eq rfl) (hb hby d17_32) (fun _ _ => ⟨rfl, e91, (by decide : 0 + 1 ≤ _), (by decide : 0 + 18 ≤ _)⟩)
  dsimp only [Pt.U, Pt.locs, Pt.cells, Pt.slots] at X92 l92 y92 z92 st92 hQ92
  subst l92 y92 z92
  obtain ⟨b_93, k_94, rfl, N92q, Kq92, P92_0, P92_1, P92_2⟩ := hQ92
  refine own_go (fun _ k => st92 _ k) ?_
  have N92 := Fr.app N90 N92q
  have ne_b_b_93 : b ≠ b_93 := Nat.ne_of_lt (Nat.lt_of_lt_of_le E_b.lt P92_0)
  have ne_t_b_93 : t ≠ b_93 := Nat.ne_of_lt (Nat.lt_of_lt_of_le V_t.lt P92_0)
  have g_b_93 : n0 ≤ b_93 := Nat.le_trans (own_osz O) P92_0
  have sz_b_93 : h0.size ≤ b_93 := Nat.le_trans K0.1 P92_0
  have E_b := E_b.keep Kq92
  have F_b_ASB_value := F_b_ASB_value.keep Kq92 nin0
  have F_b_ASB_coder := F_b_ASB_coder.keep Kq92 nin0
  have F_b_ASB_count := F_b_ASB_count.keep Kq92 nin0
  have V_t := V_t.keep Kq92 nin0
  have O := O.keep Kq92 all0
  have K95 := K0.trans Kq92 all0
  have V_b_93 := P92_1
  have E_b_93 := P92_2
  show own_Fin p e below (T92.setTop (mkF m 35 #[.val (.ref b), .val (.int m_), .val (.int (N >>> ((0 : Int32) &&& 31)))] [(.ref b_93), (.ref b)])) _
  obtain ⟨T96, h96, X96, e96, W96, st96⟩ := putF X92 hx hZ hown (host := "") (Or.inl (ow hw 22)) Via.refl rfl F_b_ASB_value E_b (Or.inl (ow hw 23)) (ow hw 6) (ty := (.array .byte)) (by decide) rfl rfl (g := (mkF m 35 #[.val (.ref b), .val (.int m_), .val (.int (N >>> ((0 : Int32) &&& 31)))] [(.ref b_93), (.ref b)])) rfl rfl (hb hby d17_35)
  refine own_go (fun _ k => st96 _ k) ?_
  have E_b := E_b.wr W96
  have F_b_ASB_coder := F_b_ASB_coder.other W96 (Or.inr (slot_ne (Or.inl (ow hw 25)) (Or.inl (ow hw 23)) (by decide) (t := .byte) (t' := (.array .byte)) (by decide) (by decide)))
  have F_b_ASB_count := F_b_ASB_count.other W96 (Or.inr (slot_ne (Or.inl (ow hw 56)) (Or.inl (ow hw 23)) (by decide) (t := .int) (t' := (.array .byte)) (by decide) (by decide)))
  have V_t := V_t.other W96 (Ne.symm nbt)
  have V_b_93 := V_b_93.other W96 (Ne.symm ne_b_b_93)
  have E_b_93 := E_b_93.wr W96
  have O := O.wr W96 g_b
  have K97 := K95.wr W96 (Or.inl (List.mem_of_getElem? (i := 0) rfl))
  have F_b_ASB_value := F_b_ASB_value.same W96
  have N96 := Fr.snoc X96 N92 g_b
  show own_Fin p e below (T96.setTop (mkF m 38 #[.val (.ref b), .val (.int m_), .val (.int (N >>> ((0 : Int32) &&& 31)))] [])) _
  obtain ⟨fs, hr, hrun, hended, hW, hsame⟩ := X96.leave (v := none) (fun _ => rfl)
  refine ⟨_, _, ?_, hrun, hended, _, _, rfl, ?_, ⟨_, rfl⟩, hW, hsame.mono (by decide) (by decide)⟩
  ·exact X96.returnOut hx Bd.returns (hb hby d17_38) hr
  ·show Qecg Z b m_ t kt N vs cn h0 n0 _ T96.heap _
   rw [e96]
   exact ⟨b_93, k_94, rfl, N96, K97, sz_b_93, E_b, F_b_ASB_value, F_b_ASB_coder, F_b_ASB_count, V_b_93, E_b_93⟩
theorem ef_ecn (m : MethodId) (x0 : Addr) (x1 : Int32) : entryFrame m #[(.ref x0), (.int x1)] 3 = mkF m 0 #[.val (.ref x0), .val (.int x1), .unset] [] := by first | (simp [entryFrame, mkF, argsToLocals, Value.category]; done) | rfl
def Qecn (Z : State) (b : Addr) (m_ : Int32) (t : Addr) (kt : ClassId) (N : Int32) (vs : List Value) (h0 : Heap) (n0 : Nat) (v : Option Value) (h : Heap) (L : List Loc) : Prop := v = none ∧ Fr n0 L ∧ h = h0
set_option maxRecDepth 65536 in
set_option maxHeartbeats 40000000 in
theorem ecn (l : Launch) (Z : State) (a0 : Array Value) (hw : ∀ d ∈ tables_1, d.before a0 Z = true) (ws : List Jvm.Cond) (b : Addr) (m_ : Int32) (t : Addr) (kt : ClassId) (N : Int32) (vs : List Value) (h0 : Heap) (n0 : Nat) (O : Old Z n0 h0) (F_b_ASB_value : Fld Z h0 b "java/lang/AbstractStringBuilder" "value" "[B" (.ref t)) (F_b_ASB_coder : Fld Z h0 b "java/lang/AbstractStringBuilder" "coder" "B" (.int 0)) (V_t : Arv Z h0 t kt .byte N vs (.int 0)) (hle : ¬ ((0 : Int32) < (m_ - (N >>> ((0 : Int32) &&& 31))))) :
    MetFree l (⟨"java/lang/AbstractStringBuilder", "ensureCapacityInternal", "(I)V"⟩ : MethodName) (head1 (Jvm.Cond.code (⟨"java/lang/AbstractStringBuilder", "ensureCapacityInternal", "(I)V"⟩ : MethodName) jdk_68_method_9_code 3 none :: ws) ({ frames := 0, cells := 0, slots := 0, locals := 0 } : Room)) (fun a' U' => a' = #[(.ref b), (.int m_)] ∧ Z.Warmed39 U'.vm ∧ U'.heap = h0) (fun _ _ _ _ _ => True) (fun _ U' o' W' => ∃ v' L', o' = .returned v' ∧ Qecn Z b m_ t kt N vs h0 n0 v' W'.heap L' ∧ FrameEnd U' o' W' L' ({ frames := 0, cells := 0, slots := 0, locals := 0 } : Room).cells ({ frames := 0, cells := 0, slots := 0, locals := 0 } : Room).slots) := by
  refine MetFree.of_bodySF (plainFor_of_name pn_0) hisR ?_
  intro p e s m args below meth c s₁ Bd hml0 hP hK
  obtain ⟨rfl, hZ, hh⟩ := hP
  have hx := Bd.exec
  have hby := Bd.bytes
  have hml : c.maxLocals = 3 := hml0
  have hown : s.vm.findClass "java/lang/AbstractStringBuilder" = some m.cls := findClass_of_methodNamed Bd.named
  have hnm := (name_of_methodNamed Bd.named Bd.method).1
  have X0 : Stand p l e ({ frames := 0, cells := 0, slots := 0, locals := 0 } : Room) s m #[(.ref b), (.int m_)] below meth c s₁ [] 0 0 := Stand.of_body Bd
  have e0 : s₁.heap = h0 := by rw [← hh, Bd.state]; rfl
  have N0 := Fr.nil n0
  refine own_start (ef_ecn m b m_) (Q := fun o' t' => ∃ v' L', o' = .returned v' ∧ Qecn Z b m_ t kt N vs h0 n0 v' t'.heap L' ∧ FrameEnd s o' t' L' ({ frames := 0, cells := 0, slots := 0, locals := 0 } : Room).cells ({ frames := 0, cells := 0, slots := 0, locals := 0 } : Room).slots) ?_
  show own_Fin p e below (s₁.setTop (mkF m 0 #[.val (.ref b), .val (.int m_), .unset] [])) _
  refine own_go (fun _ k => XS.aloadN X0.here hx rfl (hb hby d17_0) rfl rfl k) ?_
  show own_Fin p e below (s₁.setTop (mkF m 1 #[.val (.ref b), .val (.int m_), .unset] [(.ref b)])) _
  obtain ⟨T99, X99, e99, st99⟩ := getF X0 hx hZ hown (host := "") (Or.inl (ow hw 22)) Via.refl e0 F_b_ASB_value (g := (mkF m 1 #[.val (.ref b), .val (.int m_), .unset] [(.ref b)])) rfl rfl (hb hby d17_1)
  refine own_go (fun _ k => st99 _ k) ?_
  show own_Fin p e below (T99.setTop (mkF m 4 #[.val (.ref b), .val (.int m_), .unset] [(.ref t)])) _
  obtain ⟨cl100, A100, -, S100, M100, -, -⟩ := id V_t
  refine own_go (fun _ k => X99.arraylength hx (own_eqE e99 A100.1) (State.isArrayOf_alike hZ.alike A100.2.1) (g := (mkF m 4 #[.val (.ref b), .val (.int m_), .unset] [(.ref t)])) rfl rfl (hb hby d17_4) _ (by rw [len_of S100 M100]; exact k)) ?_
  show own_Fin p e below (T99.setTop (mkF m 5 #[.val (.ref b), .val (.int m_), .unset] [(.int N)])) _
  refine own_go (fun _ k => XS.aloadN X99.here hx rfl (hb hby d17_5) rfl rfl k) ?_
  show own_Fin p e below (T99.setTop (mkF m 6 #[.val (.ref b), .val (.int m_), .unset] [(.ref b), (.int N)])) _
  obtain ⟨T101, X101, e101, st101⟩ := getF X99 hx hZ hown (host := "") (Or.inl (ow hw 24)) Via.refl e99 F_b_ASB_coder (g := (mkF m 6 #[.val (.ref b), .val (.int m_), .unset] [(.ref b), (.int N)])) rfl rfl (hb hby d17_6)
  refine own_go (fun _ k => st101 _ k) ?_
  show own_Fin p e below (T101.setTop (mkF m 9 #[.val (.ref b), .val (.int m_), .unset] [(.int 0), (.int N)])) _
  refine own_go (fun _ k => XS.ishr X101.here hx rfl (hb hby d17_9) rfl (XS.istoreN X101.here hx rfl (hb hby d17_10) rfl (l' := #[.val (.ref b), .val (.int m_), .val (.int (N >>> ((0 : Int32) &&& 31)))]) rfl (XS.iloadN X101.here hx rfl (hb hby d17_11) rfl (XS.iloadN X101.here hx rfl (hb hby d17_12) rfl (XS.isub X101.here hx rfl (hb hby d17_13) rfl (XS.ifYes X101.here hx rfl (pc0 := 14) (pc' := 38) rfl (hb hby d17_14) rfl ((if0 _ _).trans (flt hle).2.2.2) (by decide) (by decide) k)))))) ?_
  show own_Fin p e below (T101.setTop (mkF m 38 #[.val (.ref b), .val (.int m_), .val (.int (N >>> ((0 : Int32) &&& 31)))] [])) _
  obtain ⟨fs, hr, hrun, hended, hW, hsame⟩ := X101.leave (v := none) (fun _ => rfl)
  refine ⟨_, _, ?_, hrun, hended, _, _, rfl, ?_, ⟨_, rfl⟩, hW, hsame.mono (by decide) (by decide)⟩
  ·exact X101.returnOut hx Bd.returns (hb hby d17_38) hr
  ·show Qecn Z b m_ t kt N vs h0 n0 _ T101.heap _
   rw [e101]
   exact ⟨rfl, N0, rfl⟩
theorem d16_0 : decode jdk_68_method_31_code 0 = .ok (.aload_n 0, 1) := by decide +kernel
theorem d16_1 : decode jdk_68_method_31_code 1 = .ok (.aload_n 0, 1) := by decide +kernel
theorem d16_2 : decode jdk_68_method_31_code 2 = .ok (.getfield 79, 3) := by decide +kernel
theorem d16_5 : decode jdk_68_method_31_code 5 = .ok (.iconst 1, 1) := by decide +kernel
theorem d16_6 : decode jdk_68_method_31_code 6 = .ok (.iadd, 1) := by decide +kernel
theorem d16_7 : decode jdk_68_method_31_code 7 = .ok (.invokevirtual 100, 3) := by decide +kernel
theorem d16_10 : decode jdk_68_method_31_code 10 = .ok (.aload_n 0, 1) := by decide +kernel
theorem d16_11 : decode jdk_68_method_31_code 11 = .ok (.invokevirtual 83, 3) := by decide +kernel
theorem pd_5 : parseMethodDescriptor "()Z" = some ⟨[], some .boolean⟩ := by decide +kernel
theorem d16_14 : decode jdk_68_method_31_code 14 = .ok (.ifCond .eq 31, 3) := by decide +kernel
theorem d16_17 : decode jdk_68_method_31_code 17 = .ok (.iload_n 1, 1) := by decide +kernel
theorem d16_18 : decode jdk_68_method_31_code 18 = .ok (.invokestatic 191, 3) := by decide +kernel
theorem pd_6 : parseMethodDescriptor "(C)Z" = some ⟨[.char], some .boolean⟩ := by decide +kernel
theorem d16_21 : decode jdk_68_method_31_code 21 = .ok (.ifCond .eq 24, 3) := by decide +kernel
theorem d16_24 : decode jdk_68_method_31_code 24 = .ok (.aload_n 0, 1) := by decide +kernel
theorem d16_25 : decode jdk_68_method_31_code 25 = .ok (.getfield 15, 3) := by decide +kernel
theorem d16_28 : decode jdk_68_method_31_code 28 = .ok (.aload_n 0, 1) := by decide +kernel
theorem d16_29 : decode jdk_68_method_31_code 29 = .ok (.dup, 1) := by decide +kernel
theorem d16_30 : decode jdk_68_method_31_code 30 = .ok (.getfield 79, 3) := by decide +kernel
theorem d16_33 : decode jdk_68_method_31_code 33 = .ok (.dup_x1, 1) := by decide +kernel
theorem d16_34 : decode jdk_68_method_31_code 34 = .ok (.iconst 1, 1) := by decide +kernel
theorem d16_35 : decode jdk_68_method_31_code 35 = .ok (.iadd, 1) := by decide +kernel
theorem d16_36 : decode jdk_68_method_31_code 36 = .ok (.putfield 79, 3) := by decide +kernel
theorem d16_39 : decode jdk_68_method_31_code 39 = .ok (.iload_n 1, 1) := by decide +kernel
theorem d16_40 : decode jdk_68_method_31_code 40 = .ok (.i2b, 1) := by decide +kernel
theorem d16_41 : decode jdk_68_method_31_code 41 = .ok (.bastore, 1) := by decide +kernel
theorem d16_42 : decode jdk_68_method_31_code 42 = .ok (.goto 33, 3) := by decide +kernel
theorem d16_75 : decode jdk_68_method_31_code 75 = .ok (.aload_n 0, 1) := by decide +kernel
theorem d16_76 : decode jdk_68_method_31_code 76 = .ok (.areturn, 1) := by decide +kernel
theorem ef_aap (m : MethodId) (x0 : Addr) (x1 : Int32) : entryFrame m #[(.ref x0), (.int x1)] 2 = mkF m 0 #[.val (.ref x0), .val (.int x1)] [] := by first | (simp [entryFrame, mkF, argsToLocals, Value.category]; done) | rfl
def Qaap (Z : State) (b : Addr) (c_ : Int32) (z : Int32) (t : Addr) (kt : ClassId) (N : Int32) (vs : List Value) (cn : Int32) (h0 : Heap) (n0 : Nat) (v : Option Value) (h : Heap) (L : List Loc) : Prop := ∃ (t2_ : Addr) (k2_ : ClassId) (N2_ : Int32) (vs2_ : List Value), v = some (.ref b) ∧ Fr n0 L ∧ Keep h0 h [b, t] ∧ (t2_ = t ∨ h0.size ≤ t2_) ∧ n0 ≤ t2_ ∧ b ≠ t2_ ∧ Exa Z h b "java/lang/StringBuilder" ∧ Fld Z h b "java/lang/AbstractStringBuilder" "value" "[B" (.ref t2_) ∧ Fld Z h b "java/lang/AbstractStringBuilder" "coder" "B" (.int 0) ∧ Fld Z h b "java/lang/AbstractStringBuilder" "count" "I" (.int (cn + (1 : Int32))) ∧ Arv Z h t2_ k2_ .byte N2_ vs2_ (.int 0) ∧ Exa Z h t2_ "[B" ∧ own_ok N2_ vs2_ (cn + (1 : Int32)) ∧ vs2_.take ((cn + (1 : Int32)).toNatClampNeg) = vs.take cn.toNatClampNeg ++ [(.int (nar .byte (c_.toInt8.toInt32)))]
set_option maxRecDepth 65536 in
set_option maxHeartbeats 40000000 in
theorem aap (l : Launch) (Z : State) (a0 : Array Value) (hw : ∀ d ∈ tables_1, d.before a0 Z = true) (ws : List Jvm.Cond) (b : Addr) (c_ : Int32) (z : Int32) (t : Addr) (kt : ClassId) (N : Int32) (vs : List Value) (cn : Int32) (h0 : Heap) (n0 : Nat) (O : Old Z n0 h0) (S_String_COMPACT_STRINGS : Sta Z Z.heap "java/lang/String" "COMPACT_STRINGS" "Z" (.int z)) (hz : ¬ (z = (0 : Int32))) (E_b : Exa Z h0 b "java/lang/StringBuilder") (F_b_ASB_value : Fld Z h0 b "java/lang/AbstractStringBuilder" "value" "[B" (.ref t)) (F_b_ASB_coder : Fld Z h0 b "java/lang/AbstractStringBuilder" "coder" "B" (.int 0)) (F_b_ASB_count : Fld Z h0 b "java/lang/AbstractStringBuilder" "count" "I" (.int cn)) (V_t : Arv Z h0 t kt .byte N vs (.int 0)) (E_t : Exa Z h0 t "[B") (g_b : n0 ≤ b) (g_t : n0 ≤ t) (nbt : b ≠ t) (hce : ¬ ((255 : Int32) < c_)) (hok : own_ok N vs cn) (h8 : cn.toInt ≤ 8) :
    MetFree l (⟨"java/lang/AbstractStringBuilder", "append", "(C)Ljava/lang/AbstractStringBuilder;"⟩ : MethodName) (head1 (Jvm.Cond.code (⟨"java/lang/AbstractStringBuilder", "append", "(C)Ljava/lang/AbstractStringBuilder;"⟩ : MethodName) jdk_68_method_31_code 2 (some (.object "java/lang/AbstractStringBuilder")) :: ws) ({ frames := 4, cells := 1, slots := 18, locals := 62 } : Room)) (fun a' U' => a' = #[(.ref b), (.int c_)] ∧ Z.Warmed39 U'.vm ∧ U'.heap = h0) (fun _ _ _ _ _ => True) (fun _ U' o' W' => ∃ v' L', o' = .returned v' ∧ Qaap Z b c_ z t kt N vs cn h0 n0 v' W'.heap L' ∧ FrameEnd U' o' W' L' ({ frames := 4, cells := 1, slots := 18, locals := 62 } : Room).cells ({ frames := 4, cells := 1, slots := 18, locals := 62 } : Room).slots) := by
  refine MetFree.of_bodySF (plainFor_of_name pn_0) hisR ?_
  intro p e s m args below meth c s₁ Bd hml0 hP hK
  obtain ⟨rfl, hZ, hh⟩ := hP
  have hx := Bd.exec
  have hby := Bd.bytes
  have hml : c.maxLocals = 2 := hml0
  have hown : s.vm.findClass "java/lang/AbstractStringBuilder" = some m.cls := findClass_of_methodNamed Bd.named
  have hnm := (name_of_methodNamed Bd.named Bd.method).1
  have X0 : Stand p l e ({ frames := 4, cells := 1, slots := 18, locals := 62 } : Room) s m #[(.ref b), (.int c_)] below meth c s₁ [] 0 0 := Stand.of_body Bd
  have e0 : s₁.heap = h0 := by rw [← hh, Bd.state]; rfl
  have N0 := Fr.nil n0
  have K0 := Keep.refl h0 [b, t]
  refine own_start (ef_aap m b c_) (Q := fun o' t' => ∃ v' L', o' = .returned v' ∧ Qaap Z b c_ z t kt N vs cn h0 n0 v' t'.heap L' ∧ FrameEnd s o' t' L' ({ frames := 4, cells := 1, slots := 18, locals := 62 } : Room).cells ({ frames := 4, cells := 1, slots := 18, locals := 62 } : Room).slots) ?_
  show own_Fin p e below (s₁.setTop (mkF m 0 #[.val (.ref b), .val (.int c_)] [])) _
  refine own_go (fun _ k => XS.aloadN X0.here hx rfl (hb hby d16_0) rfl rfl (XS.aloadN X0.here hx rfl (hb hby d16_1) rfl rfl k)) ?_
  show own_Fin p e below (s₁.setTop (mkF m 2 #[.val (.ref b), .val (.int c_)] [(.ref b), (.ref b)])) _
  obtain ⟨T103, X103, e103, st103⟩ := getF X0 hx hZ hown (host := "") (Or.inl (ow hw 55)) Via.refl e0 F_b_ASB_count (g := (mkF m 2 #[.val (.ref b), .val (.int c_)] [(.ref b), (.ref b)])) rfl rfl (hb hby d16_2)
  refine own_go (fun _ k => st103 _ k) ?_
  show own_Fin p e below (T103.setTop (mkF m 5 #[.val (.ref b), .val (.int c_)] [(.int cn), (.ref b)])) _
  refine own_go (fun _ k => XS.iconst X103.here hx rfl (hb hby d16_5) (XS.iadd X103.here hx rfl (hb hby d16_6) rfl k)) ?_
  show own_Fin p e below (T103.setTop (mkF m 7 #[.val (.ref b), .val (.int c_)] [(.int (cn + (1 : Int32))), (.ref b)])) _
  by_cases hsq : cn = N
  ·show own_Fin p e below (T103.setTop (mkF m 7 #[.val (.ref b), .val (.int c_)] [(.int (cn + (1 : Int32))), (.ref b)])) _
   obtain ⟨cq104, q104, q104'⟩ := E_b.cell
   obtain ⟨_, _, ⟨T104, L104, k104, n104⟩, -, X104, ⟨Lc104, hQ104, l104, y104, z104⟩, st104⟩ := X103.privateBack hx (y := (⟨"java/lang/AbstractStringBuilder", "ensureCapacityInternal", "(I)V"⟩ : MethodName)) hown (mvT hZ (ow hw 99)) (mvT hZ (ow hw 100)) (own_selS (mvT hZ (ow hw 44)) (by exact rfl) (Cond.privateMethod_at (mvP hZ (ow hw 101) (args := #[]))) (mvT hZ (ow hw 100)) (by decide)) (Cond.privateMethod_at (mvP hZ (ow hw 101) (args := #[]))) (mvT hZ (ow hw 103)) (by decide) (backOf (W := 0) (ecg l Z a0 hw [] b (cn + (1 : Int32)) t kt N vs cn h0 n0 O E_b F_b_ASB_value F_b_ASB_coder F_b_ASB_count V_t g_b nbt (own_grc hok hsq h8) hok.2.2.2) hZ (ow hw 103) (ow hw 15) (by decide) (by decide)) (g := (mkF m 7 #[.val (.ref b), .val (.int c_)] [(.int (cn + (1 : Int32))), (.ref b)])) rfl (by rw [hml]; rfl) (Steps.refl _) (a := b) (own_eqE e103 q104) q104' (argsL := [(.int (cn + (1 : Int32)))]) (rest := []) (lenOf pd_0 rfl) rfl (by show 2 * 0 + _ ≤ _; exact Nat.le_of_eq rfl) (hb hby d16_7) (fun _ _ => ⟨rfl, e103, (by decide : 0 + 1 ≤ _), (by decide : 0 + 18 ≤ _)⟩)
   dsimp only [Pt.U, Pt.locs, Pt.cells, Pt.slots] at X104 l104 y104 z104 st104 hQ104
   subst l104 y104 z104
   obtain ⟨t2_105, k2_106, rfl, N104q, Kq104, P104_0, P104_1, P104_2, P104_3, P104_4, P104_5, P104_6⟩ := hQ104
   refine own_go (fun _ k => st104.trans k) ?_
   have N104 := Fr.app N0 N104q
   have ne_b_t2_105 : b ≠ t2_105 := Nat.ne_of_lt (Nat.lt_of_lt_of_le E_b.lt P104_0)
   have ne_t_t2_105 : t ≠ t2_105 := Nat.ne_of_lt (Nat.lt_of_lt_of_le V_t.lt P104_0)
   have g_t2_105 : n0 ≤ t2_105 := Nat.le_trans (own_osz O) P104_0
   have sz_t2_105 : h0.size ≤ t2_105 := Nat.le_trans K0.1 P104_0
   have E_b := E_b.keep Kq104
   clear F_b_ASB_value
   clear F_b_ASB_coder
   clear F_b_ASB_count
   have V_t := V_t.keep Kq104 (ninS (Ne.symm nbt) nin0)
   have E_t := E_t.keep Kq104
   have O := O.keep Kq104 (allS g_b all0)
   have K107 := K0.trans Kq104 (allS (Or.inl (List.mem_of_getElem? (i := 0) rfl)) all0)
   have E_b := P104_1
   have F_b_ASB_value := P104_2
   have F_b_ASB_coder := P104_3
   have F_b_ASB_count := P104_4
   have V_t2_105 := P104_5
   have E_t2_105 := P104_6
   show own_Fin p e below (T104.setTop (mkF m 10 #[.val (.ref b), .val (.int c_)] [])) _
   refine own_go (fun _ k => XS.aloadN X104.here hx rfl (hb hby d16_10) rfl rfl k) ?_
   show own_Fin p e below (T104.setTop (mkF m 11 #[.val (.ref b), .val (.int c_)] [(.ref b)])) _
   obtain ⟨cq108, kq108, q108a, q108b, q108c⟩ := isOf hZ rfl E_b
   obtain ⟨_, _, ⟨T108, L108, k108, n108⟩, -, X108, ⟨Lc108, hQ108, l108, y108, z108⟩, st108⟩ := X104.virtualBack hx (y := (⟨"java/lang/AbstractStringBuilder", "isLatin1", "()Z"⟩ : MethodName)) (z := (⟨"java/lang/AbstractStringBuilder", "isLatin1", "()Z"⟩ : MethodName)) hown (mvT hZ (ow hw 104)) (mvT hZ (ow hw 58)) (notFace_of_selects (args := #[]) (mvT hZ (ow hw 60))) (mvT hZ (ow hw 60)) (mvT hZ (ow hw 59)) (by decide) (backOf (W := 0) (rm11 l Z a0 hw [] b z (T104.heap) n0 O S_String_COMPACT_STRINGS hz F_b_ASB_coder) hZ (ow hw 61) (ow hw 15) (by decide) (by decide)) q108a q108c (g := (mkF m 11 #[.val (.ref b), .val (.int c_)] [(.ref b)])) rfl (by rw [hml]; rfl) (Steps.refl _) (argsL := []) (rest := []) (lenOf pd_5 rfl) rfl (by show 2 * 0 + _ ≤ _; exact Nat.le_of_eq rfl) (hb hby d16_11) (fun _ _ => ⟨rfl, rfl, (by decide : 1 + 0 ≤ _), (by decide : 18 + 0 ≤ _)⟩)
   dsimp only [Pt.U, Pt.locs, Pt.cells, Pt.slots] at X108 l108 y108 z108 st108 hQ108
   subst l108 y108 z108
   obtain ⟨rfl, N108q, e108⟩ := hQ108
   refine own_go (fun _ k => st108.trans k) ?_
   have N108 := Fr.app N104 N108q
   show own_Fin p e below (T108.setTop (mkF m 14 #[.val (.ref b), .val (.int c_)] [(.int 1)])) _
   refine own_go (fun _ k => XS.ifNo X108.here hx rfl (hb hby d16_14) rfl ((if0 _ _).trans (feq (by decide : ¬ ((1 : Int32) = (0 : Int32)))).1) (XS.iloadN X108.here hx rfl (hb hby d16_17) rfl k)) ?_
   show own_Fin p e below (T108.setTop (mkF m 18 #[.val (.ref b), .val (.int c_)] [(.int c_)])) _
   obtain ⟨_, _, ⟨T109, L109, k109, n109⟩, -, X109, ⟨Lc109, hQ109, l109, y109, z109⟩, st109⟩ := Jvm.LawKit.callS X108 hx (y := (⟨"java/lang/StringLatin1", "canEncode", "(C)Z"⟩ : MethodName)) hown (mvT hZ (ow hw 105)) (mvT hZ (ow hw 106)) (mvT hZ (ow hw 107)) (mvT hZ (ow hw 108)) (by decide) (backOf (W := 0) (rm18 l Z a0 hw [] c_ (T104.heap) n0 hce) hZ (ow hw 108) (ow hw 107) (by decide) (by decide)) (g := (mkF m 18 #[.val (.ref b), .val (.int c_)] [(.int c_)])) rfl (by rw [hml]; rfl) (argsL := [(.int c_)]) (rest := []) (lenOf pd_6 rfl) rfl (by show 2 * 0 + _ ≤ _; exact Nat.le_of_eq rfl) (hb hby d16_18) (fun _ _ => ⟨rfl, e108, (by decide : 1 + 0 ≤ _), (by decide : 18 + 0 ≤ _)⟩)
   dsimp only [Pt.U, Pt.locs, Pt.cells, Pt.slots] at X109 l109 y109 z109 st109 hQ109
   subst l109 y109 z109
   obtain ⟨rfl, N109q, e109⟩ := hQ109
   refine own_go (fun _ k => st109 _ k) ?_
   have N109 := Fr.app N108 N109q
   show own_Fin p e below (T109.setTop (mkF m 21 #[.val (.ref b), .val (.int c_)] [(.int 1)])) _
   refine own_go (fun _ k => XS.ifNo X109.here hx rfl (hb hby d16_21) rfl ((if0 _ _).trans (feq (by decide : ¬ ((1 : Int32) = (0 : Int32)))).1) (XS.aloadN X109.here hx rfl (hb hby d16_24) rfl rfl k)) ?_
   show own_Fin p e below (T109.setTop (mkF m 25 #[.val (.ref b), .val (.int c_)] [(.ref b)])) _
   obtain ⟨T110, X110, e110, st110⟩ := getF X109 hx hZ hown (host := "") (Or.inl (ow hw 22)) Via.refl e109 F_b_ASB_value (g := (mkF m 25 #[.val (.ref b), .val (.int c_)] [(.ref b)])) rfl rfl (hb hby d16_25)
   refine own_go (fun _ k => st110 _ k) ?_
   show own_Fin p e below (T110.setTop (mkF m 28 #[.val (.ref b), .val (.int c_)] [(.ref t2_105)])) _
   refine own_go (fun _ k => XS.aloadN X110.here hx rfl (hb hby d16_28) rfl rfl (XS.dup X110.here hx rfl (hb hby d16_29) rfl rfl k)) ?_
   show own_Fin p e below (T110.setTop (mkF m 30 #[.val (.ref b), .val (.int c_)] [(.ref b), (.ref b), (.ref t2_105)])) _
   obtain ⟨T111, X111, e111, st111⟩ := getF X110 hx hZ hown (host := "") (Or.inl (ow hw 55)) Via.refl e110 F_b_ASB_count (g := (mkF m 30 #[.val (.ref b), .val (.int c_)] [(.ref b), (.ref b), (.ref t2_105)])) rfl rfl (hb hby d16_30)
   refine own_go (fun _ k => st111 _ k) ?_
   show own_Fin p e below (T111.setTop (mkF m 33 #[.val (.ref b), .val (.int c_)] [(.int cn), (.ref b), (.ref t2_105)])) _
   refine own_go (fun _ k => XS.dupX1 X111.here hx rfl (hb hby d16_33) rfl rfl rfl (XS.iconst X111.here hx rfl (hb hby d16_34) (XS.iadd X111.here hx rfl (hb hby d16_35) rfl k))) ?_
   show own_Fin p e below (T111.setTop (mkF m 36 #[.val (.ref b), .val (.int c_)] [(.int (cn + (1 : Int32))), (.ref b), (.int cn), (.ref t2_105)])) _
   obtain ⟨T112, h112, X112, e112, W112, st112⟩ := putF X111 hx hZ hown (host := "") (Or.inl (ow hw 55)) Via.refl e111 F_b_ASB_count E_b (Or.inl (ow hw 56)) (ow hw 6) (ty := .int) (by decide) rfl rfl (g := (mkF m 36 #[.val (.ref b), .val (.int c_)] [(.int (cn + (1 : Int32))), (.ref b), (.int cn), (.ref t2_105)])) rfl rfl (hb hby d16_36)
   refine own_go (fun _ k => st112 _ k) ?_
   have E_b := E_b.wr W112
   have V_t := V_t.other W112 (Ne.symm nbt)
   have E_t := E_t.wr W112
   have F_b_ASB_value := F_b_ASB_value.other W112 (Or.inr (slot_ne (Or.inl (ow hw 23)) (Or.inl (ow hw 56)) (by decide) (t := (.array .byte)) (t' := .int) (by decide) (by decide)))
   have F_b_ASB_coder := F_b_ASB_coder.other W112 (Or.inr (slot_ne (Or.inl (ow hw 25)) (Or.inl (ow hw 56)) (by decide) (t := .byte) (t' := .int) (by decide) (by decide)))
   have V_t2_105 := V_t2_105.other W112 (Ne.symm ne_b_t2_105)
   have E_t2_105 := E_t2_105.wr W112
   have O := O.wr W112 g_b
   have K113 := K107.wr W112 (Or.inl (List.mem_of_getElem? (i := 0) rfl))
   have F_b_ASB_count := F_b_ASB_count.same W112
   have N112 := Fr.snoc X112 N109 g_b
   show own_Fin p e below (T112.setTop (mkF m 39 #[.val (.ref b), .val (.int c_)] [(.int cn), (.ref t2_105)])) _
   refine own_go (fun _ k => XS.iloadN X112.here hx rfl (hb hby d16_39) rfl (XS.i2b X112.here hx rfl (hb hby d16_40) rfl k)) ?_
   show own_Fin p e below (T112.setTop (mkF m 41 #[.val (.ref b), .val (.int c_)] [(.int (c_.toInt8.toInt32)), (.int cn), (.ref t2_105)])) _
   obtain ⟨cl114, A114, q114, S114, M114, H114, G114⟩ := id V_t2_105
   have hin114 : ¬ (cn < 0 ∨ cl114.slots.size ≤ (cn).toNatClampNeg) := inb_of S114 (own_ing (own_grc hok hsq h8) hok)
   obtain ⟨T114, h114, X114, e114, W114, st114⟩ := stB X112 hx hZ e112 A114 (j := cn) hin114 (g := (mkF m 41 #[.val (.ref b), .val (.int c_)] [(.int (c_.toInt8.toInt32)), (.int cn), (.ref t2_105)])) rfl rfl (hb hby d16_41)
   refine own_go (fun _ k => st114 _ k) ?_
   have E_b := E_b.wr W114
   have V_t := V_t.other W114 ne_t_t2_105
   have E_t := E_t.wr W114
   have F_b_ASB_value := F_b_ASB_value.other W114 (Or.inl ne_b_t2_105)
   have F_b_ASB_coder := F_b_ASB_coder.other W114 (Or.inl ne_b_t2_105)
   have F_b_ASB_count := F_b_ASB_count.other W114 (Or.inl ne_b_t2_105)
   have E_t2_105 := E_t2_105.wr W114
   have O := O.wr W114 g_t2_105
   have K115 := K113.wr W114 (Or.inr sz_t2_105)
   have V_t2_105 := Arv.set A114 q114 S114 M114 H114 G114 (fits_nar_byte _) W114 _ rfl (own_lng (own_grc hok hsq h8) hok)
   have N114 := Fr.snoc X114 N112 g_t2_105
   show own_Fin p e below (T114.setTop (mkF m 42 #[.val (.ref b), .val (.int c_)] [])) _
   refine own_go (fun _ k => XS.goto X114.here hx rfl (pc0 := 42) (pc' := 75) rfl (hb hby d16_42) (by decide) (by decide) (XS.aloadN X114.here hx rfl (hb hby d16_75) rfl rfl k)) ?_
   show own_Fin p e below (T114.setTop (mkF m 76 #[.val (.ref b), .val (.int c_)] [(.ref b)])) _
   obtain ⟨fs, hr, hrun, hended, hW, hsame⟩ := X114.leave (v := some (.ref b)) (fun h => by rw [Bd.returns] at h; cases h)
   refine ⟨_, _, ?_, hrun, hended, _, _, rfl, ?_, ⟨_, rfl⟩, hW, hsame.mono (by decide) (by decide)⟩
   ·exact X114.areturnOut hx rfl Bd.returns rfl (hb hby d16_76) hr
   ·show Qaap Z b c_ z t kt N vs cn h0 n0 _ T114.heap _
    rw [e114]
    exact ⟨t2_105, k2_106, (own_nw N), (List.set (own_zs N vs) cn.toNatClampNeg (.int (nar .byte (c_.toInt8.toInt32)))), rfl, N114, K115, (Or.inr sz_t2_105), g_t2_105, ne_b_t2_105, E_b, F_b_ASB_value, F_b_ASB_coder, F_b_ASB_count, V_t2_105, E_t2_105, (own_okg (own_grc hok hsq h8) hok _), (own_tkg (own_grc hok hsq h8) hok _)⟩
  ·show own_Fin p e below (T103.setTop (mkF m 7 #[.val (.ref b), .val (.int c_)] [(.int (cn + (1 : Int32))), (.ref b)])) _
   obtain ⟨cq117, q117, q117'⟩ := E_b.cell
   obtain ⟨_, _, ⟨T117, L117, k117, n117⟩, -, X117, ⟨Lc117, hQ117, l117, y117, z117⟩, st117⟩ := X103.privateBack hx (y := (⟨"java/lang/AbstractStringBuilder", "ensureCapacityInternal", "(I)V"⟩ : MethodName)) hown (mvT hZ (ow hw 99)) (mvT hZ (ow hw 100)) (own_selS (mvT hZ (ow hw 44)) (by exact rfl) (Cond.privateMethod_at (mvP hZ (ow hw 101) (args := #[]))) (mvT hZ (ow hw 100)) (by decide)) (Cond.privateMethod_at (mvP hZ (ow hw 101) (args := #[]))) (mvT hZ (ow hw 103)) (by decide) (backOf (W := 0) (ecn l Z a0 hw [] b (cn + (1 : Int32)) t kt N vs h0 n0 O F_b_ASB_value F_b_ASB_coder V_t (own_hle hok hsq)) hZ (ow hw 103) (ow hw 15) (by decide) (by decide)) (g := (mkF m 7 #[.val (.ref b), .val (.int c_)] [(.int (cn + (1 : Int32))), (.ref b)])) rfl (by rw [hml]; rfl) (Steps.refl _) (a := b) (own_eqE e103 q117) q117' (argsL := [(.int (cn + (1 : Int32)))]) (rest := []) (lenOf pd_0 rfl) rfl (by show 2 * 0 + _ ≤ _; exact Nat.le_of_eq rfl) (hb hby d16_7) (fun _ _ => ⟨rfl, e103, (by decide : 0 + 0 ≤ _), (by decide : 0 + 0 ≤ _)⟩)
   dsimp only [Pt.U, Pt.locs, Pt.cells, Pt.slots] at X117 l117 y117 z117 st117 hQ117
   subst l117 y117 z117
   obtain ⟨rfl, N117q, e117⟩ := hQ117
   refine own_go (fun _ k => st117.trans k) ?_
   have N117 := Fr.app N0 N117q
   show own_Fin p e below (T117.setTop (mkF m 10 #[.val (.ref b), .val (.int c_)] [])) _
   refine own_go (fun _ k => XS.aloadN X117.here hx rfl (hb hby d16_10) rfl rfl k) ?_
   show own_Fin p e below (T117.setTop (mkF m 11 #[.val (.ref b), .val (.int c_)] [(.ref b)])) _
   obtain ⟨cq118, kq118, q118a, q118b, q118c⟩ := isOf hZ e117 E_b
   obtain ⟨_, _, ⟨T118, L118, k118, n118⟩, -, X118, ⟨Lc118, hQ118, l118, y118, z118⟩, st118⟩ := X117.virtualBack hx (y := (⟨"java/lang/AbstractStringBuilder", "isLatin1", "()Z"⟩ : MethodName)) (z := (⟨"java/lang/AbstractStringBuilder", "isLatin1", "()Z"⟩ : MethodName)) hown (mvT hZ (ow hw 104)) (mvT hZ (ow hw 58)) (notFace_of_selects (args := #[]) (mvT hZ (ow hw 60))) (mvT hZ (ow hw 60)) (mvT hZ (ow hw 59)) (by decide) (backOf (W := 0) (rm11 l Z a0 hw [] b z h0 n0 O S_String_COMPACT_STRINGS hz F_b_ASB_coder) hZ (ow hw 61) (ow hw 15) (by decide) (by decide)) q118a q118c (g := (mkF m 11 #[.val (.ref b), .val (.int c_)] [(.ref b)])) rfl (by rw [hml]; rfl) (Steps.refl _) (argsL := []) (rest := []) (lenOf pd_5 rfl) rfl (by show 2 * 0 + _ ≤ _; exact Nat.le_of_eq rfl) (hb hby d16_11) (fun _ _ => ⟨rfl, e117, (by decide : 0 + 0 ≤ _), (by decide : 0 + 0 ≤ _)⟩)
   dsimp only [Pt.U, Pt.locs, Pt.cells, Pt.slots] at X118 l118 y118 z118 st118 hQ118
   subst l118 y118 z118
   obtain ⟨rfl, N118q, e118⟩ := hQ118
   refine own_go (fun _ k => st118.trans k) ?_
   have N118 := Fr.app N117 N118q
   show own_Fin p e below (T118.setTop (mkF m 14 #[.val (.ref b), .val (.int c_)] [(.int 1)])) _
   refine own_go (fun _ k => XS.ifNo X118.here hx rfl (hb hby d16_14) rfl ((if0 _ _).trans (feq (by decide : ¬ ((1 : Int32) = (0 : Int32)))).1) (XS.iloadN X118.here hx rfl (hb hby d16_17) rfl k)) ?_
   show own_Fin p e below (T118.setTop (mkF m 18 #[.val (.ref b), .val (.int c_)] [(.int c_)])) _
   obtain ⟨_, _, ⟨T119, L119, k119, n119⟩, -, X119, ⟨Lc119, hQ119, l119, y119, z119⟩, st119⟩ := Jvm.LawKit.callS X118 hx (y := (⟨"java/lang/StringLatin1", "canEncode", "(C)Z"⟩ : MethodName)) hown (mvT hZ (ow hw 105)) (mvT hZ (ow hw 106)) (mvT hZ (ow hw 107)) (mvT hZ (ow hw 108)) (by decide) (backOf (W := 0) (rm18 l Z a0 hw [] c_ h0 n0 hce) hZ (ow hw 108) (ow hw 107) (by decide) (by decide)) (g := (mkF m 18 #[.val (.ref b), .val (.int c_)] [(.int c_)])) rfl (by rw [hml]; rfl) (argsL := [(.int c_)]) (rest := []) (lenOf pd_6 rfl) rfl (by show 2 * 0 + _ ≤ _; exact Nat.le_of_eq rfl) (hb hby d16_18) (fun _ _ => ⟨rfl, e118, (by decide : 0 + 0 ≤ _), (by decide : 0 + 0 ≤ _)⟩)
   dsimp only [Pt.U, Pt.locs, Pt.cells, Pt.slots] at X119 l119 y119 z119 st119 hQ119
   subst l119 y119 z119
   obtain ⟨rfl, N119q, e119⟩ := hQ119
   refine own_go (fun _ k => st119 _ k) ?_
   have N119 := Fr.app N118 N119q
   show own_Fin p e below (T119.setTop (mkF m 21 #[.val (.ref b), .val (.int c_)] [(.int 1)])) _
   refine own_go (fun _ k => XS.ifNo X119.here hx rfl (hb hby d16_21) rfl ((if0 _ _).trans (feq (by decide : ¬ ((1 : Int32) = (0 : Int32)))).1) (XS.aloadN X119.here hx rfl (hb hby d16_24) rfl rfl k)) ?_
   show own_Fin p e below (T119.setTop (mkF m 25 #[.val (.ref b), .val (.int c_)] [(.ref b)])) _
   obtain ⟨T120, X120, e120, st120⟩ := getF X119 hx hZ hown (host := "") (Or.inl (ow hw 22)) Via.refl e119 F_b_ASB_value (g := (mkF m 25 #[.val (.ref b), .val (.int c_)] [(.ref b)])) rfl rfl (hb hby d16_25)
   refine own_go (fun _ k => st120 _ k) ?_
   show own_Fin p e below (T120.setTop (mkF m 28 #[.val (.ref b), .val (.int c_)] [(.ref t)])) _
   refine own_go (fun _ k => XS.aloadN X120.here hx rfl (hb hby d16_28) rfl rfl (XS.dup X120.here hx rfl (hb hby d16_29) rfl rfl k)) ?_
   show own_Fin p e below (T120.setTop (mkF m 30 #[.val (.ref b), .val (.int c_)] [(.ref b), (.ref b), (.ref t)])) _
   obtain ⟨T121, X121, e121, st121⟩ := getF X120 hx hZ hown (host := "") (Or.inl (ow hw 55)) Via.refl e120 F_b_ASB_count (g := (mkF m 30 #[.val (.ref b), .val (.int c_)] [(.ref b), (.ref b), (.ref t)])) rfl rfl (hb hby d16_30)
   refine own_go (fun _ k => st121 _ k) ?_
   show own_Fin p e below (T121.setTop (mkF m 33 #[.val (.ref b), .val (.int c_)] [(.int cn), (.ref b), (.ref t)])) _
   refine own_go (fun _ k => XS.dupX1 X121.here hx rfl (hb hby d16_33) rfl rfl rfl (XS.iconst X121.here hx rfl (hb hby d16_34) (XS.iadd X121.here hx rfl (hb hby d16_35) rfl k))) ?_
   show own_Fin p e below (T121.setTop (mkF m 36 #[.val (.ref b), .val (.int c_)] [(.int (cn + (1 : Int32))), (.ref b), (.int cn), (.ref t)])) _
   obtain ⟨T122, h122, X122, e122, W122, st122⟩ := putF X121 hx hZ hown (host := "") (Or.inl (ow hw 55)) Via.refl e121 F_b_ASB_count E_b (Or.inl (ow hw 56)) (ow hw 6) (ty := .int) (by decide) rfl rfl (g := (mkF m 36 #[.val (.ref b), .val (.int c_)] [(.int (cn + (1 : Int32))), (.ref b), (.int cn), (.ref t)])) rfl rfl (hb hby d16_36)
   refine own_go (fun _ k => st122 _ k) ?_
   have E_b := E_b.wr W122
   have F_b_ASB_value := F_b_ASB_value.other W122 (Or.inr (slot_ne (Or.inl (ow hw 23)) (Or.inl (ow hw 56)) (by decide) (t := (.array .byte)) (t' := .int) (by decide) (by decide)))
   have F_b_ASB_coder := F_b_ASB_coder.other W122 (Or.inr (slot_ne (Or.inl (ow hw 25)) (Or.inl (ow hw 56)) (by decide) (t := .byte) (t' := .int) (by decide) (by decide)))
   have V_t := V_t.other W122 (Ne.symm nbt)
   have E_t := E_t.wr W122
   have O := O.wr W122 g_b
   have K123 := K0.wr W122 (Or.inl (List.mem_of_getElem? (i := 0) rfl))
   have F_b_ASB_count := F_b_ASB_count.same W122
   have N122 := Fr.snoc X122 N119 g_b
   show own_Fin p e below (T122.setTop (mkF m 39 #[.val (.ref b), .val (.int c_)] [(.int cn), (.ref t)])) _
   refine own_go (fun _ k => XS.iloadN X122.here hx rfl (hb hby d16_39) rfl (XS.i2b X122.here hx rfl (hb hby d16_40) rfl k)) ?_
   show own_Fin p e below (T122.setTop (mkF m 41 #[.val (.ref b), .val (.int c_)] [(.int (c_.toInt8.toInt32)), (.int cn), (.ref t)])) _
   obtain ⟨cl124, A124, q124, S124, M124, H124, G124⟩ := id V_t
   have hin124 : ¬ (cn < 0 ∨ cl124.slots.size ≤ (cn).toNatClampNeg) := inb_of S124 (own_inn hok hsq)
   obtain ⟨T124, h124, X124, e124, W124, st124⟩ := stB X122 hx hZ e122 A124 (j := cn) hin124 (g := (mkF m 41 #[.val (.ref b), .val (.int c_)] [(.int (c_.toInt8.toInt32)), (.int cn), (.ref t)])) rfl rfl (hb hby d16_41)
   refine own_go (fun _ k => st124 _ k) ?_
   have E_b := E_b.wr W124
   have F_b_ASB_value := F_b_ASB_value.other W124 (Or.inl nbt)
   have F_b_ASB_coder := F_b_ASB_coder.other W124 (Or.inl nbt)
   have F_b_ASB_count := F_b_ASB_count.other W124 (Or.inl nbt)
   have E_t := E_t.wr W124
   have O := O.wr W124 g_t
   have K125 := K123.wr W124 (Or.inl (List.mem_of_getElem? (i := 1) rfl))
   have V_t := Arv.set A124 q124 S124 M124 H124 G124 (fits_nar_byte _) W124 _ rfl (own_lnn hok hsq)
   have N124 := Fr.snoc X124 N122 g_t
   show own_Fin p e below (T124.setTop (mkF m 42 #[.val (.ref b), .val (.int c_)] [])) _
   refine own_go (fun _ k => XS.goto X124.here hx rfl (pc0 := 42) (pc' := 75) rfl (hb hby d16_42) (by decide) (by decide) (XS.aloadN X124.here hx rfl (hb hby d16_75) rfl rfl k)) ?_
   show own_Fin p e below (T124.setTop (mkF m 76 #[.val (.ref b), .val (.int c_)] [(.ref b)])) _
   obtain ⟨fs, hr, hrun, hended, hW, hsame⟩ := X124.leave (v := some (.ref b)) (fun h => by rw [Bd.returns] at h; cases h)
   refine ⟨_, _, ?_, hrun, hended, _, _, rfl, ?_, ⟨_, rfl⟩, hW, hsame.mono (by decide) (by decide)⟩
   ·exact X124.areturnOut hx rfl Bd.returns rfl (hb hby d16_76) hr
   ·show Qaap Z b c_ z t kt N vs cn h0 n0 _ T124.heap _
    rw [e124]
    exact ⟨t, kt, N, (List.set vs cn.toNatClampNeg (.int (nar .byte (c_.toInt8.toInt32)))), rfl, N124, K125, (Or.inl rfl), g_t, nbt, E_b, F_b_ASB_value, F_b_ASB_coder, F_b_ASB_count, V_t, E_t, (own_okn hok hsq _), (own_tkn hok hsq _)⟩
theorem d15_0 : decode jdk_67_method_14_code 0 = .ok (.aload_n 0, 1) := by decide +kernel
theorem d15_1 : decode jdk_67_method_14_code 1 = .ok (.iload_n 1, 1) := by decide +kernel
theorem d15_2 : decode jdk_67_method_14_code 2 = .ok (.invokespecial 50, 3) := by decide +kernel
theorem pd_7 : parseMethodDescriptor "(C)Ljava/lang/AbstractStringBuilder;" = some ⟨[.char], some (.object "java/lang/AbstractStringBuilder")⟩ := by decide +kernel
theorem d15_5 : decode jdk_67_method_14_code 5 = .ok (.pop, 1) := by decide +kernel
theorem d15_6 : decode jdk_67_method_14_code 6 = .ok (.aload_n 0, 1) := by decide +kernel
theorem d15_7 : decode jdk_67_method_14_code 7 = .ok (.areturn, 1) := by decide +kernel
theorem ef_sap (m : MethodId) (x0 : Addr) (x1 : Int32) : entryFrame m #[(.ref x0), (.int x1)] 2 = mkF m 0 #[.val (.ref x0), .val (.int x1)] [] := by first | (simp [entryFrame, mkF, argsToLocals, Value.category]; done) | rfl
def Qsap (Z : State) (b : Addr) (c_ : Int32) (z : Int32) (t : Addr) (kt : ClassId) (N : Int32) (vs : List Value) (cn : Int32) (h0 : Heap) (n0 : Nat) (v : Option Value) (h : Heap) (L : List Loc) : Prop := ∃ (t2_ : Addr) (k2_ : ClassId) (N2_ : Int32) (vs2_ : List Value), v = some (.ref b) ∧ Fr n0 L ∧ Keep h0 h [b, t] ∧ (t2_ = t ∨ h0.size ≤ t2_) ∧ n0 ≤ t2_ ∧ b ≠ t2_ ∧ Exa Z h b "java/lang/StringBuilder" ∧ Fld Z h b "java/lang/AbstractStringBuilder" "value" "[B" (.ref t2_) ∧ Fld Z h b "java/lang/AbstractStringBuilder" "coder" "B" (.int 0) ∧ Fld Z h b "java/lang/AbstractStringBuilder" "count" "I" (.int (cn + (1 : Int32))) ∧ Arv Z h t2_ k2_ .byte N2_ vs2_ (.int 0) ∧ Exa Z h t2_ "[B" ∧ own_ok N2_ vs2_ (cn + (1 : Int32)) ∧ vs2_.take ((cn + (1 : Int32)).toNatClampNeg) = vs.take cn.toNatClampNeg ++ [(.int (nar .byte (c_.toInt8.toInt32)))]
set_option maxRecDepth 65536 in
set_option maxHeartbeats 40000000 in
theorem sap (l : Launch) (Z : State) (a0 : Array Value) (hw : ∀ d ∈ tables_1, d.before a0 Z = true) (ws : List Jvm.Cond) (b : Addr) (c_ : Int32) (z : Int32) (t : Addr) (kt : ClassId) (N : Int32) (vs : List Value) (cn : Int32) (h0 : Heap) (n0 : Nat) (O : Old Z n0 h0) (S_String_COMPACT_STRINGS : Sta Z Z.heap "java/lang/String" "COMPACT_STRINGS" "Z" (.int z)) (hz : ¬ (z = (0 : Int32))) (E_b : Exa Z h0 b "java/lang/StringBuilder") (F_b_ASB_value : Fld Z h0 b "java/lang/AbstractStringBuilder" "value" "[B" (.ref t)) (F_b_ASB_coder : Fld Z h0 b "java/lang/AbstractStringBuilder" "coder" "B" (.int 0)) (F_b_ASB_count : Fld Z h0 b "java/lang/AbstractStringBuilder" "count" "I" (.int cn)) (V_t : Arv Z h0 t kt .byte N vs (.int 0)) (E_t : Exa Z h0 t "[B") (g_b : n0 ≤ b) (g_t : n0 ≤ t) (nbt : b ≠ t) (hce : ¬ ((255 : Int32) < c_)) (hok : own_ok N vs cn) (h8 : cn.toInt ≤ 8) :
    MetFree l (⟨"java/lang/StringBuilder", "append", "(C)Ljava/lang/StringBuilder;"⟩ : MethodName) (head1 (Jvm.Cond.code (⟨"java/lang/StringBuilder", "append", "(C)Ljava/lang/StringBuilder;"⟩ : MethodName) jdk_67_method_14_code 2 (some (.object "java/lang/StringBuilder")) :: ws) ({ frames := 5, cells := 1, slots := 18, locals := 75 } : Room)) (fun a' U' => a' = #[(.ref b), (.int c_)] ∧ Z.Warmed39 U'.vm ∧ U'.heap = h0) (fun _ _ _ _ _ => True) (fun _ U' o' W' => ∃ v' L', o' = .returned v' ∧ Qsap Z b c_ z t kt N vs cn h0 n0 v' W'.heap L' ∧ FrameEnd U' o' W' L' ({ frames := 5, cells := 1, slots := 18, locals := 75 } : Room).cells ({ frames := 5, cells := 1, slots := 18, locals := 75 } : Room).slots) := by
  refine MetFree.of_bodySF (plainFor_of_name pn_1) hisR ?_
  intro p e s m args below meth c s₁ Bd hml0 hP hK
  obtain ⟨rfl, hZ, hh⟩ := hP
  have hx := Bd.exec
  have hby := Bd.bytes
  have hml : c.maxLocals = 2 := hml0
  have hown : s.vm.findClass "java/lang/StringBuilder" = some m.cls := findClass_of_methodNamed Bd.named
  have hnm := (name_of_methodNamed Bd.named Bd.method).1
  have X0 : Stand p l e ({ frames := 5, cells := 1, slots := 18, locals := 75 } : Room) s m #[(.ref b), (.int c_)] below meth c s₁ [] 0 0 := Stand.of_body Bd
  have e0 : s₁.heap = h0 := by rw [← hh, Bd.state]; rfl
  have N0 := Fr.nil n0
  have K0 := Keep.refl h0 [b, t]
  refine own_start (ef_sap m b c_) (Q := fun o' t' => ∃ v' L', o' = .returned v' ∧ Qsap Z b c_ z t kt N vs cn h0 n0 v' t'.heap L' ∧ FrameEnd s o' t' L' ({ frames := 5, cells := 1, slots := 18, locals := 75 } : Room).cells ({ frames := 5, cells := 1, slots := 18, locals := 75 } : Room).slots) ?_
  show own_Fin p e below (s₁.setTop (mkF m 0 #[.val (.ref b), .val (.int c_)] [])) _
  refine own_go (fun _ k => XS.aloadN X0.here hx rfl (hb hby d15_0) rfl rfl (XS.iloadN X0.here hx rfl (hb hby d15_1) rfl k)) ?_
  show own_Fin p e below (s₁.setTop (mkF m 2 #[.val (.ref b), .val (.int c_)] [(.int c_), (.ref b)])) _
  obtain ⟨_, _, ⟨T127, L127, k127, n127⟩, -, X127, ⟨Lc127, hQ127, l127, y127, z127⟩, st127⟩ := superBack X0 hx hZ (y := (⟨"java/lang/AbstractStringBuilder", "append", "(C)Ljava/lang/AbstractStringBuilder;"⟩ : MethodName)) hown (ow hw 95) (own_same (y := (⟨"java/lang/AbstractStringBuilder", "append", "(C)Ljava/lang/AbstractStringBuilder;"⟩ : MethodName)) (ow hw 96) (ow hw 44) (by exact rfl) (by decide)) (ow hw 96) (ow hw 53) (by decide) (backOf (W := 0) (aap l Z a0 hw [] b c_ z t kt N vs cn h0 n0 O S_String_COMPACT_STRINGS hz E_b F_b_ASB_value F_b_ASB_coder F_b_ASB_count V_t E_t g_b g_t nbt hce hok h8) hZ (ow hw 98) (ow hw 15) (by decide) (by decide)) e0 (Ins.self E_b) (g := (mkF m 2 #[.val (.ref b), .val (.int c_)] [(.int c_), (.ref b)])) rfl (by rw [hml]; rfl) (ow hw 98) (argsL := [(.int c_)]) (rest := []) (lenOf pd_7 rfl) rfl (by show 2 * 0 + _ ≤ _; exact Nat.le_of_eq rfl) (hb hby d15_2) (fun _ _ => ⟨rfl, e0, (by decide : 0 + 1 ≤ _), (by decide : 0 + 18 ≤ _)⟩)
  dsimp only [Pt.U, Pt.locs, Pt.cells, Pt.slots] at X127 l127 y127 z127 st127 hQ127
  subst l127 y127 z127
  obtain ⟨t2_128, k2_129, N2_130, vs2_131, rfl, N127q, Kq127, P127_0, P127_1, P127_2, P127_3, P127_4, P127_5, P127_6, P127_7, P127_8, P127_9, P127_10⟩ := hQ127
  refine own_go (fun _ k => st127.trans k) ?_
  have N127 := Fr.app N0 N127q
  have E_b := E_b.keep Kq127
  clear F_b_ASB_value
  clear F_b_ASB_coder
  clear F_b_ASB_count
  clear V_t
  have E_t := E_t.keep Kq127
  have O := O.keep Kq127 (allS g_b (allS g_t all0))
  have K132 := K0.trans Kq127 (allS (Or.inl (List.mem_of_getElem? (i := 0) rfl)) (allS (Or.inl (List.mem_of_getElem? (i := 1) rfl)) all0))
  have E_b := P127_3
  have F_b_ASB_value := P127_4
  have F_b_ASB_coder := P127_5
  have F_b_ASB_count := P127_6
  have V_t2_128 := P127_7
  have E_t2_128 := P127_8
  show own_Fin p e below (T127.setTop (mkF m 5 #[.val (.ref b), .val (.int c_)] [(.ref b)])) _
  refine own_go (fun _ k => XS.pop X127.here hx rfl (hb hby d15_5) rfl rfl (XS.aloadN X127.here hx rfl (hb hby d15_6) rfl rfl k)) ?_
  show own_Fin p e below (T127.setTop (mkF m 7 #[.val (.ref b), .val (.int c_)] [(.ref b)])) _
  obtain ⟨fs, hr, hrun, hended, hW, hsame⟩ := X127.leave (v := some (.ref b)) (fun h => by rw [Bd.returns] at h; cases h)
  refine ⟨_, _, ?_, hrun, hended, _, _, rfl, ?_, ⟨_, rfl⟩, hW, hsame.mono (by decide) (by decide)⟩
  ·exact X127.areturnOut hx rfl Bd.returns rfl (hb hby d15_7) hr
  ·show Qsap Z b c_ z t kt N vs cn h0 n0 _ T127.heap _
   exact ⟨t2_128, k2_129, N2_130, vs2_131, rfl, N127, K132, (by assumption), (by assumption), (by assumption), E_b, F_b_ASB_value, F_b_ASB_coder, F_b_ASB_count, V_t2_128, E_t2_128, (by assumption), (by assumption)⟩
theorem d10_0 : decode jdk_68_method_6_code 0 = .ok (.aload_n 0, 1) := by decide +kernel
theorem d10_1 : decode jdk_68_method_6_code 1 = .ok (.getfield 79, 3) := by decide +kernel
theorem d10_4 : decode jdk_68_method_6_code 4 = .ok (.ireturn, 1) := by decide +kernel
theorem ef_al (m : MethodId) (x0 : Addr) : entryFrame m #[(.ref x0)] 1 = mkF m 0 #[.val (.ref x0)] [] := by first | (simp [entryFrame, mkF, argsToLocals, Value.category]; done) | rfl
def Qal (Z : State) (b : Addr) (cn : Int32) (h0 : Heap) (n0 : Nat) (v : Option Value) (h : Heap) (L : List Loc) : Prop := v = some (.int cn) ∧ Fr n0 L ∧ h = h0
set_option maxRecDepth 65536 in
set_option maxHeartbeats 40000000 in
theorem al (l : Launch) (Z : State) (a0 : Array Value) (hw : ∀ d ∈ tables_1, d.before a0 Z = true) (ws : List Jvm.Cond) (b : Addr) (cn : Int32) (h0 : Heap) (n0 : Nat) (O : Old Z n0 h0) (F_b_ASB_count : Fld Z h0 b "java/lang/AbstractStringBuilder" "count" "I" (.int cn)) :
    MetFree l (⟨"java/lang/AbstractStringBuilder", "length", "()I"⟩ : MethodName) (head1 (Jvm.Cond.code (⟨"java/lang/AbstractStringBuilder", "length", "()I"⟩ : MethodName) jdk_68_method_6_code 1 (some .int) :: ws) ({ frames := 0, cells := 0, slots := 0, locals := 0 } : Room)) (fun a' U' => a' = #[(.ref b)] ∧ Z.Warmed39 U'.vm ∧ U'.heap = h0) (fun _ _ _ _ _ => True) (fun _ U' o' W' => ∃ v' L', o' = .returned v' ∧ Qal Z b cn h0 n0 v' W'.heap L' ∧ FrameEnd U' o' W' L' ({ frames := 0, cells := 0, slots := 0, locals := 0 } : Room).cells ({ frames := 0, cells := 0, slots := 0, locals := 0 } : Room).slots) := by
  refine MetFree.of_bodySF (plainFor_of_name pn_0) hisR ?_
  intro p e s m args below meth c s₁ Bd hml0 hP hK
  obtain ⟨rfl, hZ, hh⟩ := hP
  have hx := Bd.exec
  have hby := Bd.bytes
  have hml : c.maxLocals = 1 := hml0
  have hown : s.vm.findClass "java/lang/AbstractStringBuilder" = some m.cls := findClass_of_methodNamed Bd.named
  have hnm := (name_of_methodNamed Bd.named Bd.method).1
  have X0 : Stand p l e ({ frames := 0, cells := 0, slots := 0, locals := 0 } : Room) s m #[(.ref b)] below meth c s₁ [] 0 0 := Stand.of_body Bd
  have e0 : s₁.heap = h0 := by rw [← hh, Bd.state]; rfl
  have N0 := Fr.nil n0
  refine own_start (ef_al m b) (Q := fun o' t' => ∃ v' L', o' = .returned v' ∧ Qal Z b cn h0 n0 v' t'.heap L' ∧ FrameEnd s o' t' L' ({ frames := 0, cells := 0, slots := 0, locals := 0 } : Room).cells ({ frames := 0, cells := 0, slots := 0, locals := 0 } : Room).slots) ?_
  show own_Fin p e below (s₁.setTop (mkF m 0 #[.val (.ref b)] [])) _
  refine own_go (fun _ k => XS.aloadN X0.here hx rfl (hb hby d10_0) rfl rfl k) ?_
  show own_Fin p e below (s₁.setTop (mkF m 1 #[.val (.ref b)] [(.ref b)])) _
  obtain ⟨T134, X134, e134, st134⟩ := getF X0 hx hZ hown (host := "") (Or.inl (ow hw 55)) Via.refl e0 F_b_ASB_count (g := (mkF m 1 #[.val (.ref b)] [(.ref b)])) rfl rfl (hb hby d10_1)
  refine own_go (fun _ k => st134 _ k) ?_
  show own_Fin p e below (T134.setTop (mkF m 4 #[.val (.ref b)] [(.int cn)])) _
  obtain ⟨fs, hr, hrun, hended, hW, hsame⟩ := X134.leave (v := some (.int cn)) (fun h => by rw [Bd.returns] at h; cases h)
  refine ⟨_, _, ?_, hrun, hended, _, _, rfl, ?_, ⟨_, rfl⟩, hW, hsame.mono (by decide) (by decide)⟩
  ·exact own_retI X134 hx Bd.returns (hb hby d10_4) hr
  ·show Qal Z b cn h0 n0 _ T134.heap _
   rw [e134]
   exact ⟨rfl, N0, rfl⟩
theorem d9_0 : decode jdk_67_method_93_code 0 = .ok (.aload_n 0, 1) := by decide +kernel
theorem d9_1 : decode jdk_67_method_93_code 1 = .ok (.invokespecial 343, 3) := by decide +kernel
theorem pd_8 : parseMethodDescriptor "()I" = some ⟨[], some .int⟩ := by decide +kernel
theorem d9_4 : decode jdk_67_method_93_code 4 = .ok (.ireturn, 1) := by decide +kernel
theorem ef_sl (m : MethodId) (x0 : Addr) : entryFrame m #[(.ref x0)] 1 = mkF m 0 #[.val (.ref x0)] [] := by first | (simp [entryFrame, mkF, argsToLocals, Value.category]; done) | rfl
def Qsl (Z : State) (b : Addr) (cn : Int32) (h0 : Heap) (n0 : Nat) (v : Option Value) (h : Heap) (L : List Loc) : Prop := v = some (.int cn) ∧ Fr n0 L ∧ h = h0
set_option maxRecDepth 65536 in
set_option maxHeartbeats 40000000 in
theorem sl (l : Launch) (Z : State) (a0 : Array Value) (hw : ∀ d ∈ tables_1, d.before a0 Z = true) (ws : List Jvm.Cond) (b : Addr) (cn : Int32) (h0 : Heap) (n0 : Nat) (O : Old Z n0 h0) (E_b : Exa Z h0 b "java/lang/StringBuilder") (F_b_ASB_count : Fld Z h0 b "java/lang/AbstractStringBuilder" "count" "I" (.int cn)) :
    MetFree l (⟨"java/lang/StringBuilder", "length", "()I"⟩ : MethodName) (head1 (Jvm.Cond.code (⟨"java/lang/StringBuilder", "length", "()I"⟩ : MethodName) jdk_67_method_93_code 1 (some .int) :: ws) ({ frames := 1, cells := 0, slots := 0, locals := 12 } : Room)) (fun a' U' => a' = #[(.ref b)] ∧ Z.Warmed39 U'.vm ∧ U'.heap = h0) (fun _ _ _ _ _ => True) (fun _ U' o' W' => ∃ v' L', o' = .returned v' ∧ Qsl Z b cn h0 n0 v' W'.heap L' ∧ FrameEnd U' o' W' L' ({ frames := 1, cells := 0, slots := 0, locals := 12 } : Room).cells ({ frames := 1, cells := 0, slots := 0, locals := 12 } : Room).slots) := by
  refine MetFree.of_bodySF (plainFor_of_name pn_1) hisR ?_
  intro p e s m args below meth c s₁ Bd hml0 hP hK
  obtain ⟨rfl, hZ, hh⟩ := hP
  have hx := Bd.exec
  have hby := Bd.bytes
  have hml : c.maxLocals = 1 := hml0
  have hown : s.vm.findClass "java/lang/StringBuilder" = some m.cls := findClass_of_methodNamed Bd.named
  have hnm := (name_of_methodNamed Bd.named Bd.method).1
  have X0 : Stand p l e ({ frames := 1, cells := 0, slots := 0, locals := 12 } : Room) s m #[(.ref b)] below meth c s₁ [] 0 0 := Stand.of_body Bd
  have e0 : s₁.heap = h0 := by rw [← hh, Bd.state]; rfl
  have N0 := Fr.nil n0
  refine own_start (ef_sl m b) (Q := fun o' t' => ∃ v' L', o' = .returned v' ∧ Qsl Z b cn h0 n0 v' t'.heap L' ∧ FrameEnd s o' t' L' ({ frames := 1, cells := 0, slots := 0, locals := 12 } : Room).cells ({ frames := 1, cells := 0, slots := 0, locals := 12 } : Room).slots) ?_
  show own_Fin p e below (s₁.setTop (mkF m 0 #[.val (.ref b)] [])) _
  refine own_go (fun _ k => XS.aloadN X0.here hx rfl (hb hby d9_0) rfl rfl k) ?_
  show own_Fin p e below (s₁.setTop (mkF m 1 #[.val (.ref b)] [(.ref b)])) _
  obtain ⟨_, _, ⟨T136, L136, k136, n136⟩, -, X136, ⟨Lc136, hQ136, l136, y136, z136⟩, st136⟩ := superBack X0 hx hZ (y := (⟨"java/lang/AbstractStringBuilder", "length", "()I"⟩ : MethodName)) hown (ow hw 52) (own_same (y := (⟨"java/lang/AbstractStringBuilder", "length", "()I"⟩ : MethodName)) (ow hw 48) (ow hw 44) (by exact rfl) (by decide)) (ow hw 48) (ow hw 53) (by decide) (backOf (W := 0) (al l Z a0 hw [] b cn h0 n0 O F_b_ASB_count) hZ (ow hw 54) (ow hw 15) (by decide) (by decide)) e0 (Ins.self E_b) (g := (mkF m 1 #[.val (.ref b)] [(.ref b)])) rfl (by rw [hml]; rfl) (ow hw 54) (argsL := []) (rest := []) (lenOf pd_8 rfl) rfl (by show 2 * 0 + _ ≤ _; exact Nat.le_of_eq rfl) (hb hby d9_1) (fun _ _ => ⟨rfl, e0, (by decide : 0 + 0 ≤ _), (by decide : 0 + 0 ≤ _)⟩)
  dsimp only [Pt.U, Pt.locs, Pt.cells, Pt.slots] at X136 l136 y136 z136 st136 hQ136
  subst l136 y136 z136
  obtain ⟨rfl, N136q, e136⟩ := hQ136
  refine own_go (fun _ k => st136.trans k) ?_
  have N136 := Fr.app N0 N136q
  show own_Fin p e below (T136.setTop (mkF m 4 #[.val (.ref b)] [(.int cn)])) _
  obtain ⟨fs, hr, hrun, hended, hW, hsame⟩ := X136.leave (v := some (.int cn)) (fun h => by rw [Bd.returns] at h; cases h)
  refine ⟨_, _, ?_, hrun, hended, _, _, rfl, ?_, ⟨_, rfl⟩, hW, hsame.mono (by decide) (by decide)⟩
  ·exact own_retI X136 hx Bd.returns (hb hby d9_4) hr
  ·show Qsl Z b cn h0 n0 _ T136.heap _
   rw [e136]
   exact ⟨rfl, N136, rfl⟩
theorem d25_0 : decode jdk_65_method_131_code 0 = .ok (.iload_n 1, 1) := by decide +kernel
theorem d25_1 : decode jdk_65_method_131_code 1 = .ok (.iload_n 0, 1) := by decide +kernel
theorem d25_2 : decode jdk_65_method_131_code 2 = .ok (.if_icmp .ge 35, 3) := by decide +kernel
theorem d25_37 : decode jdk_65_method_131_code 37 = .ok (.return_, 1) := by decide +kernel
theorem ef_ckl (m : MethodId) (x0 : Int32) (x1 : Int32) : entryFrame m #[(.int x0), (.int x1)] 2 = mkF m 0 #[.val (.int x0), .val (.int x1)] [] := by first | (simp [entryFrame, mkF, argsToLocals, Value.category]; done) | rfl
def Qckl (Z : State) (pa : Int32) (h0 : Heap) (n0 : Nat) (v : Option Value) (h : Heap) (L : List Loc) : Prop := v = none ∧ Fr n0 L ∧ h = h0
set_option maxRecDepth 65536 in
set_option maxHeartbeats 40000000 in
theorem ckl (l : Launch) (Z : State) (a0 : Array Value) (hw : ∀ d ∈ tables_1, d.before a0 Z = true) (ws : List Jvm.Cond) (pa : Int32) (h0 : Heap) (n0 : Nat) (hp : ¬ (pa < (0 : Int32))) :
    MetFree l (⟨"java/util/Arrays", "checkLength", "(II)V"⟩ : MethodName) (head1 (Jvm.Cond.code (⟨"java/util/Arrays", "checkLength", "(II)V"⟩ : MethodName) jdk_65_method_131_code 2 none :: ws) ({ frames := 0, cells := 0, slots := 0, locals := 0 } : Room)) (fun a' U' => a' = #[(.int 0), (.int pa)] ∧ Z.Warmed39 U'.vm ∧ U'.heap = h0) (fun _ _ _ _ _ => True) (fun _ U' o' W' => ∃ v' L', o' = .returned v' ∧ Qckl Z pa h0 n0 v' W'.heap L' ∧ FrameEnd U' o' W' L' ({ frames := 0, cells := 0, slots := 0, locals := 0 } : Room).cells ({ frames := 0, cells := 0, slots := 0, locals := 0 } : Room).slots) := by
  refine MetFree.of_bodySF (plainFor_of_name pn_4) hisR ?_
  intro p e s m args below meth c s₁ Bd hml0 hP hK
  obtain ⟨rfl, hZ, hh⟩ := hP
  have hx := Bd.exec
  have hby := Bd.bytes
  have hml : c.maxLocals = 2 := hml0
  have hown : s.vm.findClass "java/util/Arrays" = some m.cls := findClass_of_methodNamed Bd.named
  have hnm := (name_of_methodNamed Bd.named Bd.method).1
  have X0 : Stand p l e ({ frames := 0, cells := 0, slots := 0, locals := 0 } : Room) s m #[(.int 0), (.int pa)] below meth c s₁ [] 0 0 := Stand.of_body Bd
  have e0 : s₁.heap = h0 := by rw [← hh, Bd.state]; rfl
  have N0 := Fr.nil n0
  refine own_start (ef_ckl m (0 : Int32) pa) (Q := fun o' t' => ∃ v' L', o' = .returned v' ∧ Qckl Z pa h0 n0 v' t'.heap L' ∧ FrameEnd s o' t' L' ({ frames := 0, cells := 0, slots := 0, locals := 0 } : Room).cells ({ frames := 0, cells := 0, slots := 0, locals := 0 } : Room).slots) ?_
  show own_Fin p e below (s₁.setTop (mkF m 0 #[.val (.int 0), .val (.int pa)] [])) _
  refine own_go (fun _ k => XS.iloadN X0.here hx rfl (hb hby d25_0) rfl (XS.iloadN X0.here hx rfl (hb hby d25_1) rfl (XS.icmpYes X0.here hx rfl (pc0 := 2) (pc' := 37) rfl (hb hby d25_2) rfl (flt hp).2.1 (by decide) (by decide) k))) ?_
  show own_Fin p e below (s₁.setTop (mkF m 37 #[.val (.int 0), .val (.int pa)] [])) _
  obtain ⟨fs, hr, hrun, hended, hW, hsame⟩ := X0.leave (v := none) (fun _ => rfl)
  refine ⟨_, _, ?_, hrun, hended, _, _, rfl, ?_, ⟨_, rfl⟩, hW, hsame.mono (by decide) (by decide)⟩
  ·exact X0.returnOut hx Bd.returns (hb hby d25_37) hr
  ·show Qckl Z pa h0 n0 _ s₁.heap _
   rw [e0]
   exact ⟨rfl, N0, rfl⟩
theorem d24_0 : decode jdk_65_method_133_code 0 = .ok (.iload_n 1, 1) := by decide +kernel
theorem d24_1 : decode jdk_65_method_133_code 1 = .ok (.iload_n 2, 1) := by decide +kernel
theorem d24_2 : decode jdk_65_method_133_code 2 = .ok (.invokestatic 343, 3) := by decide +kernel
theorem pd_9 : parseMethodDescriptor "(II)V" = some ⟨[.int, .int], none⟩ := by decide +kernel
theorem d24_5 : decode jdk_65_method_133_code 5 = .ok (.iload_n 2, 1) := by decide +kernel
theorem d24_6 : decode jdk_65_method_133_code 6 = .ok (.iload_n 1, 1) := by decide +kernel
theorem d24_7 : decode jdk_65_method_133_code 7 = .ok (.isub, 1) := by decide +kernel
theorem d24_8 : decode jdk_65_method_133_code 8 = .ok (.istore_n 3, 1) := by decide +kernel
theorem d24_9 : decode jdk_65_method_133_code 9 = .ok (.iload_n 3, 1) := by decide +kernel
theorem d24_10 : decode jdk_65_method_133_code 10 = .ok (.newarray .byte, 2) := by decide +kernel
theorem d24_12 : decode jdk_65_method_133_code 12 = .ok (.astore 4, 2) := by decide +kernel
theorem d24_14 : decode jdk_65_method_133_code 14 = .ok (.aload_n 0, 1) := by decide +kernel
theorem d24_15 : decode jdk_65_method_133_code 15 = .ok (.iload_n 1, 1) := by decide +kernel
theorem d24_16 : decode jdk_65_method_133_code 16 = .ok (.aload 4, 2) := by decide +kernel
theorem d24_18 : decode jdk_65_method_133_code 18 = .ok (.iconst 0, 1) := by decide +kernel
theorem d24_19 : decode jdk_65_method_133_code 19 = .ok (.aload_n 0, 1) := by decide +kernel
theorem d24_20 : decode jdk_65_method_133_code 20 = .ok (.arraylength, 1) := by decide +kernel
theorem d24_21 : decode jdk_65_method_133_code 21 = .ok (.iload_n 1, 1) := by decide +kernel
theorem d24_22 : decode jdk_65_method_133_code 22 = .ok (.isub, 1) := by decide +kernel
theorem d24_23 : decode jdk_65_method_133_code 23 = .ok (.iload_n 3, 1) := by decide +kernel
theorem d24_24 : decode jdk_65_method_133_code 24 = .ok (.invokestatic 304, 3) := by decide +kernel
theorem d24_27 : decode jdk_65_method_133_code 27 = .ok (.invokestatic 150, 3) := by decide +kernel
theorem d24_30 : decode jdk_65_method_133_code 30 = .ok (.aload 4, 2) := by decide +kernel
theorem d24_32 : decode jdk_65_method_133_code 32 = .ok (.areturn, 1) := by decide +kernel
theorem ef_crb (m : MethodId) (x0 : Addr) (x1 : Int32) (x2 : Int32) : entryFrame m #[(.ref x0), (.int x1), (.int x2)] 5 = mkF m 0 #[.val (.ref x0), .val (.int x1), .val (.int x2), .unset, .unset] [] := by first | (simp [entryFrame, mkF, argsToLocals, Value.category]; done) | rfl
def Qcrb (Z : State) (a : Addr) (cn : Int32) (ka : ClassId) (N : Int32) (vs : List Value) (h0 : Heap) (n0 : Nat) (v : Option Value) (h : Heap) (L : List Loc) : Prop := ∃ (b_ : Addr) (k_ : ClassId), v = some (.ref b_) ∧ Fr n0 L ∧ Keep h0 h [] ∧ h0.size ≤ b_ ∧ Arv Z h b_ k_ .byte (cn - (0 : Int32)) (vs.take cn.toNatClampNeg) (.int 0) ∧ Exa Z h b_ "[B"
set_option maxRecDepth 65536 in
set_option maxHeartbeats 40000000 in
theorem crb (l : Launch) (Z : State) (a0 : Array Value) (hw : ∀ d ∈ tables_1, d.before a0 Z = true) (ws : List Jvm.Cond) (a : Addr) (cn : Int32) (ka : ClassId) (N : Int32) (vs : List Value) (h0 : Heap) (n0 : Nat) (O : Old Z n0 h0) (V_a : Arv Z h0 a ka .byte N vs (.int 0)) (hn0 : ¬ cn < 0) (hvl : cn.toNatClampNeg ≤ vs.length) (hnN : cn.toNatClampNeg ≤ N.toNatClampNeg) (hcap : cn.toNatClampNeg ≤ 9) (hlt : cn < N) :
    MetFree l (⟨"java/util/Arrays", "copyOfRangeByte", "([BII)[B"⟩ : MethodName) (head1 (Jvm.Cond.code (⟨"java/util/Arrays", "copyOfRangeByte", "([BII)[B"⟩ : MethodName) jdk_65_method_133_code 5 (some (.array .byte)) :: ws) ({ frames := 1, cells := 1, slots := 9, locals := 18 } : Room)) (fun a' U' => a' = #[(.ref a), (.int 0), (.int cn)] ∧ Z.Warmed39 U'.vm ∧ U'.heap = h0) (fun _ _ _ _ _ => True) (fun _ U' o' W' => ∃ v' L', o' = .returned v' ∧ Qcrb Z a cn ka N vs h0 n0 v' W'.heap L' ∧ FrameEnd U' o' W' L' ({ frames := 1, cells := 1, slots := 9, locals := 18 } : Room).cells ({ frames := 1, cells := 1, slots := 9, locals := 18 } : Room).slots) := by
  refine MetFree.of_bodySF (plainFor_of_name pn_4) hisR ?_
  intro p e s m args below meth c s₁ Bd hml0 hP hK
  obtain ⟨rfl, hZ, hh⟩ := hP
  have hx := Bd.exec
  have hby := Bd.bytes
  have hml : c.maxLocals = 5 := hml0
  have hown : s.vm.findClass "java/util/Arrays" = some m.cls := findClass_of_methodNamed Bd.named
  have hnm := (name_of_methodNamed Bd.named Bd.method).1
  have X0 : Stand p l e ({ frames := 1, cells := 1, slots := 9, locals := 18 } : Room) s m #[(.ref a), (.int 0), (.int cn)] below meth c s₁ [] 0 0 := Stand.of_body Bd
  have e0 : s₁.heap = h0 := by rw [← hh, Bd.state]; rfl
  have N0 := Fr.nil n0
  have K0 := Keep.refl h0 []
  refine own_start (ef_crb m a (0 : Int32) cn) (Q := fun o' t' => ∃ v' L', o' = .returned v' ∧ Qcrb Z a cn ka N vs h0 n0 v' t'.heap L' ∧ FrameEnd s o' t' L' ({ frames := 1, cells := 1, slots := 9, locals := 18 } : Room).cells ({ frames := 1, cells := 1, slots := 9, locals := 18 } : Room).slots) ?_
  show own_Fin p e below (s₁.setTop (mkF m 0 #[.val (.ref a), .val (.int 0), .val (.int cn), .unset, .unset] [])) _
  refine own_go (fun _ k => XS.iloadN X0.here hx rfl (hb hby d24_0) rfl (XS.iloadN X0.here hx rfl (hb hby d24_1) rfl k)) ?_
  show own_Fin p e below (s₁.setTop (mkF m 2 #[.val (.ref a), .val (.int 0), .val (.int cn), .unset, .unset] [(.int cn), (.int 0)])) _
  obtain ⟨_, _, ⟨T139, L139, k139, n139⟩, -, X139, ⟨Lc139, hQ139, l139, y139, z139⟩, st139⟩ := Jvm.LawKit.callS X0 hx (y := (⟨"java/util/Arrays", "checkLength", "(II)V"⟩ : MethodName)) hown (mvT hZ (ow hw 139)) (mvT hZ (ow hw 140)) (mvT hZ (ow hw 66)) (mvT hZ (ow hw 141)) (by decide) (backOf (W := 0) (ckl l Z a0 hw [] cn h0 n0 hn0) hZ (ow hw 141) (ow hw 66) (by decide) (by decide)) (g := (mkF m 2 #[.val (.ref a), .val (.int 0), .val (.int cn), .unset, .unset] [(.int cn), (.int 0)])) rfl (by rw [hml]; rfl) (argsL := [(.int 0), (.int cn)]) (rest := []) (lenOf pd_9 rfl) rfl (by show 2 * 0 + _ ≤ _; exact Nat.le_of_eq rfl) (hb hby d24_2) (fun _ _ => ⟨rfl, e0, (by decide : 0 + 0 ≤ _), (by decide : 0 + 0 ≤ _)⟩)
  dsimp only [Pt.U, Pt.locs, Pt.cells, Pt.slots] at X139 l139 y139 z139 st139 hQ139
  subst l139 y139 z139
  obtain ⟨rfl, N139q, e139⟩ := hQ139
  refine own_go (fun _ k => st139 _ k) ?_
  have N139 := Fr.app N0 N139q
  show own_Fin p e below (T139.setTop (mkF m 5 #[.val (.ref a), .val (.int 0), .val (.int cn), .unset, .unset] [])) _
  refine own_go (fun _ k => XS.iloadN X139.here hx rfl (hb hby d24_5) rfl (XS.iloadN X139.here hx rfl (hb hby d24_6) rfl (XS.isub X139.here hx rfl (hb hby d24_7) rfl (XS.istoreN X139.here hx rfl (hb hby d24_8) rfl (l' := #[.val (.ref a), .val (.int 0), .val (.int cn), .val (.int (cn - (0 : Int32))), .unset]) rfl (XS.iloadN X139.here hx rfl (hb hby d24_9) rfl k))))) ?_
  show own_Fin p e below (T139.setTop (mkF m 10 #[.val (.ref a), .val (.int 0), .val (.int cn), .val (.int (cn - (0 : Int32))), .unset] [(.int (cn - (0 : Int32)))])) _
  obtain ⟨T140, h140, k140, X140, e140, E140, A140, B140, st140⟩ := newPE X139 hx hZ (ow hw 0) e139 (g := (mkF m 10 #[.val (.ref a), .val (.int 0), .val (.int cn), .val (.int (cn - (0 : Int32))), .unset] [(.int (cn - (0 : Int32)))])) rfl (hb hby d24_10) rfl (by rw [Int32.sub_zero]; exact hn0) (cap := 9) (by rw [Int32.sub_zero]; exact hcap) (by decide) (by decide) (by decide) (ad := "[B") (by decide)
  obtain ⟨b140, g140⟩ : ∃ z, z = h0.size := ⟨_, rfl⟩
  rw [← g140] at A140 st140 B140
  refine own_go (fun _ k => st140 _ k) ?_
  have ne_a_b140 : a ≠ b140 := Nat.ne_of_lt (Nat.lt_of_lt_of_le V_a.lt (Nat.le_of_eq g140.symm))
  have g_b140 : n0 ≤ b140 := Nat.le_trans (own_osz O) (Nat.le_of_eq g140.symm)
  have sz_b140 : h0.size ≤ b140 := Nat.le_trans K0.1 (Nat.le_of_eq g140.symm)
  have V_a := V_a.ext E140
  have O := O.ext E140
  have K141 := K0.ext E140
  have E_b140 := B140
  have V_b140 : Arv Z h140 b140 k140 .byte (cn - (0 : Int32)) [] (.int 0) := Arv.new A140 (by rw [Int32.sub_zero]; exact hn0)
  show own_Fin p e below (T140.setTop (mkF m 12 #[.val (.ref a), .val (.int 0), .val (.int cn), .val (.int (cn - (0 : Int32))), .unset] [(.ref b140)])) _
  refine own_go (fun _ k => XS.astore X140.here hx rfl (hb hby d24_12) rfl rfl (l' := #[.val (.ref a), .val (.int 0), .val (.int cn), .val (.int (cn - (0 : Int32))), .val (.ref b140)]) rfl (XS.aloadN X140.here hx rfl (hb hby d24_14) rfl rfl (XS.iloadN X140.here hx rfl (hb hby d24_15) rfl (XS.aload X140.here hx rfl (hb hby d24_16) rfl rfl (XS.iconst X140.here hx rfl (hb hby d24_18) (XS.aloadN X140.here hx rfl (hb hby d24_19) rfl rfl k)))))) ?_
  show own_Fin p e below (T140.setTop (mkF m 20 #[.val (.ref a), .val (.int 0), .val (.int cn), .val (.int (cn - (0 : Int32))), .val (.ref b140)] [(.ref a), (.int 0), (.ref b140), (.int 0), (.ref a)])) _
  obtain ⟨cl142, A142, -, S142, M142, -, -⟩ := id V_a
  refine own_go (fun _ k => X140.arraylength hx (own_eqE e140 A142.1) (State.isArrayOf_alike hZ.alike A142.2.1) (g := (mkF m 20 #[.val (.ref a), .val (.int 0), .val (.int cn), .val (.int (cn - (0 : Int32))), .val (.ref b140)] [(.ref a), (.int 0), (.ref b140), (.int 0), (.ref a)])) rfl rfl (hb hby d24_20) _ (by rw [len_of S142 M142]; exact k)) ?_
  show own_Fin p e below (T140.setTop (mkF m 21 #[.val (.ref a), .val (.int 0), .val (.int cn), .val (.int (cn - (0 : Int32))), .val (.ref b140)] [(.int N), (.int 0), (.ref b140), (.int 0), (.ref a)])) _
  refine own_go (fun _ k => XS.iloadN X140.here hx rfl (hb hby d24_21) rfl (XS.isub X140.here hx rfl (hb hby d24_22) rfl (XS.iloadN X140.here hx rfl (hb hby d24_23) rfl k))) ?_
  show own_Fin p e below (T140.setTop (mkF m 24 #[.val (.ref a), .val (.int 0), .val (.int cn), .val (.int (cn - (0 : Int32))), .val (.ref b140)] [(.int (cn - (0 : Int32))), (.int (N - (0 : Int32))), (.int 0), (.ref b140), (.int 0), (.ref a)])) _
  obtain ⟨_, _, ⟨T143, L143, k143, n143⟩, -, X143, ⟨Lc143, hQ143, l143, y143, z143⟩, st143⟩ := Jvm.LawKit.callS X140 hx (y := (⟨"java/lang/Math", "min", "(II)I"⟩ : MethodName)) hown (mvT hZ (ow hw 129)) (mvT hZ (ow hw 130)) (mvT hZ (ow hw 122)) (mvT hZ (ow hw 131)) (by decide) (backOf (W := 4) (mnn l Z a0 hw [] (N - (0 : Int32)) (cn - (0 : Int32)) h140 n0 ) hZ (ow hw 131) (ow hw 122) (by decide) (by decide)) (g := (mkF m 24 #[.val (.ref a), .val (.int 0), .val (.int cn), .val (.int (cn - (0 : Int32))), .val (.ref b140)] [(.int (cn - (0 : Int32))), (.int (N - (0 : Int32))), (.int 0), (.ref b140), (.int 0), (.ref a)])) rfl (by rw [hml]; rfl) (argsL := [(.int (N - (0 : Int32))), (.int (cn - (0 : Int32)))]) (rest := [(.int 0), (.ref b140), (.int 0), (.ref a)]) (lenOf pd_1 rfl) rfl (by show 2 * 0 + _ ≤ _; exact Nat.le_of_eq rfl) (hb hby d24_24) (fun _ _ => ⟨rfl, e140, (by decide : 1 + 0 ≤ _), (by decide : 9 + 0 ≤ _)⟩)
  dsimp only [Pt.U, Pt.locs, Pt.cells, Pt.slots] at X143 l143 y143 z143 st143 hQ143
  subst l143 y143 z143
  obtain ⟨rfl, N143q, e143⟩ := hQ143
  refine own_go (fun _ k => st143 _ k) ?_
  have N143 := Fr.app N139 N143q
  show own_Fin p e below (T143.setTop (mkF m 27 #[.val (.ref a), .val (.int 0), .val (.int cn), .val (.int (cn - (0 : Int32))), .val (.ref b140)] [(.int (own_mn (N - (0 : Int32)) (cn - (0 : Int32)))), (.int 0), (.ref b140), (.int 0), (.ref a)])) _
  rw [show own_mn (N - (0 : Int32)) (cn - (0 : Int32)) = cn from by rw [Int32.sub_zero, Int32.sub_zero]; exact own_min hlt]
  have V_b140 := V_b140.pad (pad_rep [] (.int 0) cn.toNatClampNeg)
  show own_Fin p e below (T143.setTop (mkF m 27 #[.val (.ref a), .val (.int 0), .val (.int cn), .val (.int (cn - (0 : Int32))), .val (.ref b140)] [(.int cn), (.int 0), (.ref b140), (.int 0), (.ref a)])) _
  obtain ⟨T144, h144, L144, X144, e144, Nq144, Kq144, V144, st144⟩ := cpA X143 hx hZ hown (ow hw 132) (ow hw 135) (ow hw 133) (ow hw 134) e143 V_a V_b140 (Or.inl ⟨rfl, rfl⟩) (by decide) (by decide) hn0 (by rw [show (0 : Int32).toNatClampNeg = 0 from by decide]; omega) (by rw [show (0 : Int32).toNatClampNeg = 0 from by decide, Int32.sub_zero]; omega) (sp := (0 : Int32)) (dp := (0 : Int32)) (us := vs.take cn.toNatClampNeg) (own_us vs _ _ hvl) (by rw [show (0 : Int32).toNatClampNeg = 0 from by decide]; simp <;> omega) N143 g_b140 (g := (mkF m 27 #[.val (.ref a), .val (.int 0), .val (.int cn), .val (.int (cn - (0 : Int32))), .val (.ref b140)] [(.int cn), (.int 0), (.ref b140), (.int 0), (.ref a)])) rfl (by rw [hml]; rfl) rfl (hb hby d24_27) (by decide) (W := 0) (by show 2 * 0 + _ ≤ _; exact Nat.le_of_eq rfl) (by decide)
  rw [own_cut, Nat.sub_self, List.replicate_zero, List.append_nil] at V144
  refine own_go (fun _ k => st144 _ k) ?_
  have V_a := V_a.keep Kq144 (ninS ne_a_b140 nin0)
  have E_b140 := E_b140.keep Kq144
  have O := O.keep Kq144 (allS g_b140 all0)
  have K145 := K141.trans Kq144 (allS (Or.inr sz_b140) all0)
  have V_b140 := V144
  show own_Fin p e below (T144.setTop (mkF m 30 #[.val (.ref a), .val (.int 0), .val (.int cn), .val (.int (cn - (0 : Int32))), .val (.ref b140)] [])) _
  refine own_go (fun _ k => XS.aload X144.here hx rfl (hb hby d24_30) rfl rfl k) ?_
  show own_Fin p e below (T144.setTop (mkF m 32 #[.val (.ref a), .val (.int 0), .val (.int cn), .val (.int (cn - (0 : Int32))), .val (.ref b140)] [(.ref b140)])) _
  obtain ⟨fs, hr, hrun, hended, hW, hsame⟩ := X144.leave (v := some (.ref b140)) (fun h => by rw [Bd.returns] at h; cases h)
  refine ⟨_, _, ?_, hrun, hended, _, _, rfl, ?_, ⟨_, rfl⟩, hW, hsame.mono (by decide) (by decide)⟩
  ·exact X144.areturnOut hx rfl Bd.returns rfl (hb hby d24_32) hr
  ·show Qcrb Z a cn ka N vs h0 n0 _ T144.heap _
   rw [e144]
   exact ⟨b140, k140, rfl, Nq144, K145, sz_b140, V_b140, E_b140⟩
theorem d12_0 : decode jdk_65_method_132_code 0 = .ok (.iload_n 1, 1) := by decide +kernel
theorem d12_1 : decode jdk_65_method_132_code 1 = .ok (.ifCond .ne 9, 3) := by decide +kernel
theorem d12_4 : decode jdk_65_method_132_code 4 = .ok (.iload_n 2, 1) := by decide +kernel
theorem d12_5 : decode jdk_65_method_132_code 5 = .ok (.aload_n 0, 1) := by decide +kernel
theorem d12_6 : decode jdk_65_method_132_code 6 = .ok (.arraylength, 1) := by decide +kernel
theorem d12_7 : decode jdk_65_method_132_code 7 = .ok (.if_icmp .eq 10, 3) := by decide +kernel
theorem d12_10 : decode jdk_65_method_132_code 10 = .ok (.aload_n 0, 1) := by decide +kernel
theorem d12_11 : decode jdk_65_method_132_code 11 = .ok (.iload_n 1, 1) := by decide +kernel
theorem d12_12 : decode jdk_65_method_132_code 12 = .ok (.iload_n 2, 1) := by decide +kernel
theorem d12_13 : decode jdk_65_method_132_code 13 = .ok (.invokestatic 339, 3) := by decide +kernel
theorem pd_10 : parseMethodDescriptor "([BII)[B" = some ⟨[(.array .byte), .int, .int], some (.array .byte)⟩ := by decide +kernel
theorem d12_16 : decode jdk_65_method_132_code 16 = .ok (.areturn, 1) := by decide +kernel
theorem ef_crL (m : MethodId) (x0 : Addr) (x1 : Int32) (x2 : Int32) : entryFrame m #[(.ref x0), (.int x1), (.int x2)] 3 = mkF m 0 #[.val (.ref x0), .val (.int x1), .val (.int x2)] [] := by first | (simp [entryFrame, mkF, argsToLocals, Value.category]; done) | rfl
def QcrL (Z : State) (a : Addr) (cn : Int32) (ka : ClassId) (N : Int32) (vs : List Value) (h0 : Heap) (n0 : Nat) (v : Option Value) (h : Heap) (L : List Loc) : Prop := ∃ (b_ : Addr) (k_ : ClassId), v = some (.ref b_) ∧ Fr n0 L ∧ Keep h0 h [] ∧ h0.size ≤ b_ ∧ Arv Z h b_ k_ .byte cn (vs.take cn.toNatClampNeg) (.int 0) ∧ Exa Z h b_ "[B"
set_option maxRecDepth 65536 in
set_option maxHeartbeats 40000000 in
theorem crL (l : Launch) (Z : State) (a0 : Array Value) (hw : ∀ d ∈ tables_1, d.before a0 Z = true) (ws : List Jvm.Cond) (a : Addr) (cn : Int32) (ka : ClassId) (N : Int32) (vs : List Value) (h0 : Heap) (n0 : Nat) (O : Old Z n0 h0) (V_a : Arv Z h0 a ka .byte N vs (.int 0)) (E_a : Exa Z h0 a "[B") (hn0 : ¬ cn < 0) (hvl : cn.toNatClampNeg ≤ vs.length) (hnN : cn.toNatClampNeg ≤ N.toNatClampNeg) (hcap : cn.toNatClampNeg ≤ 9) (hlt : cn < N) (hne : ¬ (cn = N)) :
    MetFree l (⟨"java/util/Arrays", "copyOfRange", "([BII)[B"⟩ : MethodName) (head1 (Jvm.Cond.code (⟨"java/util/Arrays", "copyOfRange", "([BII)[B"⟩ : MethodName) jdk_65_method_132_code 3 (some (.array .byte)) :: ws) ({ frames := 2, cells := 1, slots := 9, locals := 34 } : Room)) (fun a' U' => a' = #[(.ref a), (.int 0), (.int cn)] ∧ Z.Warmed39 U'.vm ∧ U'.heap = h0) (fun _ _ _ _ _ => True) (fun _ U' o' W' => ∃ v' L', o' = .returned v' ∧ QcrL Z a cn ka N vs h0 n0 v' W'.heap L' ∧ FrameEnd U' o' W' L' ({ frames := 2, cells := 1, slots := 9, locals := 34 } : Room).cells ({ frames := 2, cells := 1, slots := 9, locals := 34 } : Room).slots) := by
  refine MetFree.of_bodySF (plainFor_of_name pn_4) hisR ?_
  intro p e s m args below meth c s₁ Bd hml0 hP hK
  obtain ⟨rfl, hZ, hh⟩ := hP
  have hx := Bd.exec
  have hby := Bd.bytes
  have hml : c.maxLocals = 3 := hml0
  have hown : s.vm.findClass "java/util/Arrays" = some m.cls := findClass_of_methodNamed Bd.named
  have hnm := (name_of_methodNamed Bd.named Bd.method).1
  have X0 : Stand p l e ({ frames := 2, cells := 1, slots := 9, locals := 34 } : Room) s m #[(.ref a), (.int 0), (.int cn)] below meth c s₁ [] 0 0 := Stand.of_body Bd
  have e0 : s₁.heap = h0 := by rw [← hh, Bd.state]; rfl
  have N0 := Fr.nil n0
  have K0 := Keep.refl h0 []
  refine own_start (ef_crL m a (0 : Int32) cn) (Q := fun o' t' => ∃ v' L', o' = .returned v' ∧ QcrL Z a cn ka N vs h0 n0 v' t'.heap L' ∧ FrameEnd s o' t' L' ({ frames := 2, cells := 1, slots := 9, locals := 34 } : Room).cells ({ frames := 2, cells := 1, slots := 9, locals := 34 } : Room).slots) ?_
  show own_Fin p e below (s₁.setTop (mkF m 0 #[.val (.ref a), .val (.int 0), .val (.int cn)] [])) _
  refine own_go (fun _ k => XS.iloadN X0.here hx rfl (hb hby d12_0) rfl (XS.ifNo X0.here hx rfl (hb hby d12_1) rfl ((if0 _ _).trans (teq (by decide : (0 : Int32) = (0 : Int32))).2) (XS.iloadN X0.here hx rfl (hb hby d12_4) rfl (XS.aloadN X0.here hx rfl (hb hby d12_5) rfl rfl k)))) ?_
  show own_Fin p e below (s₁.setTop (mkF m 6 #[.val (.ref a), .val (.int 0), .val (.int cn)] [(.ref a), (.int cn)])) _
  obtain ⟨cl147, A147, -, S147, M147, -, -⟩ := id V_a
  refine own_go (fun _ k => X0.arraylength hx (own_eqE e0 A147.1) (State.isArrayOf_alike hZ.alike A147.2.1) (g := (mkF m 6 #[.val (.ref a), .val (.int 0), .val (.int cn)] [(.ref a), (.int cn)])) rfl rfl (hb hby d12_6) _ (by rw [len_of S147 M147]; exact k)) ?_
  show own_Fin p e below (s₁.setTop (mkF m 7 #[.val (.ref a), .val (.int 0), .val (.int cn)] [(.int N), (.int cn)])) _
  refine own_go (fun _ k => XS.icmpNo X0.here hx rfl (hb hby d12_7) rfl (feq hne).1 (XS.aloadN X0.here hx rfl (hb hby d12_10) rfl rfl (XS.iloadN X0.here hx rfl (hb hby d12_11) rfl (XS.iloadN X0.here hx rfl (hb hby d12_12) rfl k)))) ?_
  show own_Fin p e below (s₁.setTop (mkF m 13 #[.val (.ref a), .val (.int 0), .val (.int cn)] [(.int cn), (.int 0), (.ref a)])) _
  obtain ⟨_, _, ⟨T148, L148, k148, n148⟩, -, X148, ⟨Lc148, hQ148, l148, y148, z148⟩, st148⟩ := Jvm.LawKit.callS X0 hx (y := (⟨"java/util/Arrays", "copyOfRangeByte", "([BII)[B"⟩ : MethodName)) hown (mvT hZ (ow hw 136)) (mvT hZ (ow hw 137)) (mvT hZ (ow hw 66)) (mvT hZ (ow hw 138)) (by decide) (backOf (W := 0) (crb l Z a0 hw [] a cn ka N vs h0 n0 O V_a hn0 hvl hnN hcap hlt) hZ (ow hw 138) (ow hw 66) (by decide) (by decide)) (g := (mkF m 13 #[.val (.ref a), .val (.int 0), .val (.int cn)] [(.int cn), (.int 0), (.ref a)])) rfl (by rw [hml]; rfl) (argsL := [(.ref a), (.int 0), (.int cn)]) (rest := []) (lenOf pd_10 rfl) rfl (by show 2 * 0 + _ ≤ _; exact Nat.le_of_eq rfl) (hb hby d12_13) (fun _ _ => ⟨rfl, e0, (by decide : 0 + 1 ≤ _), (by decide : 0 + 9 ≤ _)⟩)
  dsimp only [Pt.U, Pt.locs, Pt.cells, Pt.slots] at X148 l148 y148 z148 st148 hQ148
  subst l148 y148 z148
  obtain ⟨b_149, k_150, rfl, N148q, Kq148, P148_0, P148_1, P148_2⟩ := hQ148
  refine own_go (fun _ k => st148 _ k) ?_
  have N148 := Fr.app N0 N148q
  have ne_a_b_149 : a ≠ b_149 := Nat.ne_of_lt (Nat.lt_of_lt_of_le V_a.lt P148_0)
  have g_b_149 : n0 ≤ b_149 := Nat.le_trans (own_osz O) P148_0
  have sz_b_149 : h0.size ≤ b_149 := Nat.le_trans K0.1 P148_0
  have V_a := V_a.keep Kq148 nin0
  have E_a := E_a.keep Kq148
  have O := O.keep Kq148 all0
  have K151 := K0.trans Kq148 all0
  have V_b_149 := P148_1
  have E_b_149 := P148_2
  show own_Fin p e below (T148.setTop (mkF m 16 #[.val (.ref a), .val (.int 0), .val (.int cn)] [(.ref b_149)])) _
  obtain ⟨fs, hr, hrun, hended, hW, hsame⟩ := X148.leave (v := some (.ref b_149)) (fun h => by rw [Bd.returns] at h; cases h)
  refine ⟨_, _, ?_, hrun, hended, _, _, rfl, ?_, ⟨_, rfl⟩, hW, hsame.mono (by decide) (by decide)⟩
  ·exact X148.areturnOut hx rfl Bd.returns rfl (hb hby d12_16) hr
  ·show QcrL Z a cn ka N vs h0 n0 _ T148.heap _
   exact ⟨b_149, k_150, rfl, N148, K151, sz_b_149, (by rw [Int32.sub_zero] at V_b_149; exact V_b_149), E_b_149⟩
theorem d12_17 : decode jdk_65_method_132_code 17 = .ok (.aload_n 0, 1) := by decide +kernel
theorem d12_18 : decode jdk_65_method_132_code 18 = .ok (.invokevirtual 310, 3) := by decide +kernel
theorem d12_21 : decode jdk_65_method_132_code 21 = .ok (.checkcast 311, 3) := by decide +kernel
theorem d12_24 : decode jdk_65_method_132_code 24 = .ok (.areturn, 1) := by decide +kernel
theorem ef_crE (m : MethodId) (x0 : Addr) (x1 : Int32) (x2 : Int32) : entryFrame m #[(.ref x0), (.int x1), (.int x2)] 3 = mkF m 0 #[.val (.ref x0), .val (.int x1), .val (.int x2)] [] := by first | (simp [entryFrame, mkF, argsToLocals, Value.category]; done) | rfl
def QcrE (Z : State) (a : Addr) (cn : Int32) (ka : ClassId) (N : Int32) (vs : List Value) (h0 : Heap) (n0 : Nat) (v : Option Value) (h : Heap) (L : List Loc) : Prop := ∃ (b_ : Addr) (k_ : ClassId), v = some (.ref b_) ∧ Fr n0 L ∧ Keep h0 h [] ∧ h0.size ≤ b_ ∧ Arv Z h b_ k_ .byte cn (vs.take cn.toNatClampNeg) (.int 0) ∧ Exa Z h b_ "[B"
set_option maxRecDepth 65536 in
set_option maxHeartbeats 40000000 in
theorem crE (l : Launch) (Z : State) (a0 : Array Value) (hw : ∀ d ∈ tables_1, d.before a0 Z = true) (ws : List Jvm.Cond) (a : Addr) (cn : Int32) (ka : ClassId) (N : Int32) (vs : List Value) (h0 : Heap) (n0 : Nat) (O : Old Z n0 h0) (V_a : Arv Z h0 a ka .byte N vs (.int 0)) (E_a : Exa Z h0 a "[B") (hn0 : ¬ cn < 0) (hvl : cn.toNatClampNeg ≤ vs.length) (hnN : cn.toNatClampNeg ≤ N.toNatClampNeg) (hcap : cn.toNatClampNeg ≤ 9) (heq : cn = N) (htk : vs.take cn.toNatClampNeg = vs) :
    MetFree l (⟨"java/util/Arrays", "copyOfRange", "([BII)[B"⟩ : MethodName) (head1 (Jvm.Cond.code (⟨"java/util/Arrays", "copyOfRange", "([BII)[B"⟩ : MethodName) jdk_65_method_132_code 3 (some (.array .byte)) :: ws) ({ frames := 1, cells := 1, slots := 9, locals := 14 } : Room)) (fun a' U' => a' = #[(.ref a), (.int 0), (.int cn)] ∧ Z.Warmed39 U'.vm ∧ U'.heap = h0) (fun _ _ _ _ _ => True) (fun _ U' o' W' => ∃ v' L', o' = .returned v' ∧ QcrE Z a cn ka N vs h0 n0 v' W'.heap L' ∧ FrameEnd U' o' W' L' ({ frames := 1, cells := 1, slots := 9, locals := 14 } : Room).cells ({ frames := 1, cells := 1, slots := 9, locals := 14 } : Room).slots) := by
  refine MetFree.of_bodySF (plainFor_of_name pn_4) hisR ?_
  intro p e s m args below meth c s₁ Bd hml0 hP hK
  obtain ⟨rfl, hZ, hh⟩ := hP
  have hx := Bd.exec
  have hby := Bd.bytes
  have hml : c.maxLocals = 3 := hml0
  have hown : s.vm.findClass "java/util/Arrays" = some m.cls := findClass_of_methodNamed Bd.named
  have hnm := (name_of_methodNamed Bd.named Bd.method).1
  have X0 : Stand p l e ({ frames := 1, cells := 1, slots := 9, locals := 14 } : Room) s m #[(.ref a), (.int 0), (.int cn)] below meth c s₁ [] 0 0 := Stand.of_body Bd
  have e0 : s₁.heap = h0 := by rw [← hh, Bd.state]; rfl
  have N0 := Fr.nil n0
  have K0 := Keep.refl h0 []
  refine own_start (ef_crE m a (0 : Int32) cn) (Q := fun o' t' => ∃ v' L', o' = .returned v' ∧ QcrE Z a cn ka N vs h0 n0 v' t'.heap L' ∧ FrameEnd s o' t' L' ({ frames := 1, cells := 1, slots := 9, locals := 14 } : Room).cells ({ frames := 1, cells := 1, slots := 9, locals := 14 } : Room).slots) ?_
  show own_Fin p e below (s₁.setTop (mkF m 0 #[.val (.ref a), .val (.int 0), .val (.int cn)] [])) _
  refine own_go (fun _ k => XS.iloadN X0.here hx rfl (hb hby d12_0) rfl (XS.ifNo X0.here hx rfl (hb hby d12_1) rfl ((if0 _ _).trans (teq (by decide : (0 : Int32) = (0 : Int32))).2) (XS.iloadN X0.here hx rfl (hb hby d12_4) rfl (XS.aloadN X0.here hx rfl (hb hby d12_5) rfl rfl k)))) ?_
  show own_Fin p e below (s₁.setTop (mkF m 6 #[.val (.ref a), .val (.int 0), .val (.int cn)] [(.ref a), (.int cn)])) _
  obtain ⟨cl153, A153, -, S153, M153, -, -⟩ := id V_a
  refine own_go (fun _ k => X0.arraylength hx (own_eqE e0 A153.1) (State.isArrayOf_alike hZ.alike A153.2.1) (g := (mkF m 6 #[.val (.ref a), .val (.int 0), .val (.int cn)] [(.ref a), (.int cn)])) rfl rfl (hb hby d12_6) _ (by rw [len_of S153 M153]; exact k)) ?_
  show own_Fin p e below (s₁.setTop (mkF m 7 #[.val (.ref a), .val (.int 0), .val (.int cn)] [(.int N), (.int cn)])) _
  refine own_go (fun _ k => XS.icmpYes X0.here hx rfl (pc0 := 7) (pc' := 17) rfl (hb hby d12_7) rfl (teq heq).1 (by decide) (by decide) (XS.aloadN X0.here hx rfl (hb hby d12_17) rfl rfl k)) ?_
  show own_Fin p e below (s₁.setTop (mkF m 18 #[.val (.ref a), .val (.int 0), .val (.int cn)] [(.ref a)])) _
  obtain ⟨T154, h154, X154, e154, E154, A154, B154, st154⟩ := cloneH X0 hx hZ hown (ow hw 68) (ow hw 69) (ow hw 73) (ow hw 71) (ow hw 72) (ow hw 74) e0 (Arv.arh V_a) E_a (g := (mkF m 18 #[.val (.ref a), .val (.int 0), .val (.int cn)] [(.ref a)])) rfl (by rw [hml]; rfl) rfl (hb hby d12_18) (by decide) (W := 0) (cap := 9) (by show 2 * 0 + _ ≤ _; exact Nat.le_of_eq rfl) (by decide) (by rw [← heq]; exact hcap) (by decide) (by decide)
  obtain ⟨b154, g154⟩ : ∃ z, z = h0.size := ⟨_, rfl⟩
  rw [← g154] at A154 B154 st154
  refine own_go (fun _ k => st154 _ k) ?_
  have ne_a_b154 : a ≠ b154 := Nat.ne_of_lt (Nat.lt_of_lt_of_le V_a.lt (Nat.le_of_eq g154.symm))
  have g_b154 : n0 ≤ b154 := Nat.le_trans (own_osz O) (Nat.le_of_eq g154.symm)
  have sz_b154 : h0.size ≤ b154 := Nat.le_trans K0.1 (Nat.le_of_eq g154.symm)
  have V_a := V_a.ext E154
  have E_a := E_a.ext E154
  have O := O.ext E154
  have K155 := K0.ext E154
  have V_b154 : Arv Z h154 b154 ka .byte N vs (.int 0) := A154
  have E_b154 := B154
  show own_Fin p e below (T154.setTop (mkF m 21 #[.val (.ref a), .val (.int 0), .val (.int cn)] [(.ref b154)])) _
  obtain ⟨T156, X156, e156, st156⟩ := castY X154 hx hZ hown (ow hw 75) e154 (Ins.self E_b154) (g := (mkF m 21 #[.val (.ref a), .val (.int 0), .val (.int cn)] [(.ref b154)])) rfl rfl (hb hby d12_21)
  refine own_go (fun _ k => st156 _ k) ?_
  show own_Fin p e below (T156.setTop (mkF m 24 #[.val (.ref a), .val (.int 0), .val (.int cn)] [(.ref b154)])) _
  obtain ⟨fs, hr, hrun, hended, hW, hsame⟩ := X156.leave (v := some (.ref b154)) (fun h => by rw [Bd.returns] at h; cases h)
  refine ⟨_, _, ?_, hrun, hended, _, _, rfl, ?_, ⟨_, rfl⟩, hW, hsame.mono (by decide) (by decide)⟩
  ·exact X156.areturnOut hx rfl Bd.returns rfl (hb hby d12_24) hr
  ·show QcrE Z a cn ka N vs h0 n0 _ T156.heap _
   rw [e156]
   exact ⟨b154, ka, rfl, N0, K155, sz_b154, (by rw [htk, heq]; exact V_b154), E_b154⟩
theorem d7_0 : decode jdk_42_method_150_code 0 = .ok (.aload_n 0, 1) := by decide +kernel
theorem d7_1 : decode jdk_42_method_150_code 1 = .ok (.invokespecial 1, 3) := by decide +kernel
theorem d7_4 : decode jdk_42_method_150_code 4 = .ok (.aload_n 1, 1) := by decide +kernel
theorem d7_5 : decode jdk_42_method_150_code 5 = .ok (.invokevirtual 552, 3) := by decide +kernel
theorem pd_11 : parseMethodDescriptor "()[B" = some ⟨[], some (.array .byte)⟩ := by decide +kernel
theorem d7_8 : decode jdk_42_method_150_code 8 = .ok (.astore_n 3, 1) := by decide +kernel
theorem d7_9 : decode jdk_42_method_150_code 9 = .ok (.aload_n 1, 1) := by decide +kernel
theorem d7_10 : decode jdk_42_method_150_code 10 = .ok (.invokevirtual 549, 3) := by decide +kernel
theorem d7_13 : decode jdk_42_method_150_code 13 = .ok (.istore 4, 2) := by decide +kernel
theorem d7_15 : decode jdk_42_method_150_code 15 = .ok (.aload_n 1, 1) := by decide +kernel
theorem d7_16 : decode jdk_42_method_150_code 16 = .ok (.invokevirtual 1047, 3) := by decide +kernel
theorem d7_19 : decode jdk_42_method_150_code 19 = .ok (.ifCond .eq 22, 3) := by decide +kernel
theorem d7_22 : decode jdk_42_method_150_code 22 = .ok (.aload_n 0, 1) := by decide +kernel
theorem d7_23 : decode jdk_42_method_150_code 23 = .ok (.iconst 0, 1) := by decide +kernel
theorem d7_24 : decode jdk_42_method_150_code 24 = .ok (.putfield 15, 3) := by decide +kernel
theorem d7_27 : decode jdk_42_method_150_code 27 = .ok (.aload_n 0, 1) := by decide +kernel
theorem d7_28 : decode jdk_42_method_150_code 28 = .ok (.aload_n 3, 1) := by decide +kernel
theorem d7_29 : decode jdk_42_method_150_code 29 = .ok (.iconst 0, 1) := by decide +kernel
theorem d7_30 : decode jdk_42_method_150_code 30 = .ok (.iload 4, 2) := by decide +kernel
theorem d7_32 : decode jdk_42_method_150_code 32 = .ok (.invokestatic 54, 3) := by decide +kernel
theorem d7_35 : decode jdk_42_method_150_code 35 = .ok (.putfield 9, 3) := by decide +kernel
theorem d7_38 : decode jdk_42_method_150_code 38 = .ok (.goto 59, 3) := by decide +kernel
theorem d7_97 : decode jdk_42_method_150_code 97 = .ok (.return_, 1) := by decide +kernel
theorem pn_5 : plainName "java/lang/String" = true := by first | (simp [plainName, overriddenIn]; done) | decide +kernel
theorem ef_svL (m : MethodId) (x0 : Addr) (x1 : Addr) : entryFrame m #[(.ref x0), (.ref x1), .null] 5 = mkF m 0 #[.val (.ref x0), .val (.ref x1), .val .null, .unset, .unset] [] := by first | (simp [entryFrame, mkF, argsToLocals, Value.category]; done) | rfl
def QsvL (Z : State) (s_ : Addr) (b : Addr) (z : Int32) (t : Addr) (kt : ClassId) (N : Int32) (vs : List Value) (cn : Int32) (h0 : Heap) (n0 : Nat) (v : Option Value) (h : Heap) (L : List Loc) : Prop := ∃ (t2_ : Addr) (k2_ : ClassId), v = none ∧ Fr n0 L ∧ Keep h0 h [s_] ∧ h0.size ≤ t2_ ∧ Exa Z h s_ "java/lang/String" ∧ Fld Z h s_ "java/lang/String" "coder" "B" (.int 0) ∧ Fld Z h s_ "java/lang/String" "value" "[B" (.ref t2_) ∧ Arv Z h t2_ k2_ .byte cn (vs.take cn.toNatClampNeg) (.int 0)
set_option maxRecDepth 65536 in
set_option maxHeartbeats 40000000 in
theorem svL (l : Launch) (Z : State) (a0 : Array Value) (hw : ∀ d ∈ tables_1, d.before a0 Z = true) (ws : List Jvm.Cond) (s_ : Addr) (b : Addr) (z : Int32) (t : Addr) (kt : ClassId) (N : Int32) (vs : List Value) (cn : Int32) (h0 : Heap) (n0 : Nat) (O : Old Z n0 h0) (S_String_COMPACT_STRINGS : Sta Z Z.heap "java/lang/String" "COMPACT_STRINGS" "Z" (.int z)) (hz : ¬ (z = (0 : Int32))) (E_b : Exa Z h0 b "java/lang/StringBuilder") (F_b_ASB_value : Fld Z h0 b "java/lang/AbstractStringBuilder" "value" "[B" (.ref t)) (F_b_ASB_coder : Fld Z h0 b "java/lang/AbstractStringBuilder" "coder" "B" (.int 0)) (F_b_ASB_count : Fld Z h0 b "java/lang/AbstractStringBuilder" "count" "I" (.int cn)) (V_t : Arv Z h0 t kt .byte N vs (.int 0)) (E_t : Exa Z h0 t "[B") (hn0 : ¬ cn < 0) (hvl : cn.toNatClampNeg ≤ vs.length) (hnN : cn.toNatClampNeg ≤ N.toNatClampNeg) (hcap : cn.toNatClampNeg ≤ 9) (hlt : cn < N) (hne : ¬ (cn = N)) (E_s_ : Exa Z h0 s_ "java/lang/String") (F_s__String_value : Fld Z h0 s_ "java/lang/String" "value" "[B" .null) (F_s__String_coder : Fld Z h0 s_ "java/lang/String" "coder" "B" (.int 0)) (g_s : n0 ≤ s_) (nsb : s_ ≠ b) (nst : s_ ≠ t) :
    MetFree l (⟨"java/lang/String", "<init>", "(Ljava/lang/AbstractStringBuilder;Ljava/lang/Void;)V"⟩ : MethodName) (head1 (Jvm.Cond.code (⟨"java/lang/String", "<init>", "(Ljava/lang/AbstractStringBuilder;Ljava/lang/Void;)V"⟩ : MethodName) jdk_42_method_150_code 5 none :: ws) ({ frames := 3, cells := 1, slots := 9, locals := 49 } : Room)) (fun a' U' => a' = #[(.ref s_), (.ref b), .null] ∧ Z.Warmed39 U'.vm ∧ U'.heap = h0) (fun _ _ _ _ _ => True) (fun _ U' o' W' => ∃ v' L', o' = .returned v' ∧ QsvL Z s_ b z t kt N vs cn h0 n0 v' W'.heap L' ∧ FrameEnd U' o' W' L' ({ frames := 3, cells := 1, slots := 9, locals := 49 } : Room).cells ({ frames := 3, cells := 1, slots := 9, locals := 49 } : Room).slots) := by
  refine MetFree.of_bodySF (plainFor_of_name pn_5) hisR ?_
  intro p e s m args below meth c s₁ Bd hml0 hP hK
  obtain ⟨rfl, hZ, hh⟩ := hP
  have hx := Bd.exec
  have hby := Bd.bytes
  have hml : c.maxLocals = 5 := hml0
  have hown : s.vm.findClass "java/lang/String" = some m.cls := findClass_of_methodNamed Bd.named
  have hnm := (name_of_methodNamed Bd.named Bd.method).1
  have X0 : Stand p l e ({ frames := 3, cells := 1, slots := 9, locals := 49 } : Room) s m #[(.ref s_), (.ref b), .null] below meth c s₁ [] 0 0 := Stand.of_body Bd
  have e0 : s₁.heap = h0 := by rw [← hh, Bd.state]; rfl
  have N0 := Fr.nil n0
  have K0 := Keep.refl h0 [s_]
  refine own_start (ef_svL m s_ b) (Q := fun o' t' => ∃ v' L', o' = .returned v' ∧ QsvL Z s_ b z t kt N vs cn h0 n0 v' t'.heap L' ∧ FrameEnd s o' t' L' ({ frames := 3, cells := 1, slots := 9, locals := 49 } : Room).cells ({ frames := 3, cells := 1, slots := 9, locals := 49 } : Room).slots) ?_
  show own_Fin p e below (s₁.setTop (mkF m 0 #[.val (.ref s_), .val (.ref b), .val .null, .unset, .unset] [])) _
  refine own_go (fun _ k => XS.aloadN X0.here hx rfl (hb hby d7_0) rfl rfl k) ?_
  show own_Fin p e below (s₁.setTop (mkF m 1 #[.val (.ref s_), .val (.ref b), .val .null, .unset, .unset] [(.ref s_)])) _
  obtain ⟨T158, X158, e158, st158⟩ := initO X0 hx hZ hown (ow hw 40) (ow hw 18) (ow hw 19) e0 (g := (mkF m 1 #[.val (.ref s_), .val (.ref b), .val .null, .unset, .unset] [(.ref s_)])) rfl (by rw [hml]; rfl) rfl (hb hby d7_1) (by decide) (W := 0) (by show 2 * 0 + _ ≤ _; exact Nat.le_of_eq rfl) (by decide)
  refine own_go (fun _ k => st158 _ k) ?_
  show own_Fin p e below (T158.setTop (mkF m 4 #[.val (.ref s_), .val (.ref b), .val .null, .unset, .unset] [])) _
  refine own_go (fun _ k => XS.aloadN X158.here hx rfl (hb hby d7_4) rfl rfl k) ?_
  show own_Fin p e below (T158.setTop (mkF m 5 #[.val (.ref s_), .val (.ref b), .val .null, .unset, .unset] [(.ref b)])) _
  obtain ⟨cq159, kq159, q159a, q159b, q159c⟩ := isOf hZ e158 E_b
  obtain ⟨_, _, ⟨T159, L159, k159, n159⟩, -, X159, ⟨Lc159, hQ159, l159, y159, z159⟩, st159⟩ := X158.virtualBack hx (y := (⟨"java/lang/AbstractStringBuilder", "getValue", "()[B"⟩ : MethodName)) (z := (⟨"java/lang/AbstractStringBuilder", "getValue", "()[B"⟩ : MethodName)) hown (mvT hZ (ow hw 41)) (mvT hZ (ow hw 42)) (notFace_of_selects (args := #[]) (mvT hZ (ow hw 44))) (mvT hZ (ow hw 44)) (mvT hZ (ow hw 43)) (by decide) (backOf (W := 0) (rm8 l Z a0 hw [] b t h0 n0 O F_b_ASB_value) hZ (ow hw 45) (ow hw 15) (by decide) (by decide)) q159a q159c (g := (mkF m 5 #[.val (.ref s_), .val (.ref b), .val .null, .unset, .unset] [(.ref b)])) rfl (by rw [hml]; rfl) (Steps.refl _) (argsL := []) (rest := []) (lenOf pd_11 rfl) rfl (by show 2 * 0 + _ ≤ _; exact Nat.le_of_eq rfl) (hb hby d7_5) (fun _ _ => ⟨rfl, e158, (by decide : 0 + 0 ≤ _), (by decide : 0 + 0 ≤ _)⟩)
  dsimp only [Pt.U, Pt.locs, Pt.cells, Pt.slots] at X159 l159 y159 z159 st159 hQ159
  subst l159 y159 z159
  obtain ⟨rfl, N159q, e159⟩ := hQ159
  refine own_go (fun _ k => st159.trans k) ?_
  have N159 := Fr.app N0 N159q
  show own_Fin p e below (T159.setTop (mkF m 8 #[.val (.ref s_), .val (.ref b), .val .null, .unset, .unset] [(.ref t)])) _
  refine own_go (fun _ k => XS.astoreN X159.here hx rfl (hb hby d7_8) rfl rfl (l' := #[.val (.ref s_), .val (.ref b), .val .null, .val (.ref t), .unset]) rfl (XS.aloadN X159.here hx rfl (hb hby d7_9) rfl rfl k)) ?_
  show own_Fin p e below (T159.setTop (mkF m 10 #[.val (.ref s_), .val (.ref b), .val .null, .val (.ref t), .unset] [(.ref b)])) _
  obtain ⟨cq160, kq160, q160a, q160b, q160c⟩ := isOf hZ e159 E_b
  obtain ⟨_, _, ⟨T160, L160, k160, n160⟩, -, X160, ⟨Lc160, hQ160, l160, y160, z160⟩, st160⟩ := X159.virtualBack hx (y := (⟨"java/lang/AbstractStringBuilder", "length", "()I"⟩ : MethodName)) (z := (⟨"java/lang/StringBuilder", "length", "()I"⟩ : MethodName)) hown (mvT hZ (ow hw 46)) (mvT hZ (ow hw 47)) (own_nf (args := #[]) (mvT hZ (ow hw 44)) (by exact rfl)) (mvT hZ (ow hw 49)) (mvT hZ (ow hw 50)) (by decide) (backOf (W := 0) (sl l Z a0 hw [] b cn h0 n0 O E_b F_b_ASB_count) hZ (ow hw 51) (ow hw 7) (by decide) (by decide)) q160a q160c (g := (mkF m 10 #[.val (.ref s_), .val (.ref b), .val .null, .val (.ref t), .unset] [(.ref b)])) rfl (by rw [hml]; rfl) (Steps.refl _) (argsL := []) (rest := []) (lenOf pd_8 rfl) rfl (by show 2 * 0 + _ ≤ _; exact Nat.le_of_eq rfl) (hb hby d7_10) (fun _ _ => ⟨rfl, e159, (by decide : 0 + 0 ≤ _), (by decide : 0 + 0 ≤ _)⟩)
  dsimp only [Pt.U, Pt.locs, Pt.cells, Pt.slots] at X160 l160 y160 z160 st160 hQ160
  subst l160 y160 z160
  obtain ⟨rfl, N160q, e160⟩ := hQ160
  refine own_go (fun _ k => st160.trans k) ?_
  have N160 := Fr.app N159 N160q
  show own_Fin p e below (T160.setTop (mkF m 13 #[.val (.ref s_), .val (.ref b), .val .null, .val (.ref t), .unset] [(.int cn)])) _
  refine own_go (fun _ k => XS.istore X160.here hx rfl (hb hby d7_13) rfl (l' := #[.val (.ref s_), .val (.ref b), .val .null, .val (.ref t), .val (.int cn)]) rfl (XS.aloadN X160.here hx rfl (hb hby d7_15) rfl rfl k)) ?_
  show own_Fin p e below (T160.setTop (mkF m 16 #[.val (.ref s_), .val (.ref b), .val .null, .val (.ref t), .val (.int cn)] [(.ref b)])) _
  obtain ⟨cq161, kq161, q161a, q161b, q161c⟩ := isOf hZ e160 E_b
  obtain ⟨_, _, ⟨T161, L161, k161, n161⟩, -, X161, ⟨Lc161, hQ161, l161, y161, z161⟩, st161⟩ := X160.virtualBack hx (y := (⟨"java/lang/AbstractStringBuilder", "isLatin1", "()Z"⟩ : MethodName)) (z := (⟨"java/lang/AbstractStringBuilder", "isLatin1", "()Z"⟩ : MethodName)) hown (mvT hZ (ow hw 57)) (mvT hZ (ow hw 58)) (notFace_of_selects (args := #[]) (mvT hZ (ow hw 60))) (mvT hZ (ow hw 60)) (mvT hZ (ow hw 59)) (by decide) (backOf (W := 0) (rm11 l Z a0 hw [] b z h0 n0 O S_String_COMPACT_STRINGS hz F_b_ASB_coder) hZ (ow hw 61) (ow hw 15) (by decide) (by decide)) q161a q161c (g := (mkF m 16 #[.val (.ref s_), .val (.ref b), .val .null, .val (.ref t), .val (.int cn)] [(.ref b)])) rfl (by rw [hml]; rfl) (Steps.refl _) (argsL := []) (rest := []) (lenOf pd_5 rfl) rfl (by show 2 * 0 + _ ≤ _; exact Nat.le_of_eq rfl) (hb hby d7_16) (fun _ _ => ⟨rfl, e160, (by decide : 0 + 0 ≤ _), (by decide : 0 + 0 ≤ _)⟩)
  dsimp only [Pt.U, Pt.locs, Pt.cells, Pt.slots] at X161 l161 y161 z161 st161 hQ161
  subst l161 y161 z161
  obtain ⟨rfl, N161q, e161⟩ := hQ161
  refine own_go (fun _ k => st161.trans k) ?_
  have N161 := Fr.app N160 N161q
  show own_Fin p e below (T161.setTop (mkF m 19 #[.val (.ref s_), .val (.ref b), .val .null, .val (.ref t), .val (.int cn)] [(.int 1)])) _
  refine own_go (fun _ k => XS.ifNo X161.here hx rfl (hb hby d7_19) rfl ((if0 _ _).trans (feq (by decide : ¬ ((1 : Int32) = (0 : Int32)))).1) (XS.aloadN X161.here hx rfl (hb hby d7_22) rfl rfl (XS.iconst X161.here hx rfl (hb hby d7_23) k))) ?_
  show own_Fin p e below (T161.setTop (mkF m 24 #[.val (.ref s_), .val (.ref b), .val .null, .val (.ref t), .val (.int cn)] [(.int 0), (.ref s_)])) _
  obtain ⟨T162, h162, X162, e162, W162, st162⟩ := putF X161 hx hZ hown (host := "") (Or.inl (ow hw 62)) Via.refl e161 F_s__String_coder E_s_ (Or.inr ⟨(ow hw 63), rfl, hnm⟩) (ow hw 32) (ty := .byte) (by decide) rfl rfl (g := (mkF m 24 #[.val (.ref s_), .val (.ref b), .val .null, .val (.ref t), .val (.int cn)] [(.int 0), (.ref s_)])) rfl rfl (hb hby d7_24)
  refine own_go (fun _ k => st162 _ k) ?_
  have E_b := E_b.wr W162
  have F_b_ASB_value := F_b_ASB_value.other W162 (Or.inl (Ne.symm nsb))
  have F_b_ASB_coder := F_b_ASB_coder.other W162 (Or.inl (Ne.symm nsb))
  have F_b_ASB_count := F_b_ASB_count.other W162 (Or.inl (Ne.symm nsb))
  have V_t := V_t.other W162 (Ne.symm nst)
  have E_t := E_t.wr W162
  have E_s_ := E_s_.wr W162
  have F_s__String_value := F_s__String_value.other W162 (Or.inr (slot_ne (Or.inr (ow hw 78)) (Or.inr (ow hw 63)) (by decide) (t := (.array .byte)) (t' := .byte) (by decide) (by decide)))
  have O := O.wr W162 g_s
  have K163 := K0.wr W162 (Or.inl (List.mem_of_getElem? (i := 0) rfl))
  have F_s__String_coder := F_s__String_coder.same W162
  have N162 := Fr.snoc X162 N161 g_s
  show own_Fin p e below (T162.setTop (mkF m 27 #[.val (.ref s_), .val (.ref b), .val .null, .val (.ref t), .val (.int cn)] [])) _
  refine own_go (fun _ k => XS.aloadN X162.here hx rfl (hb hby d7_27) rfl rfl (XS.aloadN X162.here hx rfl (hb hby d7_28) rfl rfl (XS.iconst X162.here hx rfl (hb hby d7_29) (XS.iload X162.here hx rfl (hb hby d7_30) rfl k)))) ?_
  show own_Fin p e below (T162.setTop (mkF m 32 #[.val (.ref s_), .val (.ref b), .val .null, .val (.ref t), .val (.int cn)] [(.int cn), (.int 0), (.ref t), (.ref s_)])) _
  obtain ⟨_, _, ⟨T164, L164, k164, n164⟩, -, X164, ⟨Lc164, hQ164, l164, y164, z164⟩, st164⟩ := Jvm.LawKit.callS X162 hx (y := (⟨"java/util/Arrays", "copyOfRange", "([BII)[B"⟩ : MethodName)) hown (mvT hZ (ow hw 64)) (mvT hZ (ow hw 65)) (mvT hZ (ow hw 66)) (mvT hZ (ow hw 67)) (by decide) (backOf (W := 1) (crL l Z a0 hw [] t cn kt N vs h162 n0 O V_t E_t hn0 hvl hnN hcap hlt hne) hZ (ow hw 67) (ow hw 66) (by decide) (by decide)) (g := (mkF m 32 #[.val (.ref s_), .val (.ref b), .val .null, .val (.ref t), .val (.int cn)] [(.int cn), (.int 0), (.ref t), (.ref s_)])) rfl (by rw [hml]; rfl) (argsL := [(.ref t), (.int 0), (.int cn)]) (rest := [(.ref s_)]) (lenOf pd_10 rfl) rfl (by show 2 * 0 + _ ≤ _; exact Nat.le_of_eq rfl) (hb hby d7_32) (fun _ _ => ⟨rfl, e162, (by decide : 0 + 1 ≤ _), (by decide : 0 + 9 ≤ _)⟩)
  dsimp only [Pt.U, Pt.locs, Pt.cells, Pt.slots] at X164 l164 y164 z164 st164 hQ164
  subst l164 y164 z164
  obtain ⟨b_165, k_166, rfl, N164q, Kq164, P164_0, P164_1, P164_2⟩ := hQ164
  refine own_go (fun _ k => st164 _ k) ?_
  have N164 := Fr.app N162 N164q
  have ne_b_b_165 : b ≠ b_165 := Nat.ne_of_lt (Nat.lt_of_lt_of_le E_b.lt P164_0)
  have ne_t_b_165 : t ≠ b_165 := Nat.ne_of_lt (Nat.lt_of_lt_of_le V_t.lt P164_0)
  have ne_s__b_165 : s_ ≠ b_165 := Nat.ne_of_lt (Nat.lt_of_lt_of_le E_s_.lt P164_0)
  have g_b_165 : n0 ≤ b_165 := Nat.le_trans (own_osz O) P164_0
  have sz_b_165 : h0.size ≤ b_165 := Nat.le_trans K163.1 P164_0
  have E_b := E_b.keep Kq164
  have F_b_ASB_value := F_b_ASB_value.keep Kq164 nin0
  have F_b_ASB_coder := F_b_ASB_coder.keep Kq164 nin0
  have F_b_ASB_count := F_b_ASB_count.keep Kq164 nin0
  have V_t := V_t.keep Kq164 nin0
  have E_t := E_t.keep Kq164
  have E_s_ := E_s_.keep Kq164
  have F_s__String_value := F_s__String_value.keep Kq164 nin0
  have F_s__String_coder := F_s__String_coder.keep Kq164 nin0
  have O := O.keep Kq164 all0
  have K167 := K163.trans Kq164 all0
  have V_b_165 := P164_1
  have E_b_165 := P164_2
  show own_Fin p e below (T164.setTop (mkF m 35 #[.val (.ref s_), .val (.ref b), .val .null, .val (.ref t), .val (.int cn)] [(.ref b_165), (.ref s_)])) _
  obtain ⟨T168, h168, X168, e168, W168, st168⟩ := putF X164 hx hZ hown (host := "") (Or.inl (ow hw 77)) Via.refl rfl F_s__String_value E_s_ (Or.inr ⟨(ow hw 78), rfl, hnm⟩) (ow hw 32) (ty := (.array .byte)) (by decide) rfl rfl (g := (mkF m 35 #[.val (.ref s_), .val (.ref b), .val .null, .val (.ref t), .val (.int cn)] [(.ref b_165), (.ref s_)])) rfl rfl (hb hby d7_35)
  refine own_go (fun _ k => st168 _ k) ?_
  have E_b := E_b.wr W168
  have F_b_ASB_value := F_b_ASB_value.other W168 (Or.inl (Ne.symm nsb))
  have F_b_ASB_coder := F_b_ASB_coder.other W168 (Or.inl (Ne.symm nsb))
  have F_b_ASB_count := F_b_ASB_count.other W168 (Or.inl (Ne.symm nsb))
  have V_t := V_t.other W168 (Ne.symm nst)
  have E_t := E_t.wr W168
  have E_s_ := E_s_.wr W168
  have F_s__String_coder := F_s__String_coder.other W168 (Or.inr (slot_ne (Or.inr (ow hw 63)) (Or.inr (ow hw 78)) (by decide) (t := .byte) (t' := (.array .byte)) (by decide) (by decide)))
  have V_b_165 := V_b_165.other W168 (Ne.symm ne_s__b_165)
  have E_b_165 := E_b_165.wr W168
  have O := O.wr W168 g_s
  have K169 := K167.wr W168 (Or.inl (List.mem_of_getElem? (i := 0) rfl))
  have F_s__String_value := F_s__String_value.same W168
  have N168 := Fr.snoc X168 N164 g_s
  show own_Fin p e below (T168.setTop (mkF m 38 #[.val (.ref s_), .val (.ref b), .val .null, .val (.ref t), .val (.int cn)] [])) _
  refine own_go (fun _ k => XS.goto X168.here hx rfl (pc0 := 38) (pc' := 97) rfl (hb hby d7_38) (by decide) (by decide) k) ?_
  show own_Fin p e below (T168.setTop (mkF m 97 #[.val (.ref s_), .val (.ref b), .val .null, .val (.ref t), .val (.int cn)] [])) _
  obtain ⟨fs, hr, hrun, hended, hW, hsame⟩ := X168.leave (v := none) (fun _ => rfl)
  refine ⟨_, _, ?_, hrun, hended, _, _, rfl, ?_, ⟨_, rfl⟩, hW, hsame.mono (by decide) (by decide)⟩
  ·exact X168.returnOut hx Bd.returns (hb hby d7_97) hr
  ·show QsvL Z s_ b z t kt N vs cn h0 n0 _ T168.heap _
   rw [e168]
   exact ⟨b_165, k_166, rfl, N168, K169, sz_b_165, E_s_, F_s__String_coder, F_s__String_value, V_b_165⟩
theorem d6_0 : decode jdk_42_method_53_code 0 = .ok (.aload_n 0, 1) := by decide +kernel
theorem d6_1 : decode jdk_42_method_53_code 1 = .ok (.aload_n 1, 1) := by decide +kernel
theorem d6_2 : decode jdk_42_method_53_code 2 = .ok (.aconst_null, 1) := by decide +kernel
theorem d6_3 : decode jdk_42_method_53_code 3 = .ok (.invokespecial 489, 3) := by decide +kernel
theorem pd_12 : parseMethodDescriptor "(Ljava/lang/AbstractStringBuilder;Ljava/lang/Void;)V" = some ⟨[(.object "java/lang/AbstractStringBuilder"), (.object "java/lang/Void")], none⟩ := by decide +kernel
theorem d6_6 : decode jdk_42_method_53_code 6 = .ok (.return_, 1) := by decide +kernel
theorem ef_swL (m : MethodId) (x0 : Addr) (x1 : Addr) : entryFrame m #[(.ref x0), (.ref x1)] 2 = mkF m 0 #[.val (.ref x0), .val (.ref x1)] [] := by first | (simp [entryFrame, mkF, argsToLocals, Value.category]; done) | rfl
def QswL (Z : State) (s_ : Addr) (b : Addr) (z : Int32) (t : Addr) (kt : ClassId) (N : Int32) (vs : List Value) (cn : Int32) (h0 : Heap) (n0 : Nat) (v : Option Value) (h : Heap) (L : List Loc) : Prop := ∃ (t2_ : Addr) (k2_ : ClassId), v = none ∧ Fr n0 L ∧ Keep h0 h [s_] ∧ h0.size ≤ t2_ ∧ Exa Z h s_ "java/lang/String" ∧ Fld Z h s_ "java/lang/String" "coder" "B" (.int 0) ∧ Fld Z h s_ "java/lang/String" "value" "[B" (.ref t2_) ∧ Arv Z h t2_ k2_ .byte cn (vs.take cn.toNatClampNeg) (.int 0)
set_option maxRecDepth 65536 in
set_option maxHeartbeats 40000000 in
theorem swL (l : Launch) (Z : State) (a0 : Array Value) (hw : ∀ d ∈ tables_1, d.before a0 Z = true) (ws : List Jvm.Cond) (s_ : Addr) (b : Addr) (z : Int32) (t : Addr) (kt : ClassId) (N : Int32) (vs : List Value) (cn : Int32) (h0 : Heap) (n0 : Nat) (O : Old Z n0 h0) (S_String_COMPACT_STRINGS : Sta Z Z.heap "java/lang/String" "COMPACT_STRINGS" "Z" (.int z)) (hz : ¬ (z = (0 : Int32))) (E_b : Exa Z h0 b "java/lang/StringBuilder") (F_b_ASB_value : Fld Z h0 b "java/lang/AbstractStringBuilder" "value" "[B" (.ref t)) (F_b_ASB_coder : Fld Z h0 b "java/lang/AbstractStringBuilder" "coder" "B" (.int 0)) (F_b_ASB_count : Fld Z h0 b "java/lang/AbstractStringBuilder" "count" "I" (.int cn)) (V_t : Arv Z h0 t kt .byte N vs (.int 0)) (E_t : Exa Z h0 t "[B") (hn0 : ¬ cn < 0) (hvl : cn.toNatClampNeg ≤ vs.length) (hnN : cn.toNatClampNeg ≤ N.toNatClampNeg) (hcap : cn.toNatClampNeg ≤ 9) (hlt : cn < N) (hne : ¬ (cn = N)) (E_s_ : Exa Z h0 s_ "java/lang/String") (F_s__String_value : Fld Z h0 s_ "java/lang/String" "value" "[B" .null) (F_s__String_coder : Fld Z h0 s_ "java/lang/String" "coder" "B" (.int 0)) (g_s : n0 ≤ s_) (nsb : s_ ≠ b) (nst : s_ ≠ t) :
    MetFree l (⟨"java/lang/String", "<init>", "(Ljava/lang/StringBuilder;)V"⟩ : MethodName) (head1 (Jvm.Cond.code (⟨"java/lang/String", "<init>", "(Ljava/lang/StringBuilder;)V"⟩ : MethodName) jdk_42_method_53_code 2 none :: ws) ({ frames := 4, cells := 1, slots := 9, locals := 65 } : Room)) (fun a' U' => a' = #[(.ref s_), (.ref b)] ∧ Z.Warmed39 U'.vm ∧ U'.heap = h0) (fun _ _ _ _ _ => True) (fun _ U' o' W' => ∃ v' L', o' = .returned v' ∧ QswL Z s_ b z t kt N vs cn h0 n0 v' W'.heap L' ∧ FrameEnd U' o' W' L' ({ frames := 4, cells := 1, slots := 9, locals := 65 } : Room).cells ({ frames := 4, cells := 1, slots := 9, locals := 65 } : Room).slots) := by
  refine MetFree.of_bodySF (plainFor_of_name pn_5) hisR ?_
  intro p e s m args below meth c s₁ Bd hml0 hP hK
  obtain ⟨rfl, hZ, hh⟩ := hP
  have hx := Bd.exec
  have hby := Bd.bytes
  have hml : c.maxLocals = 2 := hml0
  have hown : s.vm.findClass "java/lang/String" = some m.cls := findClass_of_methodNamed Bd.named
  have hnm := (name_of_methodNamed Bd.named Bd.method).1
  have X0 : Stand p l e ({ frames := 4, cells := 1, slots := 9, locals := 65 } : Room) s m #[(.ref s_), (.ref b)] below meth c s₁ [] 0 0 := Stand.of_body Bd
  have e0 : s₁.heap = h0 := by rw [← hh, Bd.state]; rfl
  have N0 := Fr.nil n0
  have K0 := Keep.refl h0 [s_]
  refine own_start (ef_swL m s_ b) (Q := fun o' t' => ∃ v' L', o' = .returned v' ∧ QswL Z s_ b z t kt N vs cn h0 n0 v' t'.heap L' ∧ FrameEnd s o' t' L' ({ frames := 4, cells := 1, slots := 9, locals := 65 } : Room).cells ({ frames := 4, cells := 1, slots := 9, locals := 65 } : Room).slots) ?_
  show own_Fin p e below (s₁.setTop (mkF m 0 #[.val (.ref s_), .val (.ref b)] [])) _
  refine own_go (fun _ k => XS.aloadN X0.here hx rfl (hb hby d6_0) rfl rfl (XS.aloadN X0.here hx rfl (hb hby d6_1) rfl rfl (XS.aconstNull X0.here hx rfl (hb hby d6_2) k))) ?_
  show own_Fin p e below (s₁.setTop (mkF m 3 #[.val (.ref s_), .val (.ref b)] [.null, (.ref b), (.ref s_)])) _
  obtain ⟨_, _, ⟨T171, L171, k171, n171⟩, -, X171, ⟨Lc171, hQ171, l171, y171, z171⟩, st171⟩ := X0.specialBack hx (y := (⟨"java/lang/String", "<init>", "(Ljava/lang/AbstractStringBuilder;Ljava/lang/Void;)V"⟩ : MethodName)) rfl hown (mvT hZ (ow hw 37)) (mvT hZ (ow hw 38)) (mvT hZ (ow hw 39)) (by decide) (backOf (W := 0) (svL l Z a0 hw [] s_ b z t kt N vs cn h0 n0 O S_String_COMPACT_STRINGS hz E_b F_b_ASB_value F_b_ASB_coder F_b_ASB_count V_t E_t hn0 hvl hnN hcap hlt hne E_s_ F_s__String_value F_s__String_coder g_s nsb nst) hZ (ow hw 39) (ow hw 21) (by decide) (by decide)) (g := (mkF m 3 #[.val (.ref s_), .val (.ref b)] [.null, (.ref b), (.ref s_)])) rfl (by rw [hml]; rfl) (Steps.refl _) (a := s_) (argsL := [(.ref b), .null]) (rest := []) (lenOf pd_12 rfl) rfl (by show 2 * 0 + _ ≤ _; exact Nat.le_of_eq rfl) (hb hby d6_3) (fun _ _ => ⟨rfl, e0, (by decide : 0 + 1 ≤ _), (by decide : 0 + 9 ≤ _)⟩)
  dsimp only [Pt.U, Pt.locs, Pt.cells, Pt.slots] at X171 l171 y171 z171 st171 hQ171
  subst l171 y171 z171
  obtain ⟨t2_172, k2_173, rfl, N171q, Kq171, P171_0, P171_1, P171_2, P171_3, P171_4⟩ := hQ171
  refine own_go (fun _ k => st171.trans k) ?_
  have N171 := Fr.app N0 N171q
  have ne_b_t2_172 : b ≠ t2_172 := Nat.ne_of_lt (Nat.lt_of_lt_of_le E_b.lt P171_0)
  have ne_t_t2_172 : t ≠ t2_172 := Nat.ne_of_lt (Nat.lt_of_lt_of_le V_t.lt P171_0)
  have ne_s__t2_172 : s_ ≠ t2_172 := Nat.ne_of_lt (Nat.lt_of_lt_of_le E_s_.lt P171_0)
  have g_t2_172 : n0 ≤ t2_172 := Nat.le_trans (own_osz O) P171_0
  have sz_t2_172 : h0.size ≤ t2_172 := Nat.le_trans K0.1 P171_0
  have E_b := E_b.keep Kq171
  have F_b_ASB_value := F_b_ASB_value.keep Kq171 (ninS (Ne.symm nsb) nin0)
  have F_b_ASB_coder := F_b_ASB_coder.keep Kq171 (ninS (Ne.symm nsb) nin0)
  have F_b_ASB_count := F_b_ASB_count.keep Kq171 (ninS (Ne.symm nsb) nin0)
  have V_t := V_t.keep Kq171 (ninS (Ne.symm nst) nin0)
  have E_t := E_t.keep Kq171
  have E_s_ := E_s_.keep Kq171
  clear F_s__String_value
  clear F_s__String_coder
  have O := O.keep Kq171 (allS g_s all0)
  have K174 := K0.trans Kq171 (allS (Or.inl (List.mem_of_getElem? (i := 0) rfl)) all0)
  have E_s_ := P171_1
  have F_s__String_coder := P171_2
  have F_s__String_value := P171_3
  have V_t2_172 := P171_4
  show own_Fin p e below (T171.setTop (mkF m 6 #[.val (.ref s_), .val (.ref b)] [])) _
  obtain ⟨fs, hr, hrun, hended, hW, hsame⟩ := X171.leave (v := none) (fun _ => rfl)
  refine ⟨_, _, ?_, hrun, hended, _, _, rfl, ?_, ⟨_, rfl⟩, hW, hsame.mono (by decide) (by decide)⟩
  ·exact X171.returnOut hx Bd.returns (hb hby d6_6) hr
  ·show QswL Z s_ b z t kt N vs cn h0 n0 _ T171.heap _
   exact ⟨t2_172, k2_173, rfl, N171, K174, sz_t2_172, E_s_, F_s__String_coder, F_s__String_value, V_t2_172⟩
theorem d5_0 : decode jdk_67_method_42_code 0 = .ok (.new 18, 3) := by decide +kernel
theorem d5_3 : decode jdk_67_method_42_code 3 = .ok (.dup, 1) := by decide +kernel
theorem d5_4 : decode jdk_67_method_42_code 4 = .ok (.aload_n 0, 1) := by decide +kernel
theorem d5_5 : decode jdk_67_method_42_code 5 = .ok (.invokespecial 137, 3) := by decide +kernel
theorem pd_13 : parseMethodDescriptor "(Ljava/lang/StringBuilder;)V" = some ⟨[(.object "java/lang/StringBuilder")], none⟩ := by decide +kernel
theorem d5_8 : decode jdk_67_method_42_code 8 = .ok (.areturn, 1) := by decide +kernel
theorem ef_tsL (m : MethodId) (x0 : Addr) : entryFrame m #[(.ref x0)] 1 = mkF m 0 #[.val (.ref x0)] [] := by first | (simp [entryFrame, mkF, argsToLocals, Value.category]; done) | rfl
def QtsL (Z : State) (b : Addr) (z : Int32) (t : Addr) (kt : ClassId) (N : Int32) (vs : List Value) (cn : Int32) (h0 : Heap) (n0 : Nat) (v : Option Value) (h : Heap) (L : List Loc) : Prop := ∃ (s_ : Addr) (t2_ : Addr) (k2_ : ClassId), v = some (.ref s_) ∧ Fr n0 L ∧ Keep h0 h [] ∧ h0.size ≤ s_ ∧ s_ ≠ t2_ ∧ h0.size ≤ t2_ ∧ Exa Z h s_ "java/lang/String" ∧ Fld Z h s_ "java/lang/String" "coder" "B" (.int 0) ∧ Fld Z h s_ "java/lang/String" "value" "[B" (.ref t2_) ∧ Arv Z h t2_ k2_ .byte cn (vs.take cn.toNatClampNeg) (.int 0)
set_option maxRecDepth 65536 in
set_option maxHeartbeats 40000000 in
theorem tsL (l : Launch) (Z : State) (a0 : Array Value) (hw : ∀ d ∈ tables_1, d.before a0 Z = true) (ws : List Jvm.Cond) (b : Addr) (z : Int32) (t : Addr) (kt : ClassId) (N : Int32) (vs : List Value) (cn : Int32) (h0 : Heap) (n0 : Nat) (O : Old Z n0 h0) (S_String_COMPACT_STRINGS : Sta Z Z.heap "java/lang/String" "COMPACT_STRINGS" "Z" (.int z)) (hz : ¬ (z = (0 : Int32))) (E_b : Exa Z h0 b "java/lang/StringBuilder") (F_b_ASB_value : Fld Z h0 b "java/lang/AbstractStringBuilder" "value" "[B" (.ref t)) (F_b_ASB_coder : Fld Z h0 b "java/lang/AbstractStringBuilder" "coder" "B" (.int 0)) (F_b_ASB_count : Fld Z h0 b "java/lang/AbstractStringBuilder" "count" "I" (.int cn)) (V_t : Arv Z h0 t kt .byte N vs (.int 0)) (E_t : Exa Z h0 t "[B") (hn0 : ¬ cn < 0) (hvl : cn.toNatClampNeg ≤ vs.length) (hnN : cn.toNatClampNeg ≤ N.toNatClampNeg) (hcap : cn.toNatClampNeg ≤ 9) (hlt : cn < N) (hne : ¬ (cn = N)) :
    MetFree l (⟨"java/lang/StringBuilder", "toString", "()Ljava/lang/String;"⟩ : MethodName) (head1 (Jvm.Cond.code (⟨"java/lang/StringBuilder", "toString", "()Ljava/lang/String;"⟩ : MethodName) jdk_67_method_42_code 1 (some (.object "java/lang/String")) :: ws) ({ frames := 5, cells := 2, slots := 13, locals := 79 } : Room)) (fun a' U' => a' = #[(.ref b)] ∧ Z.Warmed39 U'.vm ∧ U'.heap = h0) (fun _ _ _ _ _ => True) (fun _ U' o' W' => ∃ v' L', o' = .returned v' ∧ QtsL Z b z t kt N vs cn h0 n0 v' W'.heap L' ∧ FrameEnd U' o' W' L' ({ frames := 5, cells := 2, slots := 13, locals := 79 } : Room).cells ({ frames := 5, cells := 2, slots := 13, locals := 79 } : Room).slots) := by
  refine MetFree.of_bodySF (plainFor_of_name pn_1) hisR ?_
  intro p e s m args below meth c s₁ Bd hml0 hP hK
  obtain ⟨rfl, hZ, hh⟩ := hP
  have hx := Bd.exec
  have hby := Bd.bytes
  have hml : c.maxLocals = 1 := hml0
  have hown : s.vm.findClass "java/lang/StringBuilder" = some m.cls := findClass_of_methodNamed Bd.named
  have hnm := (name_of_methodNamed Bd.named Bd.method).1
  have X0 : Stand p l e ({ frames := 5, cells := 2, slots := 13, locals := 79 } : Room) s m #[(.ref b)] below meth c s₁ [] 0 0 := Stand.of_body Bd
  have e0 : s₁.heap = h0 := by rw [← hh, Bd.state]; rfl
  have N0 := Fr.nil n0
  have K0 := Keep.refl h0 []
  refine own_start (ef_tsL m b) (Q := fun o' t' => ∃ v' L', o' = .returned v' ∧ QtsL Z b z t kt N vs cn h0 n0 v' t'.heap L' ∧ FrameEnd s o' t' L' ({ frames := 5, cells := 2, slots := 13, locals := 79 } : Room).cells ({ frames := 5, cells := 2, slots := 13, locals := 79 } : Room).slots) ?_
  show own_Fin p e below (s₁.setTop (mkF m 0 #[.val (.ref b)] [])) _
  obtain ⟨T176, h176, X176, e176, E176, A176, D176, -, st176⟩ := newO X0 hx hZ hown (ow hw 31) (ow hw 32) (ow hw 21) e0 (g := (mkF m 0 #[.val (.ref b)] [])) rfl (hb hby d5_0) (by decide) (by decide)
  obtain ⟨b176, g176⟩ : ∃ z, z = h0.size := ⟨_, rfl⟩
  rw [← g176] at A176 D176 st176
  refine own_go (fun _ k => st176 _ k) ?_
  have ne_b_b176 : b ≠ b176 := Nat.ne_of_lt (Nat.lt_of_lt_of_le E_b.lt (Nat.le_of_eq g176.symm))
  have ne_t_b176 : t ≠ b176 := Nat.ne_of_lt (Nat.lt_of_lt_of_le V_t.lt (Nat.le_of_eq g176.symm))
  have g_b176 : n0 ≤ b176 := Nat.le_trans (own_osz O) (Nat.le_of_eq g176.symm)
  have sz_b176 : h0.size ≤ b176 := Nat.le_trans K0.1 (Nat.le_of_eq g176.symm)
  have E_b := E_b.ext E176
  have F_b_ASB_value := F_b_ASB_value.ext E176
  have F_b_ASB_coder := F_b_ASB_coder.ext E176
  have F_b_ASB_count := F_b_ASB_count.ext E176
  have V_t := V_t.ext E176
  have E_t := E_t.ext E176
  have O := O.ext E176
  have K177 := K0.ext E176
  have E_b176 := A176
  have F_b176_String_coder : Fld Z h176 b176 "java/lang/String" "coder" "B" (.int 0) := D176 (Or.inr (ow hw 63)) (ty := .byte) (by decide)
  have F_b176_String_value : Fld Z h176 b176 "java/lang/String" "value" "[B" .null := D176 (Or.inr (ow hw 78)) (ty := (.array .byte)) (by decide)
  show own_Fin p e below (T176.setTop (mkF m 3 #[.val (.ref b)] [(.ref b176)])) _
  refine own_go (fun _ k => XS.dup X176.here hx rfl (hb hby d5_3) rfl rfl (XS.aloadN X176.here hx rfl (hb hby d5_4) rfl rfl k)) ?_
  show own_Fin p e below (T176.setTop (mkF m 5 #[.val (.ref b)] [(.ref b), (.ref b176), (.ref b176)])) _
  obtain ⟨_, _, ⟨T178, L178, k178, n178⟩, -, X178, ⟨Lc178, hQ178, l178, y178, z178⟩, st178⟩ := X176.specialBack hx (y := (⟨"java/lang/String", "<init>", "(Ljava/lang/StringBuilder;)V"⟩ : MethodName)) rfl hown (mvT hZ (ow hw 33)) (mvT hZ (ow hw 34)) (mvT hZ (ow hw 36)) (by decide) (backOf (W := 1) (swL l Z a0 hw [] b176 b z t kt N vs cn h176 n0 O S_String_COMPACT_STRINGS hz E_b F_b_ASB_value F_b_ASB_coder F_b_ASB_count V_t E_t hn0 hvl hnN hcap hlt hne E_b176 F_b176_String_value F_b176_String_coder g_b176 (Ne.symm ne_b_b176) (Ne.symm ne_t_b176)) hZ (ow hw 36) (ow hw 21) (by decide) (by decide)) (g := (mkF m 5 #[.val (.ref b)] [(.ref b), (.ref b176), (.ref b176)])) rfl (by rw [hml]; rfl) (Steps.refl _) (a := b176) (argsL := [(.ref b)]) (rest := [(.ref b176)]) (lenOf pd_13 rfl) rfl (by show 2 * 0 + _ ≤ _; exact Nat.le_of_eq rfl) (hb hby d5_5) (fun _ _ => ⟨rfl, e176, (by decide : 1 + 1 ≤ _), (by decide : 4 + 9 ≤ _)⟩)
  dsimp only [Pt.U, Pt.locs, Pt.cells, Pt.slots] at X178 l178 y178 z178 st178 hQ178
  subst l178 y178 z178
  obtain ⟨t2_179, k2_180, rfl, N178q, Kq178, P178_0, P178_1, P178_2, P178_3, P178_4⟩ := hQ178
  refine own_go (fun _ k => st178.trans k) ?_
  have N178 := Fr.app N0 N178q
  have ne_b_t2_179 : b ≠ t2_179 := Nat.ne_of_lt (Nat.lt_of_lt_of_le E_b.lt P178_0)
  have ne_t_t2_179 : t ≠ t2_179 := Nat.ne_of_lt (Nat.lt_of_lt_of_le V_t.lt P178_0)
  have ne_b176_t2_179 : b176 ≠ t2_179 := Nat.ne_of_lt (Nat.lt_of_lt_of_le E_b176.lt P178_0)
  have g_t2_179 : n0 ≤ t2_179 := Nat.le_trans (own_osz O) P178_0
  have sz_t2_179 : h0.size ≤ t2_179 := Nat.le_trans K177.1 P178_0
  have E_b := E_b.keep Kq178
  have F_b_ASB_value := F_b_ASB_value.keep Kq178 (ninS ne_b_b176 nin0)
  have F_b_ASB_coder := F_b_ASB_coder.keep Kq178 (ninS ne_b_b176 nin0)
  have F_b_ASB_count := F_b_ASB_count.keep Kq178 (ninS ne_b_b176 nin0)
  have V_t := V_t.keep Kq178 (ninS ne_t_b176 nin0)
  have E_t := E_t.keep Kq178
  have E_b176 := E_b176.keep Kq178
  clear F_b176_String_coder
  clear F_b176_String_value
  have O := O.keep Kq178 (allS g_b176 all0)
  have K181 := K177.trans Kq178 (allS (Or.inr sz_b176) all0)
  have E_b176 := P178_1
  have F_b176_String_coder := P178_2
  have F_b176_String_value := P178_3
  have V_t2_179 := P178_4
  show own_Fin p e below (T178.setTop (mkF m 8 #[.val (.ref b)] [(.ref b176)])) _
  obtain ⟨fs, hr, hrun, hended, hW, hsame⟩ := X178.leave (v := some (.ref b176)) (fun h => by rw [Bd.returns] at h; cases h)
  refine ⟨_, _, ?_, hrun, hended, _, _, rfl, ?_, ⟨_, rfl⟩, hW, hsame.mono (by decide) (by decide)⟩
  ·exact X178.areturnOut hx rfl Bd.returns rfl (hb hby d5_8) hr
  ·show QtsL Z b z t kt N vs cn h0 n0 _ T178.heap _
   exact ⟨b176, t2_179, k2_180, rfl, N178, K181, sz_b176, ne_b176_t2_179, sz_t2_179, E_b176, F_b176_String_coder, F_b176_String_value, V_t2_179⟩
theorem ef_svE (m : MethodId) (x0 : Addr) (x1 : Addr) : entryFrame m #[(.ref x0), (.ref x1), .null] 5 = mkF m 0 #[.val (.ref x0), .val (.ref x1), .val .null, .unset, .unset] [] := by first | (simp [entryFrame, mkF, argsToLocals, Value.category]; done) | rfl
def QsvE (Z : State) (s_ : Addr) (b : Addr) (z : Int32) (t : Addr) (kt : ClassId) (N : Int32) (vs : List Value) (cn : Int32) (h0 : Heap) (n0 : Nat) (v : Option Value) (h : Heap) (L : List Loc) : Prop := ∃ (t2_ : Addr) (k2_ : ClassId), v = none ∧ Fr n0 L ∧ Keep h0 h [s_] ∧ h0.size ≤ t2_ ∧ Exa Z h s_ "java/lang/String" ∧ Fld Z h s_ "java/lang/String" "coder" "B" (.int 0) ∧ Fld Z h s_ "java/lang/String" "value" "[B" (.ref t2_) ∧ Arv Z h t2_ k2_ .byte cn (vs.take cn.toNatClampNeg) (.int 0)
set_option maxRecDepth 65536 in
set_option maxHeartbeats 40000000 in
theorem svE (l : Launch) (Z : State) (a0 : Array Value) (hw : ∀ d ∈ tables_1, d.before a0 Z = true) (ws : List Jvm.Cond) (s_ : Addr) (b : Addr) (z : Int32) (t : Addr) (kt : ClassId) (N : Int32) (vs : List Value) (cn : Int32) (h0 : Heap) (n0 : Nat) (O : Old Z n0 h0) (S_String_COMPACT_STRINGS : Sta Z Z.heap "java/lang/String" "COMPACT_STRINGS" "Z" (.int z)) (hz : ¬ (z = (0 : Int32))) (E_b : Exa Z h0 b "java/lang/StringBuilder") (F_b_ASB_value : Fld Z h0 b "java/lang/AbstractStringBuilder" "value" "[B" (.ref t)) (F_b_ASB_coder : Fld Z h0 b "java/lang/AbstractStringBuilder" "coder" "B" (.int 0)) (F_b_ASB_count : Fld Z h0 b "java/lang/AbstractStringBuilder" "count" "I" (.int cn)) (V_t : Arv Z h0 t kt .byte N vs (.int 0)) (E_t : Exa Z h0 t "[B") (hn0 : ¬ cn < 0) (hvl : cn.toNatClampNeg ≤ vs.length) (hnN : cn.toNatClampNeg ≤ N.toNatClampNeg) (hcap : cn.toNatClampNeg ≤ 9) (heq : cn = N) (htk : vs.take cn.toNatClampNeg = vs) (E_s_ : Exa Z h0 s_ "java/lang/String") (F_s__String_value : Fld Z h0 s_ "java/lang/String" "value" "[B" .null) (F_s__String_coder : Fld Z h0 s_ "java/lang/String" "coder" "B" (.int 0)) (g_s : n0 ≤ s_) (nsb : s_ ≠ b) (nst : s_ ≠ t) :
    MetFree l (⟨"java/lang/String", "<init>", "(Ljava/lang/AbstractStringBuilder;Ljava/lang/Void;)V"⟩ : MethodName) (head1 (Jvm.Cond.code (⟨"java/lang/String", "<init>", "(Ljava/lang/AbstractStringBuilder;Ljava/lang/Void;)V"⟩ : MethodName) jdk_42_method_150_code 5 none :: ws) ({ frames := 2, cells := 1, slots := 9, locals := 29 } : Room)) (fun a' U' => a' = #[(.ref s_), (.ref b), .null] ∧ Z.Warmed39 U'.vm ∧ U'.heap = h0) (fun _ _ _ _ _ => True) (fun _ U' o' W' => ∃ v' L', o' = .returned v' ∧ QsvE Z s_ b z t kt N vs cn h0 n0 v' W'.heap L' ∧ FrameEnd U' o' W' L' ({ frames := 2, cells := 1, slots := 9, locals := 29 } : Room).cells ({ frames := 2, cells := 1, slots := 9, locals := 29 } : Room).slots) := by
  refine MetFree.of_bodySF (plainFor_of_name pn_5) hisR ?_
  intro p e s m args below meth c s₁ Bd hml0 hP hK
  obtain ⟨rfl, hZ, hh⟩ := hP
  have hx := Bd.exec
  have hby := Bd.bytes
  have hml : c.maxLocals = 5 := hml0
  have hown : s.vm.findClass "java/lang/String" = some m.cls := findClass_of_methodNamed Bd.named
  have hnm := (name_of_methodNamed Bd.named Bd.method).1
  have X0 : Stand p l e ({ frames := 2, cells := 1, slots := 9, locals := 29 } : Room) s m #[(.ref s_), (.ref b), .null] below meth c s₁ [] 0 0 := Stand.of_body Bd
  have e0 : s₁.heap = h0 := by rw [← hh, Bd.state]; rfl
  have N0 := Fr.nil n0
  have K0 := Keep.refl h0 [s_]
  refine own_start (ef_svE m s_ b) (Q := fun o' t' => ∃ v' L', o' = .returned v' ∧ QsvE Z s_ b z t kt N vs cn h0 n0 v' t'.heap L' ∧ FrameEnd s o' t' L' ({ frames := 2, cells := 1, slots := 9, locals := 29 } : Room).cells ({ frames := 2, cells := 1, slots := 9, locals := 29 } : Room).slots) ?_
  show own_Fin p e below (s₁.setTop (mkF m 0 #[.val (.ref s_), .val (.ref b), .val .null, .unset, .unset] [])) _
  refine own_go (fun _ k => XS.aloadN X0.here hx rfl (hb hby d7_0) rfl rfl k) ?_
  show own_Fin p e below (s₁.setTop (mkF m 1 #[.val (.ref s_), .val (.ref b), .val .null, .unset, .unset] [(.ref s_)])) _
  obtain ⟨T183, X183, e183, st183⟩ := initO X0 hx hZ hown (ow hw 40) (ow hw 18) (ow hw 19) e0 (g := (mkF m 1 #[.val (.ref s_), .val (.ref b), .val .null, .unset, .unset] [(.ref s_)])) rfl (by rw [hml]; rfl) rfl (hb hby d7_1) (by decide) (W := 0) (by show 2 * 0 + _ ≤ _; exact Nat.le_of_eq rfl) (by decide)
  refine own_go (fun _ k => st183 _ k) ?_
  show own_Fin p e below (T183.setTop (mkF m 4 #[.val (.ref s_), .val (.ref b), .val .null, .unset, .unset] [])) _
  refine own_go (fun _ k => XS.aloadN X183.here hx rfl (hb hby d7_4) rfl rfl k) ?_
  show own_Fin p e below (T183.setTop (mkF m 5 #[.val (.ref s_), .val (.ref b), .val .null, .unset, .unset] [(.ref b)])) _
  obtain ⟨cq184, kq184, q184a, q184b, q184c⟩ := isOf hZ e183 E_b
  obtain ⟨_, _, ⟨T184, L184, k184, n184⟩, -, X184, ⟨Lc184, hQ184, l184, y184, z184⟩, st184⟩ := X183.virtualBack hx (y := (⟨"java/lang/AbstractStringBuilder", "getValue", "()[B"⟩ : MethodName)) (z := (⟨"java/lang/AbstractStringBuilder", "getValue", "()[B"⟩ : MethodName)) hown (mvT hZ (ow hw 41)) (mvT hZ (ow hw 42)) (notFace_of_selects (args := #[]) (mvT hZ (ow hw 44))) (mvT hZ (ow hw 44)) (mvT hZ (ow hw 43)) (by decide) (backOf (W := 0) (rm8 l Z a0 hw [] b t h0 n0 O F_b_ASB_value) hZ (ow hw 45) (ow hw 15) (by decide) (by decide)) q184a q184c (g := (mkF m 5 #[.val (.ref s_), .val (.ref b), .val .null, .unset, .unset] [(.ref b)])) rfl (by rw [hml]; rfl) (Steps.refl _) (argsL := []) (rest := []) (lenOf pd_11 rfl) rfl (by show 2 * 0 + _ ≤ _; exact Nat.le_of_eq rfl) (hb hby d7_5) (fun _ _ => ⟨rfl, e183, (by decide : 0 + 0 ≤ _), (by decide : 0 + 0 ≤ _)⟩)
  dsimp only [Pt.U, Pt.locs, Pt.cells, Pt.slots] at X184 l184 y184 z184 st184 hQ184
  subst l184 y184 z184
  obtain ⟨rfl, N184q, e184⟩ := hQ184
  refine own_go (fun _ k => st184.trans k) ?_
  have N184 := Fr.app N0 N184q
  show own_Fin p e below (T184.setTop (mkF m 8 #[.val (.ref s_), .val (.ref b), .val .null, .unset, .unset] [(.ref t)])) _
  refine own_go (fun _ k => XS.astoreN X184.here hx rfl (hb hby d7_8) rfl rfl (l' := #[.val (.ref s_), .val (.ref b), .val .null, .val (.ref t), .unset]) rfl (XS.aloadN X184.here hx rfl (hb hby d7_9) rfl rfl k)) ?_
  show own_Fin p e below (T184.setTop (mkF m 10 #[.val (.ref s_), .val (.ref b), .val .null, .val (.ref t), .unset] [(.ref b)])) _
  obtain ⟨cq185, kq185, q185a, q185b, q185c⟩ := isOf hZ e184 E_b
  obtain ⟨_, _, ⟨T185, L185, k185, n185⟩, -, X185, ⟨Lc185, hQ185, l185, y185, z185⟩, st185⟩ := X184.virtualBack hx (y := (⟨"java/lang/AbstractStringBuilder", "length", "()I"⟩ : MethodName)) (z := (⟨"java/lang/StringBuilder", "length", "()I"⟩ : MethodName)) hown (mvT hZ (ow hw 46)) (mvT hZ (ow hw 47)) (own_nf (args := #[]) (mvT hZ (ow hw 44)) (by exact rfl)) (mvT hZ (ow hw 49)) (mvT hZ (ow hw 50)) (by decide) (backOf (W := 0) (sl l Z a0 hw [] b cn h0 n0 O E_b F_b_ASB_count) hZ (ow hw 51) (ow hw 7) (by decide) (by decide)) q185a q185c (g := (mkF m 10 #[.val (.ref s_), .val (.ref b), .val .null, .val (.ref t), .unset] [(.ref b)])) rfl (by rw [hml]; rfl) (Steps.refl _) (argsL := []) (rest := []) (lenOf pd_8 rfl) rfl (by show 2 * 0 + _ ≤ _; exact Nat.le_of_eq rfl) (hb hby d7_10) (fun _ _ => ⟨rfl, e184, (by decide : 0 + 0 ≤ _), (by decide : 0 + 0 ≤ _)⟩)
  dsimp only [Pt.U, Pt.locs, Pt.cells, Pt.slots] at X185 l185 y185 z185 st185 hQ185
  subst l185 y185 z185
  obtain ⟨rfl, N185q, e185⟩ := hQ185
  refine own_go (fun _ k => st185.trans k) ?_
  have N185 := Fr.app N184 N185q
  show own_Fin p e below (T185.setTop (mkF m 13 #[.val (.ref s_), .val (.ref b), .val .null, .val (.ref t), .unset] [(.int cn)])) _
  refine own_go (fun _ k => XS.istore X185.here hx rfl (hb hby d7_13) rfl (l' := #[.val (.ref s_), .val (.ref b), .val .null, .val (.ref t), .val (.int cn)]) rfl (XS.aloadN X185.here hx rfl (hb hby d7_15) rfl rfl k)) ?_
  show own_Fin p e below (T185.setTop (mkF m 16 #[.val (.ref s_), .val (.ref b), .val .null, .val (.ref t), .val (.int cn)] [(.ref b)])) _
  obtain ⟨cq186, kq186, q186a, q186b, q186c⟩ := isOf hZ e185 E_b
  obtain ⟨_, _, ⟨T186, L186, k186, n186⟩, -, X186, ⟨Lc186, hQ186, l186, y186, z186⟩, st186⟩ := X185.virtualBack hx (y := (⟨"java/lang/AbstractStringBuilder", "isLatin1", "()Z"⟩ : MethodName)) (z := (⟨"java/lang/AbstractStringBuilder", "isLatin1", "()Z"⟩ : MethodName)) hown (mvT hZ (ow hw 57)) (mvT hZ (ow hw 58)) (notFace_of_selects (args := #[]) (mvT hZ (ow hw 60))) (mvT hZ (ow hw 60)) (mvT hZ (ow hw 59)) (by decide) (backOf (W := 0) (rm11 l Z a0 hw [] b z h0 n0 O S_String_COMPACT_STRINGS hz F_b_ASB_coder) hZ (ow hw 61) (ow hw 15) (by decide) (by decide)) q186a q186c (g := (mkF m 16 #[.val (.ref s_), .val (.ref b), .val .null, .val (.ref t), .val (.int cn)] [(.ref b)])) rfl (by rw [hml]; rfl) (Steps.refl _) (argsL := []) (rest := []) (lenOf pd_5 rfl) rfl (by show 2 * 0 + _ ≤ _; exact Nat.le_of_eq rfl) (hb hby d7_16) (fun _ _ => ⟨rfl, e185, (by decide : 0 + 0 ≤ _), (by decide : 0 + 0 ≤ _)⟩)
  dsimp only [Pt.U, Pt.locs, Pt.cells, Pt.slots] at X186 l186 y186 z186 st186 hQ186
  subst l186 y186 z186
  obtain ⟨rfl, N186q, e186⟩ := hQ186
  refine own_go (fun _ k => st186.trans k) ?_
  have N186 := Fr.app N185 N186q
  show own_Fin p e below (T186.setTop (mkF m 19 #[.val (.ref s_), .val (.ref b), .val .null, .val (.ref t), .val (.int cn)] [(.int 1)])) _
  refine own_go (fun _ k => XS.ifNo X186.here hx rfl (hb hby d7_19) rfl ((if0 _ _).trans (feq (by decide : ¬ ((1 : Int32) = (0 : Int32)))).1) (XS.aloadN X186.here hx rfl (hb hby d7_22) rfl rfl (XS.iconst X186.here hx rfl (hb hby d7_23) k))) ?_
  show own_Fin p e below (T186.setTop (mkF m 24 #[.val (.ref s_), .val (.ref b), .val .null, .val (.ref t), .val (.int cn)] [(.int 0), (.ref s_)])) _
  obtain ⟨T187, h187, X187, e187, W187, st187⟩ := putF X186 hx hZ hown (host := "") (Or.inl (ow hw 62)) Via.refl e186 F_s__String_coder E_s_ (Or.inr ⟨(ow hw 63), rfl, hnm⟩) (ow hw 32) (ty := .byte) (by decide) rfl rfl (g := (mkF m 24 #[.val (.ref s_), .val (.ref b), .val .null, .val (.ref t), .val (.int cn)] [(.int 0), (.ref s_)])) rfl rfl (hb hby d7_24)
  refine own_go (fun _ k => st187 _ k) ?_
  have E_b := E_b.wr W187
  have F_b_ASB_value := F_b_ASB_value.other W187 (Or.inl (Ne.symm nsb))
  have F_b_ASB_coder := F_b_ASB_coder.other W187 (Or.inl (Ne.symm nsb))
  have F_b_ASB_count := F_b_ASB_count.other W187 (Or.inl (Ne.symm nsb))
  have V_t := V_t.other W187 (Ne.symm nst)
  have E_t := E_t.wr W187
  have E_s_ := E_s_.wr W187
  have F_s__String_value := F_s__String_value.other W187 (Or.inr (slot_ne (Or.inr (ow hw 78)) (Or.inr (ow hw 63)) (by decide) (t := (.array .byte)) (t' := .byte) (by decide) (by decide)))
  have O := O.wr W187 g_s
  have K188 := K0.wr W187 (Or.inl (List.mem_of_getElem? (i := 0) rfl))
  have F_s__String_coder := F_s__String_coder.same W187
  have N187 := Fr.snoc X187 N186 g_s
  show own_Fin p e below (T187.setTop (mkF m 27 #[.val (.ref s_), .val (.ref b), .val .null, .val (.ref t), .val (.int cn)] [])) _
  refine own_go (fun _ k => XS.aloadN X187.here hx rfl (hb hby d7_27) rfl rfl (XS.aloadN X187.here hx rfl (hb hby d7_28) rfl rfl (XS.iconst X187.here hx rfl (hb hby d7_29) (XS.iload X187.here hx rfl (hb hby d7_30) rfl k)))) ?_
  show own_Fin p e below (T187.setTop (mkF m 32 #[.val (.ref s_), .val (.ref b), .val .null, .val (.ref t), .val (.int cn)] [(.int cn), (.int 0), (.ref t), (.ref s_)])) _
  obtain ⟨_, _, ⟨T189, L189, k189, n189⟩, -, X189, ⟨Lc189, hQ189, l189, y189, z189⟩, st189⟩ := Jvm.LawKit.callS X187 hx (y := (⟨"java/util/Arrays", "copyOfRange", "([BII)[B"⟩ : MethodName)) hown (mvT hZ (ow hw 64)) (mvT hZ (ow hw 65)) (mvT hZ (ow hw 66)) (mvT hZ (ow hw 67)) (by decide) (backOf (W := 1) (crE l Z a0 hw [] t cn kt N vs h187 n0 O V_t E_t hn0 hvl hnN hcap heq htk) hZ (ow hw 67) (ow hw 66) (by decide) (by decide)) (g := (mkF m 32 #[.val (.ref s_), .val (.ref b), .val .null, .val (.ref t), .val (.int cn)] [(.int cn), (.int 0), (.ref t), (.ref s_)])) rfl (by rw [hml]; rfl) (argsL := [(.ref t), (.int 0), (.int cn)]) (rest := [(.ref s_)]) (lenOf pd_10 rfl) rfl (by show 2 * 0 + _ ≤ _; exact Nat.le_of_eq rfl) (hb hby d7_32) (fun _ _ => ⟨rfl, e187, (by decide : 0 + 1 ≤ _), (by decide : 0 + 9 ≤ _)⟩)
  dsimp only [Pt.U, Pt.locs, Pt.cells, Pt.slots] at X189 l189 y189 z189 st189 hQ189
  subst l189 y189 z189
  obtain ⟨b_190, k_191, rfl, N189q, Kq189, P189_0, P189_1, P189_2⟩ := hQ189
  refine own_go (fun _ k => st189 _ k) ?_
  have N189 := Fr.app N187 N189q
  have ne_b_b_190 : b ≠ b_190 := Nat.ne_of_lt (Nat.lt_of_lt_of_le E_b.lt P189_0)
  have ne_t_b_190 : t ≠ b_190 := Nat.ne_of_lt (Nat.lt_of_lt_of_le V_t.lt P189_0)
  have ne_s__b_190 : s_ ≠ b_190 := Nat.ne_of_lt (Nat.lt_of_lt_of_le E_s_.lt P189_0)
  have g_b_190 : n0 ≤ b_190 := Nat.le_trans (own_osz O) P189_0
  have sz_b_190 : h0.size ≤ b_190 := Nat.le_trans K188.1 P189_0
  have E_b := E_b.keep Kq189
  have F_b_ASB_value := F_b_ASB_value.keep Kq189 nin0
  have F_b_ASB_coder := F_b_ASB_coder.keep Kq189 nin0
  have F_b_ASB_count := F_b_ASB_count.keep Kq189 nin0
  have V_t := V_t.keep Kq189 nin0
  have E_t := E_t.keep Kq189
  have E_s_ := E_s_.keep Kq189
  have F_s__String_value := F_s__String_value.keep Kq189 nin0
  have F_s__String_coder := F_s__String_coder.keep Kq189 nin0
  have O := O.keep Kq189 all0
  have K192 := K188.trans Kq189 all0
  have V_b_190 := P189_1
  have E_b_190 := P189_2
  show own_Fin p e below (T189.setTop (mkF m 35 #[.val (.ref s_), .val (.ref b), .val .null, .val (.ref t), .val (.int cn)] [(.ref b_190), (.ref s_)])) _
  obtain ⟨T193, h193, X193, e193, W193, st193⟩ := putF X189 hx hZ hown (host := "") (Or.inl (ow hw 77)) Via.refl rfl F_s__String_value E_s_ (Or.inr ⟨(ow hw 78), rfl, hnm⟩) (ow hw 32) (ty := (.array .byte)) (by decide) rfl rfl (g := (mkF m 35 #[.val (.ref s_), .val (.ref b), .val .null, .val (.ref t), .val (.int cn)] [(.ref b_190), (.ref s_)])) rfl rfl (hb hby d7_35)
  refine own_go (fun _ k => st193 _ k) ?_
  have E_b := E_b.wr W193
  have F_b_ASB_value := F_b_ASB_value.other W193 (Or.inl (Ne.symm nsb))
  have F_b_ASB_coder := F_b_ASB_coder.other W193 (Or.inl (Ne.symm nsb))
  have F_b_ASB_count := F_b_ASB_count.other W193 (Or.inl (Ne.symm nsb))
  have V_t := V_t.other W193 (Ne.symm nst)
  have E_t := E_t.wr W193
  have E_s_ := E_s_.wr W193
  have F_s__String_coder := F_s__String_coder.other W193 (Or.inr (slot_ne (Or.inr (ow hw 63)) (Or.inr (ow hw 78)) (by decide) (t := .byte) (t' := (.array .byte)) (by decide) (by decide)))
  have V_b_190 := V_b_190.other W193 (Ne.symm ne_s__b_190)
  have E_b_190 := E_b_190.wr W193
  have O := O.wr W193 g_s
  have K194 := K192.wr W193 (Or.inl (List.mem_of_getElem? (i := 0) rfl))
  have F_s__String_value := F_s__String_value.same W193
  have N193 := Fr.snoc X193 N189 g_s
  show own_Fin p e below (T193.setTop (mkF m 38 #[.val (.ref s_), .val (.ref b), .val .null, .val (.ref t), .val (.int cn)] [])) _
  refine own_go (fun _ k => XS.goto X193.here hx rfl (pc0 := 38) (pc' := 97) rfl (hb hby d7_38) (by decide) (by decide) k) ?_
  show own_Fin p e below (T193.setTop (mkF m 97 #[.val (.ref s_), .val (.ref b), .val .null, .val (.ref t), .val (.int cn)] [])) _
  obtain ⟨fs, hr, hrun, hended, hW, hsame⟩ := X193.leave (v := none) (fun _ => rfl)
  refine ⟨_, _, ?_, hrun, hended, _, _, rfl, ?_, ⟨_, rfl⟩, hW, hsame.mono (by decide) (by decide)⟩
  ·exact X193.returnOut hx Bd.returns (hb hby d7_97) hr
  ·show QsvE Z s_ b z t kt N vs cn h0 n0 _ T193.heap _
   rw [e193]
   exact ⟨b_190, k_191, rfl, N193, K194, sz_b_190, E_s_, F_s__String_coder, F_s__String_value, V_b_190⟩
theorem ef_swE (m : MethodId) (x0 : Addr) (x1 : Addr) : entryFrame m #[(.ref x0), (.ref x1)] 2 = mkF m 0 #[.val (.ref x0), .val (.ref x1)] [] := by first | (simp [entryFrame, mkF, argsToLocals, Value.category]; done) | rfl
def QswE (Z : State) (s_ : Addr) (b : Addr) (z : Int32) (t : Addr) (kt : ClassId) (N : Int32) (vs : List Value) (cn : Int32) (h0 : Heap) (n0 : Nat) (v : Option Value) (h : Heap) (L : List Loc) : Prop := ∃ (t2_ : Addr) (k2_ : ClassId), v = none ∧ Fr n0 L ∧ Keep h0 h [s_] ∧ h0.size ≤ t2_ ∧ Exa Z h s_ "java/lang/String" ∧ Fld Z h s_ "java/lang/String" "coder" "B" (.int 0) ∧ Fld Z h s_ "java/lang/String" "value" "[B" (.ref t2_) ∧ Arv Z h t2_ k2_ .byte cn (vs.take cn.toNatClampNeg) (.int 0)
set_option maxRecDepth 65536 in
set_option maxHeartbeats 40000000 in
theorem swE (l : Launch) (Z : State) (a0 : Array Value) (hw : ∀ d ∈ tables_1, d.before a0 Z = true) (ws : List Jvm.Cond) (s_ : Addr) (b : Addr) (z : Int32) (t : Addr) (kt : ClassId) (N : Int32) (vs : List Value) (cn : Int32) (h0 : Heap) (n0 : Nat) (O : Old Z n0 h0) (S_String_COMPACT_STRINGS : Sta Z Z.heap "java/lang/String" "COMPACT_STRINGS" "Z" (.int z)) (hz : ¬ (z = (0 : Int32))) (E_b : Exa Z h0 b "java/lang/StringBuilder") (F_b_ASB_value : Fld Z h0 b "java/lang/AbstractStringBuilder" "value" "[B" (.ref t)) (F_b_ASB_coder : Fld Z h0 b "java/lang/AbstractStringBuilder" "coder" "B" (.int 0)) (F_b_ASB_count : Fld Z h0 b "java/lang/AbstractStringBuilder" "count" "I" (.int cn)) (V_t : Arv Z h0 t kt .byte N vs (.int 0)) (E_t : Exa Z h0 t "[B") (hn0 : ¬ cn < 0) (hvl : cn.toNatClampNeg ≤ vs.length) (hnN : cn.toNatClampNeg ≤ N.toNatClampNeg) (hcap : cn.toNatClampNeg ≤ 9) (heq : cn = N) (htk : vs.take cn.toNatClampNeg = vs) (E_s_ : Exa Z h0 s_ "java/lang/String") (F_s__String_value : Fld Z h0 s_ "java/lang/String" "value" "[B" .null) (F_s__String_coder : Fld Z h0 s_ "java/lang/String" "coder" "B" (.int 0)) (g_s : n0 ≤ s_) (nsb : s_ ≠ b) (nst : s_ ≠ t) :
    MetFree l (⟨"java/lang/String", "<init>", "(Ljava/lang/StringBuilder;)V"⟩ : MethodName) (head1 (Jvm.Cond.code (⟨"java/lang/String", "<init>", "(Ljava/lang/StringBuilder;)V"⟩ : MethodName) jdk_42_method_53_code 2 none :: ws) ({ frames := 3, cells := 1, slots := 9, locals := 45 } : Room)) (fun a' U' => a' = #[(.ref s_), (.ref b)] ∧ Z.Warmed39 U'.vm ∧ U'.heap = h0) (fun _ _ _ _ _ => True) (fun _ U' o' W' => ∃ v' L', o' = .returned v' ∧ QswE Z s_ b z t kt N vs cn h0 n0 v' W'.heap L' ∧ FrameEnd U' o' W' L' ({ frames := 3, cells := 1, slots := 9, locals := 45 } : Room).cells ({ frames := 3, cells := 1, slots := 9, locals := 45 } : Room).slots) := by
  refine MetFree.of_bodySF (plainFor_of_name pn_5) hisR ?_
  intro p e s m args below meth c s₁ Bd hml0 hP hK
  obtain ⟨rfl, hZ, hh⟩ := hP
  have hx := Bd.exec
  have hby := Bd.bytes
  have hml : c.maxLocals = 2 := hml0
  have hown : s.vm.findClass "java/lang/String" = some m.cls := findClass_of_methodNamed Bd.named
  have hnm := (name_of_methodNamed Bd.named Bd.method).1
  have X0 : Stand p l e ({ frames := 3, cells := 1, slots := 9, locals := 45 } : Room) s m #[(.ref s_), (.ref b)] below meth c s₁ [] 0 0 := Stand.of_body Bd
  have e0 : s₁.heap = h0 := by rw [← hh, Bd.state]; rfl
  have N0 := Fr.nil n0
  have K0 := Keep.refl h0 [s_]
  refine own_start (ef_swE m s_ b) (Q := fun o' t' => ∃ v' L', o' = .returned v' ∧ QswE Z s_ b z t kt N vs cn h0 n0 v' t'.heap L' ∧ FrameEnd s o' t' L' ({ frames := 3, cells := 1, slots := 9, locals := 45 } : Room).cells ({ frames := 3, cells := 1, slots := 9, locals := 45 } : Room).slots) ?_
  show own_Fin p e below (s₁.setTop (mkF m 0 #[.val (.ref s_), .val (.ref b)] [])) _
  refine own_go (fun _ k => XS.aloadN X0.here hx rfl (hb hby d6_0) rfl rfl (XS.aloadN X0.here hx rfl (hb hby d6_1) rfl rfl (XS.aconstNull X0.here hx rfl (hb hby d6_2) k))) ?_
  show own_Fin p e below (s₁.setTop (mkF m 3 #[.val (.ref s_), .val (.ref b)] [.null, (.ref b), (.ref s_)])) _
  obtain ⟨_, _, ⟨T196, L196, k196, n196⟩, -, X196, ⟨Lc196, hQ196, l196, y196, z196⟩, st196⟩ := X0.specialBack hx (y := (⟨"java/lang/String", "<init>", "(Ljava/lang/AbstractStringBuilder;Ljava/lang/Void;)V"⟩ : MethodName)) rfl hown (mvT hZ (ow hw 37)) (mvT hZ (ow hw 38)) (mvT hZ (ow hw 39)) (by decide) (backOf (W := 0) (svE l Z a0 hw [] s_ b z t kt N vs cn h0 n0 O S_String_COMPACT_STRINGS hz E_b F_b_ASB_value F_b_ASB_coder F_b_ASB_count V_t E_t hn0 hvl hnN hcap heq htk E_s_ F_s__String_value F_s__String_coder g_s nsb nst) hZ (ow hw 39) (ow hw 21) (by decide) (by decide)) (g := (mkF m 3 #[.val (.ref s_), .val (.ref b)] [.null, (.ref b), (.ref s_)])) rfl (by rw [hml]; rfl) (Steps.refl _) (a := s_) (argsL := [(.ref b), .null]) (rest := []) (lenOf pd_12 rfl) rfl (by show 2 * 0 + _ ≤ _; exact Nat.le_of_eq rfl) (hb hby d6_3) (fun _ _ => ⟨rfl, e0, (by decide : 0 + 1 ≤ _), (by decide : 0 + 9 ≤ _)⟩)
  dsimp only [Pt.U, Pt.locs, Pt.cells, Pt.slots] at X196 l196 y196 z196 st196 hQ196
  subst l196 y196 z196
  obtain ⟨t2_197, k2_198, rfl, N196q, Kq196, P196_0, P196_1, P196_2, P196_3, P196_4⟩ := hQ196
  refine own_go (fun _ k => st196.trans k) ?_
  have N196 := Fr.app N0 N196q
  have ne_b_t2_197 : b ≠ t2_197 := Nat.ne_of_lt (Nat.lt_of_lt_of_le E_b.lt P196_0)
  have ne_t_t2_197 : t ≠ t2_197 := Nat.ne_of_lt (Nat.lt_of_lt_of_le V_t.lt P196_0)
  have ne_s__t2_197 : s_ ≠ t2_197 := Nat.ne_of_lt (Nat.lt_of_lt_of_le E_s_.lt P196_0)
  have g_t2_197 : n0 ≤ t2_197 := Nat.le_trans (own_osz O) P196_0
  have sz_t2_197 : h0.size ≤ t2_197 := Nat.le_trans K0.1 P196_0
  have E_b := E_b.keep Kq196
  have F_b_ASB_value := F_b_ASB_value.keep Kq196 (ninS (Ne.symm nsb) nin0)
  have F_b_ASB_coder := F_b_ASB_coder.keep Kq196 (ninS (Ne.symm nsb) nin0)
  have F_b_ASB_count := F_b_ASB_count.keep Kq196 (ninS (Ne.symm nsb) nin0)
  have V_t := V_t.keep Kq196 (ninS (Ne.symm nst) nin0)
  have E_t := E_t.keep Kq196
  have E_s_ := E_s_.keep Kq196
  clear F_s__String_value
  clear F_s__String_coder
  have O := O.keep Kq196 (allS g_s all0)
  have K199 := K0.trans Kq196 (allS (Or.inl (List.mem_of_getElem? (i := 0) rfl)) all0)
  have E_s_ := P196_1
  have F_s__String_coder := P196_2
  have F_s__String_value := P196_3
  have V_t2_197 := P196_4
  show own_Fin p e below (T196.setTop (mkF m 6 #[.val (.ref s_), .val (.ref b)] [])) _
  obtain ⟨fs, hr, hrun, hended, hW, hsame⟩ := X196.leave (v := none) (fun _ => rfl)
  refine ⟨_, _, ?_, hrun, hended, _, _, rfl, ?_, ⟨_, rfl⟩, hW, hsame.mono (by decide) (by decide)⟩
  ·exact X196.returnOut hx Bd.returns (hb hby d6_6) hr
  ·show QswE Z s_ b z t kt N vs cn h0 n0 _ T196.heap _
   exact ⟨t2_197, k2_198, rfl, N196, K199, sz_t2_197, E_s_, F_s__String_coder, F_s__String_value, V_t2_197⟩
theorem ef_tsE (m : MethodId) (x0 : Addr) : entryFrame m #[(.ref x0)] 1 = mkF m 0 #[.val (.ref x0)] [] := by first | (simp [entryFrame, mkF, argsToLocals, Value.category]; done) | rfl
def QtsE (Z : State) (b : Addr) (z : Int32) (t : Addr) (kt : ClassId) (N : Int32) (vs : List Value) (cn : Int32) (h0 : Heap) (n0 : Nat) (v : Option Value) (h : Heap) (L : List Loc) : Prop := ∃ (s_ : Addr) (t2_ : Addr) (k2_ : ClassId), v = some (.ref s_) ∧ Fr n0 L ∧ Keep h0 h [] ∧ h0.size ≤ s_ ∧ s_ ≠ t2_ ∧ h0.size ≤ t2_ ∧ Exa Z h s_ "java/lang/String" ∧ Fld Z h s_ "java/lang/String" "coder" "B" (.int 0) ∧ Fld Z h s_ "java/lang/String" "value" "[B" (.ref t2_) ∧ Arv Z h t2_ k2_ .byte cn (vs.take cn.toNatClampNeg) (.int 0)
set_option maxRecDepth 65536 in
set_option maxHeartbeats 40000000 in
theorem tsE (l : Launch) (Z : State) (a0 : Array Value) (hw : ∀ d ∈ tables_1, d.before a0 Z = true) (ws : List Jvm.Cond) (b : Addr) (z : Int32) (t : Addr) (kt : ClassId) (N : Int32) (vs : List Value) (cn : Int32) (h0 : Heap) (n0 : Nat) (O : Old Z n0 h0) (S_String_COMPACT_STRINGS : Sta Z Z.heap "java/lang/String" "COMPACT_STRINGS" "Z" (.int z)) (hz : ¬ (z = (0 : Int32))) (E_b : Exa Z h0 b "java/lang/StringBuilder") (F_b_ASB_value : Fld Z h0 b "java/lang/AbstractStringBuilder" "value" "[B" (.ref t)) (F_b_ASB_coder : Fld Z h0 b "java/lang/AbstractStringBuilder" "coder" "B" (.int 0)) (F_b_ASB_count : Fld Z h0 b "java/lang/AbstractStringBuilder" "count" "I" (.int cn)) (V_t : Arv Z h0 t kt .byte N vs (.int 0)) (E_t : Exa Z h0 t "[B") (hn0 : ¬ cn < 0) (hvl : cn.toNatClampNeg ≤ vs.length) (hnN : cn.toNatClampNeg ≤ N.toNatClampNeg) (hcap : cn.toNatClampNeg ≤ 9) (heq : cn = N) (htk : vs.take cn.toNatClampNeg = vs) :
    MetFree l (⟨"java/lang/StringBuilder", "toString", "()Ljava/lang/String;"⟩ : MethodName) (head1 (Jvm.Cond.code (⟨"java/lang/StringBuilder", "toString", "()Ljava/lang/String;"⟩ : MethodName) jdk_67_method_42_code 1 (some (.object "java/lang/String")) :: ws) ({ frames := 4, cells := 2, slots := 13, locals := 59 } : Room)) (fun a' U' => a' = #[(.ref b)] ∧ Z.Warmed39 U'.vm ∧ U'.heap = h0) (fun _ _ _ _ _ => True) (fun _ U' o' W' => ∃ v' L', o' = .returned v' ∧ QtsE Z b z t kt N vs cn h0 n0 v' W'.heap L' ∧ FrameEnd U' o' W' L' ({ frames := 4, cells := 2, slots := 13, locals := 59 } : Room).cells ({ frames := 4, cells := 2, slots := 13, locals := 59 } : Room).slots) := by
  refine MetFree.of_bodySF (plainFor_of_name pn_1) hisR ?_
  intro p e s m args below meth c s₁ Bd hml0 hP hK
  obtain ⟨rfl, hZ, hh⟩ := hP
  have hx := Bd.exec
  have hby := Bd.bytes
  have hml : c.maxLocals = 1 := hml0
  have hown : s.vm.findClass "java/lang/StringBuilder" = some m.cls := findClass_of_methodNamed Bd.named
  have hnm := (name_of_methodNamed Bd.named Bd.method).1
  have X0 : Stand p l e ({ frames := 4, cells := 2, slots := 13, locals := 59 } : Room) s m #[(.ref b)] below meth c s₁ [] 0 0 := Stand.of_body Bd
  have e0 : s₁.heap = h0 := by rw [← hh, Bd.state]; rfl
  have N0 := Fr.nil n0
  have K0 := Keep.refl h0 []
  refine own_start (ef_tsE m b) (Q := fun o' t' => ∃ v' L', o' = .returned v' ∧ QtsE Z b z t kt N vs cn h0 n0 v' t'.heap L' ∧ FrameEnd s o' t' L' ({ frames := 4, cells := 2, slots := 13, locals := 59 } : Room).cells ({ frames := 4, cells := 2, slots := 13, locals := 59 } : Room).slots) ?_
  show own_Fin p e below (s₁.setTop (mkF m 0 #[.val (.ref b)] [])) _
  obtain ⟨T201, h201, X201, e201, E201, A201, D201, -, st201⟩ := newO X0 hx hZ hown (ow hw 31) (ow hw 32) (ow hw 21) e0 (g := (mkF m 0 #[.val (.ref b)] [])) rfl (hb hby d5_0) (by decide) (by decide)
  obtain ⟨b201, g201⟩ : ∃ z, z = h0.size := ⟨_, rfl⟩
  rw [← g201] at A201 D201 st201
  refine own_go (fun _ k => st201 _ k) ?_
  have ne_b_b201 : b ≠ b201 := Nat.ne_of_lt (Nat.lt_of_lt_of_le E_b.lt (Nat.le_of_eq g201.symm))
  have ne_t_b201 : t ≠ b201 := Nat.ne_of_lt (Nat.lt_of_lt_of_le V_t.lt (Nat.le_of_eq g201.symm))
  have g_b201 : n0 ≤ b201 := Nat.le_trans (own_osz O) (Nat.le_of_eq g201.symm)
  have sz_b201 : h0.size ≤ b201 := Nat.le_trans K0.1 (Nat.le_of_eq g201.symm)
  have E_b := E_b.ext E201
  have F_b_ASB_value := F_b_ASB_value.ext E201
  have F_b_ASB_coder := F_b_ASB_coder.ext E201
  have F_b_ASB_count := F_b_ASB_count.ext E201
  have V_t := V_t.ext E201
  have E_t := E_t.ext E201
  have O := O.ext E201
  have K202 := K0.ext E201
  have E_b201 := A201
  have F_b201_String_coder : Fld Z h201 b201 "java/lang/String" "coder" "B" (.int 0) := D201 (Or.inr (ow hw 63)) (ty := .byte) (by decide)
  have F_b201_String_value : Fld Z h201 b201 "java/lang/String" "value" "[B" .null := D201 (Or.inr (ow hw 78)) (ty := (.array .byte)) (by decide)
  show own_Fin p e below (T201.setTop (mkF m 3 #[.val (.ref b)] [(.ref b201)])) _
  refine own_go (fun _ k => XS.dup X201.here hx rfl (hb hby d5_3) rfl rfl (XS.aloadN X201.here hx rfl (hb hby d5_4) rfl rfl k)) ?_
  show own_Fin p e below (T201.setTop (mkF m 5 #[.val (.ref b)] [(.ref b), (.ref b201), (.ref b201)])) _
  obtain ⟨_, _, ⟨T203, L203, k203, n203⟩, -, X203, ⟨Lc203, hQ203, l203, y203, z203⟩, st203⟩ := X201.specialBack hx (y := (⟨"java/lang/String", "<init>", "(Ljava/lang/StringBuilder;)V"⟩ : MethodName)) rfl hown (mvT hZ (ow hw 33)) (mvT hZ (ow hw 34)) (mvT hZ (ow hw 36)) (by decide) (backOf (W := 1) (swE l Z a0 hw [] b201 b z t kt N vs cn h201 n0 O S_String_COMPACT_STRINGS hz E_b F_b_ASB_value F_b_ASB_coder F_b_ASB_count V_t E_t hn0 hvl hnN hcap heq htk E_b201 F_b201_String_value F_b201_String_coder g_b201 (Ne.symm ne_b_b201) (Ne.symm ne_t_b201)) hZ (ow hw 36) (ow hw 21) (by decide) (by decide)) (g := (mkF m 5 #[.val (.ref b)] [(.ref b), (.ref b201), (.ref b201)])) rfl (by rw [hml]; rfl) (Steps.refl _) (a := b201) (argsL := [(.ref b)]) (rest := [(.ref b201)]) (lenOf pd_13 rfl) rfl (by show 2 * 0 + _ ≤ _; exact Nat.le_of_eq rfl) (hb hby d5_5) (fun _ _ => ⟨rfl, e201, (by decide : 1 + 1 ≤ _), (by decide : 4 + 9 ≤ _)⟩)
  dsimp only [Pt.U, Pt.locs, Pt.cells, Pt.slots] at X203 l203 y203 z203 st203 hQ203
  subst l203 y203 z203
  obtain ⟨t2_204, k2_205, rfl, N203q, Kq203, P203_0, P203_1, P203_2, P203_3, P203_4⟩ := hQ203
  refine own_go (fun _ k => st203.trans k) ?_
  have N203 := Fr.app N0 N203q
  have ne_b_t2_204 : b ≠ t2_204 := Nat.ne_of_lt (Nat.lt_of_lt_of_le E_b.lt P203_0)
  have ne_t_t2_204 : t ≠ t2_204 := Nat.ne_of_lt (Nat.lt_of_lt_of_le V_t.lt P203_0)
  have ne_b201_t2_204 : b201 ≠ t2_204 := Nat.ne_of_lt (Nat.lt_of_lt_of_le E_b201.lt P203_0)
  have g_t2_204 : n0 ≤ t2_204 := Nat.le_trans (own_osz O) P203_0
  have sz_t2_204 : h0.size ≤ t2_204 := Nat.le_trans K202.1 P203_0
  have E_b := E_b.keep Kq203
  have F_b_ASB_value := F_b_ASB_value.keep Kq203 (ninS ne_b_b201 nin0)
  have F_b_ASB_coder := F_b_ASB_coder.keep Kq203 (ninS ne_b_b201 nin0)
  have F_b_ASB_count := F_b_ASB_count.keep Kq203 (ninS ne_b_b201 nin0)
  have V_t := V_t.keep Kq203 (ninS ne_t_b201 nin0)
  have E_t := E_t.keep Kq203
  have E_b201 := E_b201.keep Kq203
  clear F_b201_String_coder
  clear F_b201_String_value
  have O := O.keep Kq203 (allS g_b201 all0)
  have K206 := K202.trans Kq203 (allS (Or.inr sz_b201) all0)
  have E_b201 := P203_1
  have F_b201_String_coder := P203_2
  have F_b201_String_value := P203_3
  have V_t2_204 := P203_4
  show own_Fin p e below (T203.setTop (mkF m 8 #[.val (.ref b)] [(.ref b201)])) _
  obtain ⟨fs, hr, hrun, hended, hW, hsame⟩ := X203.leave (v := some (.ref b201)) (fun h => by rw [Bd.returns] at h; cases h)
  refine ⟨_, _, ?_, hrun, hended, _, _, rfl, ?_, ⟨_, rfl⟩, hW, hsame.mono (by decide) (by decide)⟩
  ·exact X203.areturnOut hx rfl Bd.returns rfl (hb hby d5_8) hr
  ·show QtsE Z b z t kt N vs cn h0 n0 _ T203.heap _
   exact ⟨b201, t2_204, k2_205, rfl, N203, K206, sz_b201, ne_b201_t2_204, sz_t2_204, E_b201, F_b201_String_coder, F_b201_String_value, V_t2_204⟩
abbrev own_unres (b : Int32) : Prop := (¬ b < (97 : Int32) ∧ ¬ (122 : Int32) < b) ∨ (¬ b < (65 : Int32) ∧ ¬ (90 : Int32) < b) ∨ (¬ b < (48 : Int32) ∧ ¬ (57 : Int32) < b) ∨ b = (45 : Int32) ∨ b = (46 : Int32) ∨ b = (95 : Int32) ∨ b = (126 : Int32)
def own_hl : List Int32 := [48, 49, 50, 51, 52, 53, 54, 55, 56, 57, 65, 66, 67, 68, 69, 70]
def own_hv (i : Int32) : Int32 := own_hl.getD i.toNatClampNeg 0
theorem own_hget (i : Int32) : (own_hl.map Value.int).getD i.toNatClampNeg (.int 0) = .int (own_hv i) := by
  unfold own_hv
  simp only [List.getD_eq_getElem?_getD, List.getElem?_map]
  cases own_hl[i.toNatClampNeg]? <;> rfl
theorem own_hv255 (i : Int32) : ¬ ((255 : Int32) < own_hv i) := by
  unfold own_hv
  have h : ∀ l : List Int32, (∀ c ∈ l, ¬ (255 : Int32) < c) → ∀ k, ¬ (255 : Int32) < l.getD k 0 := fun l hl k => by
    rw [List.getD_eq_getElem?_getD]
    cases q : l[k]? with
    | none => decide
    | some c => exact hl c (List.mem_of_getElem? q)
  exact h _ (by decide) _
theorem own_i2c {b : Int32} (h0 : 0 ≤ b.toInt) (h1 : b.toInt < 65536) : b.toUInt32.toUInt16.toUInt32.toInt32 = b := by
  have q := c_i2c b
  rw [← Int32.toInt_inj]; omega
theorem own_m255 (x : Int32) : 0 ≤ (x &&& (255 : Int32)).toInt ∧ (x &&& (255 : Int32)).toInt < 256 := by
  have h1 := c_mask x 255 8 (by decide) (by decide); omega
theorem own_c255 (x : Int32) : ¬ ((255 : Int32) < ((x &&& (255 : Int32)).toUInt32.toUInt16.toUInt32.toInt32)) := by
  have h := own_m255 x
  rw [own_i2c (by omega) (by omega), Int32.lt_iff_toInt_lt]
  have e : (255 : Int32).toInt = 255 := by decide
  omega
theorem own_in16 (x : Int32) : ¬ (((x &&& (255 : Int32)) >>> ((4 : Int32) &&& 31)) < 0) ∧ ((x &&& (255 : Int32)) >>> ((4 : Int32) &&& 31)) < (16 : Int32) := by
  have h := own_m255 x
  have h2 := c_ishr (x &&& 255) 4 4 (by decide)
  rw [Int32.lt_iff_toInt_lt, Int32.lt_iff_toInt_lt]
  have e0 : (0 : Int32).toInt = 0 := by decide
  have e1 : (16 : Int32).toInt = 16 := by decide
  omega
theorem own_lo16 (x : Int32) : ¬ (((x &&& (255 : Int32)) &&& (15 : Int32)) < 0) ∧ ((x &&& (255 : Int32)) &&& (15 : Int32)) < (16 : Int32) := by
  have h2 := c_mask (x &&& 255) 15 4 (by decide) (by decide)
  rw [Int32.lt_iff_toInt_lt, Int32.lt_iff_toInt_lt]
  have e0 : (0 : Int32).toInt = 0 := by decide
  have e1 : (16 : Int32).toInt = 16 := by decide
  omega
def own_enc (x : Int32) : List Value := if own_unres (x &&& (255 : Int32)) then [.int (nar .byte (((x &&& (255 : Int32)).toUInt32.toUInt16.toUInt32.toInt32).toInt8.toInt32))] else [.int (37 : Int32), .int (nar .byte ((own_hv ((x &&& (255 : Int32)) >>> ((4 : Int32) &&& 31))).toInt8.toInt32)), .int (nar .byte ((own_hv ((x &&& (255 : Int32)) &&& (15 : Int32))).toInt8.toInt32))]
theorem own_encT {x : Int32} (h : own_unres (x &&& (255 : Int32))) : own_enc x = [.int (nar .byte (((x &&& (255 : Int32)).toUInt32.toUInt16.toUInt32.toInt32).toInt8.toInt32))] := if_pos h
theorem own_encF {x : Int32} (h : ¬ own_unres (x &&& (255 : Int32))) : own_enc x = [.int (37 : Int32), .int (nar .byte ((own_hv ((x &&& (255 : Int32)) >>> ((4 : Int32) &&& 31))).toInt8.toInt32)), .int (nar .byte ((own_hv ((x &&& (255 : Int32)) &&& (15 : Int32))).toInt8.toInt32))] := if_neg h
theorem own_enb (x : Int32) : (own_enc x).length ≤ 3 := by unfold own_enc; split <;> simp
theorem own_lb0 : ([] : List Value).length ≤ 0 := Nat.le_refl _
theorem own_lb1 (x : Int32) : (own_enc x).length ≤ 3 := own_enb x
theorem own_lb2 (x y : Int32) : (own_enc x ++ own_enc y).length ≤ 6 := by
  have q1 := own_enb x
  have q2 := own_enb y
  rw [List.length_append]; omega
theorem own_lb3 (x y z : Int32) : (own_enc x ++ own_enc y ++ own_enc z).length ≤ 9 := by
  have q1 := own_lb2 x y
  have q2 := own_enb z
  rw [List.length_append]; omega
theorem own_ofi {cl : Int32} {k m : Nat} (hc : cl = Int32.ofNat k) (h : k ≤ m) (hm : m ≤ 9) : cl.toInt = k := by
  rw [hc]; exact Int32.toInt_ofNat_of_lt (by omega)
theorem own_ofn {cl : Int32} {k m : Nat} (hc : cl = Int32.ofNat k) (h : k ≤ m) (hm : m ≤ 9) : cl.toNatClampNeg = k := by
  have h1 := own_ofi hc h hm
  have h2 := own_cn (N := cl) (by omega)
  omega
theorem own_h8a {cl : Int32} {k m : Nat} (hc : cl = Int32.ofNat k) (h : k ≤ m) (hm : m ≤ 6 := by decide) : cl.toInt ≤ 8 := by
  have := own_ofi hc h (by omega); omega
theorem own_h8b {cl : Int32} {k m : Nat} (hc : cl = Int32.ofNat k) (h : k ≤ m) (hm : m ≤ 6 := by decide) : (cl + (1 : Int32)).toInt ≤ 8 := by
  have := own_ofi hc h (by omega)
  have q := c_iadd cl 1
  have rq := rng32 (cl + 1)
  have e1 : (1 : Int32).toInt = 1 := by decide
  omega
theorem own_h8c {cl : Int32} {k m : Nat} (hc : cl = Int32.ofNat k) (h : k ≤ m) (hm : m ≤ 6 := by decide) : ((cl + (1 : Int32)) + (1 : Int32)).toInt ≤ 8 := by
  have := own_ofi hc h (by omega)
  have q := c_iadd cl 1
  have rq := rng32 (cl + 1)
  have q2 := c_iadd (cl + 1) 1
  have rq2 := rng32 ((cl + 1) + 1)
  have e1 : (1 : Int32).toInt = 1 := by decide
  omega
theorem own_jn1T {x cl c1 : Int32} {pre v0 v1 : List Value} (hU : own_unres (x &&& (255 : Int32))) (h0 : v0.take cl.toNatClampNeg = pre) (h1 : v1.take c1.toNatClampNeg = v0.take cl.toNatClampNeg ++ [.int (nar .byte (((x &&& (255 : Int32)).toUInt32.toUInt16.toUInt32.toInt32).toInt8.toInt32))]) : v1.take c1.toNatClampNeg = pre ++ own_enc x := by
  rw [h1, h0, own_encT hU]
theorem own_jn0T {x cl c1 : Int32} {v0 v1 : List Value} (hU : own_unres (x &&& (255 : Int32))) (h0 : v0.take cl.toNatClampNeg = []) (h1 : v1.take c1.toNatClampNeg = v0.take cl.toNatClampNeg ++ [.int (nar .byte (((x &&& (255 : Int32)).toUInt32.toUInt16.toUInt32.toInt32).toInt8.toInt32))]) : v1.take c1.toNatClampNeg = own_enc x := by
  rw [own_jn1T hU h0 h1]; rfl
theorem own_jn1F {x cl c1 c2 c3 : Int32} {pre v0 v1 v2 v3 : List Value} (hU : ¬ own_unres (x &&& (255 : Int32))) (h0 : v0.take cl.toNatClampNeg = pre) (h1 : v1.take c1.toNatClampNeg = v0.take cl.toNatClampNeg ++ [.int (nar .byte ((37 : Int32).toInt8.toInt32))]) (h2 : v2.take c2.toNatClampNeg = v1.take c1.toNatClampNeg ++ [.int (nar .byte ((own_hv ((x &&& (255 : Int32)) >>> ((4 : Int32) &&& 31))).toInt8.toInt32))]) (h3 : v3.take c3.toNatClampNeg = v2.take c2.toNatClampNeg ++ [.int (nar .byte ((own_hv ((x &&& (255 : Int32)) &&& (15 : Int32))).toInt8.toInt32))]) : v3.take c3.toNatClampNeg = pre ++ own_enc x := by
  rw [h3, h2, h1, h0, own_encF hU, List.append_assoc, List.append_assoc]; rfl
theorem own_jn0F {x cl c1 c2 c3 : Int32} {v0 v1 v2 v3 : List Value} (hU : ¬ own_unres (x &&& (255 : Int32))) (h0 : v0.take cl.toNatClampNeg = []) (h1 : v1.take c1.toNatClampNeg = v0.take cl.toNatClampNeg ++ [.int (nar .byte ((37 : Int32).toInt8.toInt32))]) (h2 : v2.take c2.toNatClampNeg = v1.take c1.toNatClampNeg ++ [.int (nar .byte ((own_hv ((x &&& (255 : Int32)) >>> ((4 : Int32) &&& 31))).toInt8.toInt32))]) (h3 : v3.take c3.toNatClampNeg = v2.take c2.toNatClampNeg ++ [.int (nar .byte ((own_hv ((x &&& (255 : Int32)) &&& (15 : Int32))).toInt8.toInt32))]) : v3.take c3.toNatClampNeg = own_enc x := by
  rw [own_jn1F hU h0 h1 h2 h3]; rfl
theorem own_jc1T {x cl : Int32} {pre : List Value} {m : Nat} (hU : own_unres (x &&& (255 : Int32))) (hc : cl = Int32.ofNat pre.length) (h : pre.length ≤ m) (hm : m ≤ 6 := by decide) : cl + (1 : Int32) = Int32.ofNat (pre ++ own_enc x).length := by
  rw [own_encT hU, List.length_append]
  have := own_ofi hc h (by omega)
  have q := c_iadd cl 1
  have rq := rng32 (cl + 1)
  have e1 : (1 : Int32).toInt = 1 := by decide
  rw [← Int32.toInt_inj, Int32.toInt_ofNat_of_lt (by simp only [List.length_cons, List.length_nil]; omega)]; simp only [List.length_cons, List.length_nil]; omega
theorem own_jc0T {x cl : Int32} {m : Nat} (hU : own_unres (x &&& (255 : Int32))) (hc : cl = Int32.ofNat ([] : List Value).length) (h : ([] : List Value).length ≤ m) (hm : m ≤ 6 := by decide) : cl + (1 : Int32) = Int32.ofNat (own_enc x).length := own_jc1T hU hc h hm
theorem own_jc1F {x cl : Int32} {pre : List Value} {m : Nat} (hU : ¬ own_unres (x &&& (255 : Int32))) (hc : cl = Int32.ofNat pre.length) (h : pre.length ≤ m) (hm : m ≤ 6 := by decide) : ((cl + (1 : Int32)) + (1 : Int32)) + (1 : Int32) = Int32.ofNat (pre ++ own_enc x).length := by
  rw [own_encF hU, List.length_append]
  have := own_ofi hc h (by omega)
  have q := c_iadd cl 1
  have rq := rng32 (cl + 1)
  have q2 := c_iadd (cl + 1) 1
  have rq2 := rng32 ((cl + 1) + 1)
  have q3 := c_iadd (cl + 1 + 1) 1
  have rq3 := rng32 ((cl + 1 + 1) + 1)
  have e1 : (1 : Int32).toInt = 1 := by decide
  rw [← Int32.toInt_inj, Int32.toInt_ofNat_of_lt (by simp only [List.length_cons, List.length_nil]; omega)]; simp only [List.length_cons, List.length_nil]; omega
theorem own_jc0F {x cl : Int32} {m : Nat} (hU : ¬ own_unres (x &&& (255 : Int32))) (hc : cl = Int32.ofNat ([] : List Value).length) (h : ([] : List Value).length ≤ m) (hm : m ≤ 6 := by decide) : ((cl + (1 : Int32)) + (1 : Int32)) + (1 : Int32) = Int32.ofNat (own_enc x).length := own_jc1F hU hc h hm
theorem own_t1 {N cn : Int32} {vs : List Value} (h : own_ok N vs cn) : cn.toNatClampNeg ≤ vs.length := by
  obtain ⟨a, b, c, d⟩ := h
  have := own_cn a; omega
theorem own_t2 {N cn : Int32} {vs : List Value} (h : own_ok N vs cn) : cn.toNatClampNeg ≤ N.toNatClampNeg := by
  obtain ⟨a, b, c, d⟩ := h
  have := own_cn a
  have := own_cn (N := N) (by omega)
  omega
theorem own_t3 {cl : Int32} {k m : Nat} (hc : cl = Int32.ofNat k) (h : k ≤ m) (hm : m ≤ 9 := by decide) : cl.toNatClampNeg ≤ 9 := by
  rw [own_ofn hc h hm]; omega
theorem own_t4 {N cn : Int32} {vs : List Value} (h : own_ok N vs cn) (he : cn = N) : vs.take cn.toNatClampNeg = vs := by
  obtain ⟨a, b, c, d⟩ := h
  have := own_cn a
  subst he
  exact List.take_of_length_le (by omega)
theorem d1_0 : decode prog_29_method_2_code 0 = .ok (.new 7, 3) := by decide +kernel
theorem d1_3 : decode prog_29_method_2_code 3 = .ok (.dup, 1) := by decide +kernel
theorem d1_4 : decode prog_29_method_2_code 4 = .ok (.aload_n 0, 1) := by decide +kernel
theorem d1_5 : decode prog_29_method_2_code 5 = .ok (.arraylength, 1) := by decide +kernel
theorem d1_6 : decode prog_29_method_2_code 6 = .ok (.invokespecial 9, 3) := by decide +kernel
theorem d1_9 : decode prog_29_method_2_code 9 = .ok (.astore_n 1, 1) := by decide +kernel
theorem d1_10 : decode prog_29_method_2_code 10 = .ok (.aload_n 0, 1) := by decide +kernel
theorem d1_11 : decode prog_29_method_2_code 11 = .ok (.astore_n 2, 1) := by decide +kernel
theorem d1_12 : decode prog_29_method_2_code 12 = .ok (.aload_n 2, 1) := by decide +kernel
theorem d1_13 : decode prog_29_method_2_code 13 = .ok (.arraylength, 1) := by decide +kernel
theorem d1_14 : decode prog_29_method_2_code 14 = .ok (.istore_n 3, 1) := by decide +kernel
theorem d1_15 : decode prog_29_method_2_code 15 = .ok (.iconst 0, 1) := by decide +kernel
theorem d1_16 : decode prog_29_method_2_code 16 = .ok (.istore 4, 2) := by decide +kernel
theorem d1_18 : decode prog_29_method_2_code 18 = .ok (.iload 4, 2) := by decide +kernel
theorem d1_20 : decode prog_29_method_2_code 20 = .ok (.iload_n 3, 1) := by decide +kernel
theorem d1_21 : decode prog_29_method_2_code 21 = .ok (.if_icmp .ge 146, 3) := by decide +kernel
theorem d1_167 : decode prog_29_method_2_code 167 = .ok (.aload_n 1, 1) := by decide +kernel
theorem d1_168 : decode prog_29_method_2_code 168 = .ok (.invokevirtual 22, 3) := by decide +kernel
theorem pd_14 : parseMethodDescriptor "()Ljava/lang/String;" = some ⟨[], some (.object "java/lang/String")⟩ := by decide +kernel
theorem d1_171 : decode prog_29_method_2_code 171 = .ok (.areturn, 1) := by decide +kernel
theorem pn_6 : plainName "com/example/espalier/espalier/Uris" = true := by first | (simp [plainName, overriddenIn]; done) | decide +kernel
theorem ef_en0 (m : MethodId) (x0 : Addr) : entryFrame m #[(.ref x0)] 8 = mkF m 0 #[.val (.ref x0), .unset, .unset, .unset, .unset, .unset, .unset, .unset] [] := by first | (simp [entryFrame, mkF, argsToLocals, Value.category]; done) | rfl
def Qen0 (Z : State) (a : Addr) (z : Int32) (ka : ClassId) (hxa : Addr) (kh : ClassId) (h0 : Heap) (n0 : Nat) (v : Option Value) (h : Heap) (L : List Loc) : Prop := ∃ (s_ : Addr) (t2_ : Addr) (k2_ : ClassId), v = some (.ref s_) ∧ Fr n0 L ∧ Keep h0 h [] ∧ h0.size ≤ s_ ∧ h0.size ≤ t2_ ∧ Exa Z h s_ "java/lang/String" ∧ Fld Z h s_ "java/lang/String" "coder" "B" (.int 0) ∧ Fld Z h s_ "java/lang/String" "value" "[B" (.ref t2_) ∧ Arv Z h t2_ k2_ .byte (Int32.ofNat ([] : List Value).length) ([] : List Value) (.int 0)
set_option maxRecDepth 65536 in
set_option maxHeartbeats 40000000 in
theorem en0 (l : Launch) (Z : State) (a0 : Array Value) (hw : ∀ d ∈ tables_1, d.before a0 Z = true) (ws : List Jvm.Cond) (a : Addr) (z : Int32) (ka : ClassId) (hxa : Addr) (kh : ClassId) (h0 : Heap) (n0 : Nat) (O : Old Z n0 h0) (S_String_COMPACT_STRINGS : Sta Z Z.heap "java/lang/String" "COMPACT_STRINGS" "Z" (.int z)) (hz : ¬ (z = (0 : Int32))) (V_a : Arv Z h0 a ka .byte (0 : Int32) [] (.int 0)) (S_Uris_HEX : Sta Z Z.heap "com/example/espalier/espalier/Uris" "HEX" "[C" (.ref hxa)) (V_hxa : Arv Z Z.heap hxa kh .char (16 : Int32) (own_hl.map Value.int) (.int 0)) :
    MetFree l (⟨"com/example/espalier/espalier/Uris", "encode", "([B)Ljava/lang/String;"⟩ : MethodName) (head1 (Jvm.Cond.code (⟨"com/example/espalier/espalier/Uris", "encode", "([B)Ljava/lang/String;"⟩ : MethodName) prog_29_method_2_code 8 (some (.object "java/lang/String")) :: ws) ({ frames := 5, cells := 4, slots := 17, locals := 71 } : Room)) (fun a' U' => a' = #[(.ref a)] ∧ Z.Warmed39 U'.vm ∧ U'.heap = h0) (fun _ _ _ _ _ => True) (fun _ U' o' W' => ∃ v' L', o' = .returned v' ∧ Qen0 Z a z ka hxa kh h0 n0 v' W'.heap L' ∧ FrameEnd U' o' W' L' ({ frames := 5, cells := 4, slots := 17, locals := 71 } : Room).cells ({ frames := 5, cells := 4, slots := 17, locals := 71 } : Room).slots) := by
  refine MetFree.of_bodySF (plainFor_of_name pn_6) hisR ?_
  intro p e s m args below meth c s₁ Bd hml0 hP hK
  obtain ⟨rfl, hZ, hh⟩ := hP
  have hx := Bd.exec
  have hby := Bd.bytes
  have hml : c.maxLocals = 8 := hml0
  have hown : s.vm.findClass "com/example/espalier/espalier/Uris" = some m.cls := findClass_of_methodNamed Bd.named
  have hnm := (name_of_methodNamed Bd.named Bd.method).1
  have X0 : Stand p l e ({ frames := 5, cells := 4, slots := 17, locals := 71 } : Room) s m #[(.ref a)] below meth c s₁ [] 0 0 := Stand.of_body Bd
  have e0 : s₁.heap = h0 := by rw [← hh, Bd.state]; rfl
  have N0 := Fr.nil n0
  have K0 := Keep.refl h0 []
  refine own_start (ef_en0 m a) (Q := fun o' t' => ∃ v' L', o' = .returned v' ∧ Qen0 Z a z ka hxa kh h0 n0 v' t'.heap L' ∧ FrameEnd s o' t' L' ({ frames := 5, cells := 4, slots := 17, locals := 71 } : Room).cells ({ frames := 5, cells := 4, slots := 17, locals := 71 } : Room).slots) ?_
  show own_Fin p e below (s₁.setTop (mkF m 0 #[.val (.ref a), .unset, .unset, .unset, .unset, .unset, .unset, .unset] [])) _
  obtain ⟨T208, h208, X208, e208, E208, A208, D208, -, st208⟩ := newO X0 hx hZ hown (ow hw 5) (ow hw 6) (ow hw 7) e0 (g := (mkF m 0 #[.val (.ref a), .unset, .unset, .unset, .unset, .unset, .unset, .unset] [])) rfl (hb hby d1_0) (by decide) (by decide)
  obtain ⟨b208, g208⟩ : ∃ z, z = h0.size := ⟨_, rfl⟩
  rw [← g208] at A208 D208 st208
  refine own_go (fun _ k => st208 _ k) ?_
  have ne_a_b208 : a ≠ b208 := Nat.ne_of_lt (Nat.lt_of_lt_of_le V_a.lt (Nat.le_of_eq g208.symm))
  have g_b208 : n0 ≤ b208 := Nat.le_trans (own_osz O) (Nat.le_of_eq g208.symm)
  have sz_b208 : h0.size ≤ b208 := Nat.le_trans K0.1 (Nat.le_of_eq g208.symm)
  have V_a := V_a.ext E208
  have O := O.ext E208
  have K209 := K0.ext E208
  have E_b208 := A208
  have F_b208_ASB_value : Fld Z h208 b208 "java/lang/AbstractStringBuilder" "value" "[B" .null := D208 (Or.inl (ow hw 23)) (ty := (.array .byte)) (by decide)
  have F_b208_ASB_coder : Fld Z h208 b208 "java/lang/AbstractStringBuilder" "coder" "B" (.int 0) := D208 (Or.inl (ow hw 25)) (ty := .byte) (by decide)
  have F_b208_ASB_count : Fld Z h208 b208 "java/lang/AbstractStringBuilder" "count" "I" (.int 0) := D208 (Or.inl (ow hw 56)) (ty := .int) (by decide)
  show own_Fin p e below (T208.setTop (mkF m 3 #[.val (.ref a), .unset, .unset, .unset, .unset, .unset, .unset, .unset] [(.ref b208)])) _
  refine own_go (fun _ k => XS.dup X208.here hx rfl (hb hby d1_3) rfl rfl (XS.aloadN X208.here hx rfl (hb hby d1_4) rfl rfl k)) ?_
  show own_Fin p e below (T208.setTop (mkF m 5 #[.val (.ref a), .unset, .unset, .unset, .unset, .unset, .unset, .unset] [(.ref a), (.ref b208), (.ref b208)])) _
  obtain ⟨cl210, A210, -, S210, M210, -, -⟩ := id V_a
  refine own_go (fun _ k => X208.arraylength hx (own_eqE e208 A210.1) (State.isArrayOf_alike hZ.alike A210.2.1) (g := (mkF m 5 #[.val (.ref a), .unset, .unset, .unset, .unset, .unset, .unset, .unset] [(.ref a), (.ref b208), (.ref b208)])) rfl rfl (hb hby d1_5) _ (by rw [len_of S210 M210]; exact k)) ?_
  show own_Fin p e below (T208.setTop (mkF m 6 #[.val (.ref a), .unset, .unset, .unset, .unset, .unset, .unset, .unset] [(.int 0), (.ref b208), (.ref b208)])) _
  obtain ⟨_, _, ⟨T211, L211, k211, n211⟩, -, X211, ⟨Lc211, hQ211, l211, y211, z211⟩, st211⟩ := X208.specialBack hx (y := (⟨"java/lang/StringBuilder", "<init>", "(I)V"⟩ : MethodName)) rfl hown (mvT hZ (ow hw 8)) (mvT hZ (ow hw 9)) (mvT hZ (ow hw 10)) (by decide) (backOf (W := 1) (si0 l Z a0 hw [] b208 z h208 n0 O S_String_COMPACT_STRINGS hz E_b208 F_b208_ASB_value F_b208_ASB_coder F_b208_ASB_count g_b208) hZ (ow hw 10) (ow hw 7) (by decide) (by decide)) (g := (mkF m 6 #[.val (.ref a), .unset, .unset, .unset, .unset, .unset, .unset, .unset] [(.int 0), (.ref b208), (.ref b208)])) rfl (by rw [hml]; rfl) (Steps.refl _) (a := b208) (argsL := [(.int 0)]) (rest := [(.ref b208)]) (lenOf pd_0 rfl) rfl (by show 2 * 0 + _ ≤ _; exact Nat.le_of_eq rfl) (hb hby d1_6) (fun _ _ => ⟨rfl, e208, (by decide : 1 + 1 ≤ _), (by decide : 4 + 0 ≤ _)⟩)
  dsimp only [Pt.U, Pt.locs, Pt.cells, Pt.slots] at X211 l211 y211 z211 st211 hQ211
  subst l211 y211 z211
  obtain ⟨t_212, k_213, rfl, N211q, Kq211, P211_0, P211_1, P211_2, P211_3, P211_4, P211_5, P211_6⟩ := hQ211
  refine own_go (fun _ k => st211.trans k) ?_
  have N211 := Fr.app N0 N211q
  have ne_a_t_212 : a ≠ t_212 := Nat.ne_of_lt (Nat.lt_of_lt_of_le V_a.lt P211_0)
  have ne_b208_t_212 : b208 ≠ t_212 := Nat.ne_of_lt (Nat.lt_of_lt_of_le E_b208.lt P211_0)
  have g_t_212 : n0 ≤ t_212 := Nat.le_trans (own_osz O) P211_0
  have sz_t_212 : h0.size ≤ t_212 := Nat.le_trans K209.1 P211_0
  have V_a := V_a.keep Kq211 (ninS ne_a_b208 nin0)
  have E_b208 := E_b208.keep Kq211
  clear F_b208_ASB_value
  clear F_b208_ASB_coder
  clear F_b208_ASB_count
  have O := O.keep Kq211 (allS g_b208 all0)
  have K214 := K209.trans Kq211 (allS (Or.inr sz_b208) all0)
  have E_b208 := P211_1
  have F_b208_ASB_value := P211_2
  have F_b208_ASB_coder := P211_3
  have F_b208_ASB_count := P211_4
  have V_t_212 := P211_5
  have E_t_212 := P211_6
  show own_Fin p e below (T211.setTop (mkF m 9 #[.val (.ref a), .unset, .unset, .unset, .unset, .unset, .unset, .unset] [(.ref b208)])) _
  refine own_go (fun _ k => XS.astoreN X211.here hx rfl (hb hby d1_9) rfl rfl (l' := #[.val (.ref a), .val (.ref b208), .unset, .unset, .unset, .unset, .unset, .unset]) rfl (XS.aloadN X211.here hx rfl (hb hby d1_10) rfl rfl (XS.astoreN X211.here hx rfl (hb hby d1_11) rfl rfl (l' := #[.val (.ref a), .val (.ref b208), .val (.ref a), .unset, .unset, .unset, .unset, .unset]) rfl (XS.aloadN X211.here hx rfl (hb hby d1_12) rfl rfl k)))) ?_
  show own_Fin p e below (T211.setTop (mkF m 13 #[.val (.ref a), .val (.ref b208), .val (.ref a), .unset, .unset, .unset, .unset, .unset] [(.ref a)])) _
  obtain ⟨cl215, A215, -, S215, M215, -, -⟩ := id V_a
  refine own_go (fun _ k => X211.arraylength hx (own_eqE rfl A215.1) (State.isArrayOf_alike hZ.alike A215.2.1) (g := (mkF m 13 #[.val (.ref a), .val (.ref b208), .val (.ref a), .unset, .unset, .unset, .unset, .unset] [(.ref a)])) rfl rfl (hb hby d1_13) _ (by rw [len_of S215 M215]; exact k)) ?_
  show own_Fin p e below (T211.setTop (mkF m 14 #[.val (.ref a), .val (.ref b208), .val (.ref a), .unset, .unset, .unset, .unset, .unset] [(.int 0)])) _
  refine own_go (fun _ k => XS.istoreN X211.here hx rfl (hb hby d1_14) rfl (l' := #[.val (.ref a), .val (.ref b208), .val (.ref a), .val (.int 0), .unset, .unset, .unset, .unset]) rfl (XS.iconst X211.here hx rfl (hb hby d1_15) (XS.istore X211.here hx rfl (hb hby d1_16) rfl (l' := #[.val (.ref a), .val (.ref b208), .val (.ref a), .val (.int 0), .val (.int 0), .unset, .unset, .unset]) rfl (XS.iload X211.here hx rfl (hb hby d1_18) rfl (XS.iloadN X211.here hx rfl (hb hby d1_20) rfl (XS.icmpYes X211.here hx rfl (pc0 := 21) (pc' := 167) rfl (hb hby d1_21) rfl (flt (by decide : ¬ ((0 : Int32) < (0 : Int32)))).2.1 (by decide) (by decide) (XS.aloadN X211.here hx rfl (hb hby d1_167) rfl rfl k))))))) ?_
  show own_Fin p e below (T211.setTop (mkF m 168 #[.val (.ref a), .val (.ref b208), .val (.ref a), .val (.int 0), .val (.int 0), .unset, .unset, .unset] [(.ref b208)])) _
  have hse : (0 : Int32) = (0 : Int32) := rfl
  have hokl : own_ok (0 : Int32) [] (0 : Int32) := ⟨by decide, by decide, by decide, rfl⟩
  show own_Fin p e below (T211.setTop (mkF m 168 #[.val (.ref a), .val (.ref b208), .val (.ref a), .val (.int 0), .val (.int 0), .unset, .unset, .unset] [(.ref b208)])) _
  obtain ⟨cq216, kq216, q216a, q216b, q216c⟩ := isOf hZ rfl E_b208
  obtain ⟨_, _, ⟨T216, L216, k216, n216⟩, -, X216, ⟨Lc216, hQ216, l216, y216, z216⟩, st216⟩ := X211.virtualBack hx (y := (⟨"java/lang/StringBuilder", "toString", "()Ljava/lang/String;"⟩ : MethodName)) (z := (⟨"java/lang/StringBuilder", "toString", "()Ljava/lang/String;"⟩ : MethodName)) hown (mvT hZ (ow hw 26)) (mvT hZ (ow hw 27)) (notFace_of_selects (args := #[]) (mvT hZ (ow hw 29))) (mvT hZ (ow hw 29)) (mvT hZ (ow hw 28)) (by decide) (backOf (W := 0) (tsE l Z a0 hw [] b208 z t_212 k_213 (0 : Int32) [] (0 : Int32) (T211.heap) n0 O S_String_COMPACT_STRINGS hz E_b208 F_b208_ASB_value F_b208_ASB_coder F_b208_ASB_count V_t_212 E_t_212 (own_nn hokl.1) (own_t1 hokl) (own_t2 hokl) (by decide) hse (own_t4 hokl hse)) hZ (ow hw 30) (ow hw 7) (by decide) (by decide)) q216a q216c (g := (mkF m 168 #[.val (.ref a), .val (.ref b208), .val (.ref a), .val (.int 0), .val (.int 0), .unset, .unset, .unset] [(.ref b208)])) rfl (by rw [hml]; rfl) (Steps.refl _) (argsL := []) (rest := []) (lenOf pd_14 rfl) rfl (by show 2 * 0 + _ ≤ _; exact Nat.le_of_eq rfl) (hb hby d1_168) (fun _ _ => ⟨rfl, rfl, (by decide : 2 + 2 ≤ _), (by decide : 4 + 13 ≤ _)⟩)
  dsimp only [Pt.U, Pt.locs, Pt.cells, Pt.slots] at X216 l216 y216 z216 st216 hQ216
  subst l216 y216 z216
  obtain ⟨s_217, t2_218, k2_219, rfl, N216q, Kq216, P216_0, P216_1, P216_2, P216_3, P216_4, P216_5, P216_6⟩ := hQ216
  refine own_go (fun _ k => st216.trans k) ?_
  have N216 := Fr.app N211 N216q
  have ne_a_s_217 : a ≠ s_217 := Nat.ne_of_lt (Nat.lt_of_lt_of_le V_a.lt P216_0)
  have ne_b208_s_217 : b208 ≠ s_217 := Nat.ne_of_lt (Nat.lt_of_lt_of_le E_b208.lt P216_0)
  have ne_t_212_s_217 : t_212 ≠ s_217 := Nat.ne_of_lt (Nat.lt_of_lt_of_le V_t_212.lt P216_0)
  have g_s_217 : n0 ≤ s_217 := Nat.le_trans (own_osz O) P216_0
  have sz_s_217 : h0.size ≤ s_217 := Nat.le_trans K214.1 P216_0
  have ne_a_t2_218 : a ≠ t2_218 := Nat.ne_of_lt (Nat.lt_of_lt_of_le V_a.lt P216_2)
  have ne_b208_t2_218 : b208 ≠ t2_218 := Nat.ne_of_lt (Nat.lt_of_lt_of_le E_b208.lt P216_2)
  have ne_t_212_t2_218 : t_212 ≠ t2_218 := Nat.ne_of_lt (Nat.lt_of_lt_of_le V_t_212.lt P216_2)
  have g_t2_218 : n0 ≤ t2_218 := Nat.le_trans (own_osz O) P216_2
  have sz_t2_218 : h0.size ≤ t2_218 := Nat.le_trans K214.1 P216_2
  have V_a := V_a.keep Kq216 nin0
  have E_b208 := E_b208.keep Kq216
  have F_b208_ASB_value := F_b208_ASB_value.keep Kq216 nin0
  have F_b208_ASB_coder := F_b208_ASB_coder.keep Kq216 nin0
  have F_b208_ASB_count := F_b208_ASB_count.keep Kq216 nin0
  have V_t_212 := V_t_212.keep Kq216 nin0
  have E_t_212 := E_t_212.keep Kq216
  have O := O.keep Kq216 all0
  have K220 := K214.trans Kq216 all0
  have E_s_217 := P216_3
  have F_s_217_String_coder := P216_4
  have F_s_217_String_value := P216_5
  have V_t2_218 := P216_6
  show own_Fin p e below (T216.setTop (mkF m 171 #[.val (.ref a), .val (.ref b208), .val (.ref a), .val (.int 0), .val (.int 0), .unset, .unset, .unset] [(.ref s_217)])) _
  obtain ⟨fs, hr, hrun, hended, hW, hsame⟩ := X216.leave (v := some (.ref s_217)) (fun h => by rw [Bd.returns] at h; cases h)
  refine ⟨_, _, ?_, hrun, hended, _, _, rfl, ?_, ⟨_, rfl⟩, hW, hsame.mono (by decide) (by decide)⟩
  ·exact X216.areturnOut hx rfl Bd.returns rfl (hb hby d1_171) hr
  ·show Qen0 Z a z ka hxa kh h0 n0 _ T216.heap _
   exact ⟨s_217, t2_218, k2_219, rfl, N216, K220, sz_s_217, sz_t2_218, E_s_217, F_s_217_String_coder, F_s_217_String_value, V_t2_218⟩
theorem d1_80 : decode prog_29_method_2_code 80 = .ok (.iload 6, 2) := by decide +kernel
theorem d1_82 : decode prog_29_method_2_code 82 = .ok (.bipush 45, 2) := by decide +kernel
theorem d1_84 : decode prog_29_method_2_code 84 = .ok (.if_icmp .eq 24, 3) := by decide +kernel
theorem d1_108 : decode prog_29_method_2_code 108 = .ok (.iconst 1, 1) := by decide +kernel
theorem d1_109 : decode prog_29_method_2_code 109 = .ok (.goto 4, 3) := by decide +kernel
theorem d1_87 : decode prog_29_method_2_code 87 = .ok (.iload 6, 2) := by decide +kernel
theorem d1_89 : decode prog_29_method_2_code 89 = .ok (.bipush 46, 2) := by decide +kernel
theorem d1_91 : decode prog_29_method_2_code 91 = .ok (.if_icmp .eq 17, 3) := by decide +kernel
theorem d1_94 : decode prog_29_method_2_code 94 = .ok (.iload 6, 2) := by decide +kernel
theorem d1_96 : decode prog_29_method_2_code 96 = .ok (.bipush 95, 2) := by decide +kernel
theorem d1_98 : decode prog_29_method_2_code 98 = .ok (.if_icmp .eq 10, 3) := by decide +kernel
theorem d1_101 : decode prog_29_method_2_code 101 = .ok (.iload 6, 2) := by decide +kernel
theorem d1_103 : decode prog_29_method_2_code 103 = .ok (.bipush 126, 2) := by decide +kernel
theorem d1_105 : decode prog_29_method_2_code 105 = .ok (.if_icmp .ne 7, 3) := by decide +kernel
theorem d1_112 : decode prog_29_method_2_code 112 = .ok (.iconst 0, 1) := by decide +kernel
theorem d1_66 : decode prog_29_method_2_code 66 = .ok (.iload 6, 2) := by decide +kernel
theorem d1_68 : decode prog_29_method_2_code 68 = .ok (.bipush 48, 2) := by decide +kernel
theorem d1_70 : decode prog_29_method_2_code 70 = .ok (.if_icmp .lt 10, 3) := by decide +kernel
theorem d1_73 : decode prog_29_method_2_code 73 = .ok (.iload 6, 2) := by decide +kernel
theorem d1_75 : decode prog_29_method_2_code 75 = .ok (.bipush 57, 2) := by decide +kernel
theorem d1_77 : decode prog_29_method_2_code 77 = .ok (.if_icmp .le 31, 3) := by decide +kernel
theorem d1_52 : decode prog_29_method_2_code 52 = .ok (.iload 6, 2) := by decide +kernel
theorem d1_54 : decode prog_29_method_2_code 54 = .ok (.bipush 65, 2) := by decide +kernel
theorem d1_56 : decode prog_29_method_2_code 56 = .ok (.if_icmp .lt 10, 3) := by decide +kernel
theorem d1_59 : decode prog_29_method_2_code 59 = .ok (.iload 6, 2) := by decide +kernel
theorem d1_61 : decode prog_29_method_2_code 61 = .ok (.bipush 90, 2) := by decide +kernel
theorem d1_63 : decode prog_29_method_2_code 63 = .ok (.if_icmp .le 45, 3) := by decide +kernel
theorem d1_38 : decode prog_29_method_2_code 38 = .ok (.iload 6, 2) := by decide +kernel
theorem d1_40 : decode prog_29_method_2_code 40 = .ok (.bipush 97, 2) := by decide +kernel
theorem d1_42 : decode prog_29_method_2_code 42 = .ok (.if_icmp .lt 10, 3) := by decide +kernel
theorem d1_45 : decode prog_29_method_2_code 45 = .ok (.iload 6, 2) := by decide +kernel
theorem d1_47 : decode prog_29_method_2_code 47 = .ok (.bipush 122, 2) := by decide +kernel
theorem d1_49 : decode prog_29_method_2_code 49 = .ok (.if_icmp .le 59, 3) := by decide +kernel
theorem d1_24 : decode prog_29_method_2_code 24 = .ok (.aload_n 2, 1) := by decide +kernel
theorem d1_25 : decode prog_29_method_2_code 25 = .ok (.iload 4, 2) := by decide +kernel
theorem d1_27 : decode prog_29_method_2_code 27 = .ok (.baload, 1) := by decide +kernel
theorem d1_28 : decode prog_29_method_2_code 28 = .ok (.istore 5, 2) := by decide +kernel
theorem d1_30 : decode prog_29_method_2_code 30 = .ok (.iload 5, 2) := by decide +kernel
theorem d1_32 : decode prog_29_method_2_code 32 = .ok (.sipush 255, 3) := by decide +kernel
theorem d1_35 : decode prog_29_method_2_code 35 = .ok (.iand, 1) := by decide +kernel
theorem d1_36 : decode prog_29_method_2_code 36 = .ok (.istore 6, 2) := by decide +kernel
theorem d1_113 : decode prog_29_method_2_code 113 = .ok (.istore 7, 2) := by decide +kernel
theorem d1_115 : decode prog_29_method_2_code 115 = .ok (.iload 7, 2) := by decide +kernel
theorem d1_117 : decode prog_29_method_2_code 117 = .ok (.ifCond .eq 14, 3) := by decide +kernel
theorem d1_120 : decode prog_29_method_2_code 120 = .ok (.aload_n 1, 1) := by decide +kernel
theorem d1_121 : decode prog_29_method_2_code 121 = .ok (.iload 6, 2) := by decide +kernel
theorem d1_123 : decode prog_29_method_2_code 123 = .ok (.i2c, 1) := by decide +kernel
theorem d1_124 : decode prog_29_method_2_code 124 = .ok (.invokevirtual 12, 3) := by decide +kernel
theorem pd_15 : parseMethodDescriptor "(C)Ljava/lang/StringBuilder;" = some ⟨[.char], some (.object "java/lang/StringBuilder")⟩ := by decide +kernel
theorem d1_127 : decode prog_29_method_2_code 127 = .ok (.pop, 1) := by decide +kernel
theorem d1_128 : decode prog_29_method_2_code 128 = .ok (.goto 33, 3) := by decide +kernel
theorem d1_161 : decode prog_29_method_2_code 161 = .ok (.iinc 4 1, 3) := by decide +kernel
theorem d1_164 : decode prog_29_method_2_code 164 = .ok (.goto (-146), 3) := by decide +kernel
theorem d1_131 : decode prog_29_method_2_code 131 = .ok (.aload_n 1, 1) := by decide +kernel
theorem d1_132 : decode prog_29_method_2_code 132 = .ok (.bipush 37, 2) := by decide +kernel
theorem d1_134 : decode prog_29_method_2_code 134 = .ok (.invokevirtual 12, 3) := by decide +kernel
theorem d1_137 : decode prog_29_method_2_code 137 = .ok (.getstatic 16, 3) := by decide +kernel
theorem d1_140 : decode prog_29_method_2_code 140 = .ok (.iload 6, 2) := by decide +kernel
theorem d1_142 : decode prog_29_method_2_code 142 = .ok (.iconst 4, 1) := by decide +kernel
theorem d1_143 : decode prog_29_method_2_code 143 = .ok (.ishr, 1) := by decide +kernel
theorem d1_144 : decode prog_29_method_2_code 144 = .ok (.caload, 1) := by decide +kernel
theorem d1_145 : decode prog_29_method_2_code 145 = .ok (.invokevirtual 12, 3) := by decide +kernel
theorem d1_148 : decode prog_29_method_2_code 148 = .ok (.getstatic 16, 3) := by decide +kernel
theorem d1_151 : decode prog_29_method_2_code 151 = .ok (.iload 6, 2) := by decide +kernel
theorem d1_153 : decode prog_29_method_2_code 153 = .ok (.bipush 15, 2) := by decide +kernel
theorem d1_155 : decode prog_29_method_2_code 155 = .ok (.iand, 1) := by decide +kernel
theorem d1_156 : decode prog_29_method_2_code 156 = .ok (.caload, 1) := by decide +kernel
theorem d1_157 : decode prog_29_method_2_code 157 = .ok (.invokevirtual 12, 3) := by decide +kernel
theorem d1_160 : decode prog_29_method_2_code 160 = .ok (.pop, 1) := by decide +kernel
theorem ef_en1 (m : MethodId) (x0 : Addr) : entryFrame m #[(.ref x0)] 8 = mkF m 0 #[.val (.ref x0), .unset, .unset, .unset, .unset, .unset, .unset, .unset] [] := by first | (simp [entryFrame, mkF, argsToLocals, Value.category]; done) | rfl
def Qen1 (Z : State) (a : Addr) (z : Int32) (ka : ClassId) (x0_ : Int32) (hxa : Addr) (kh : ClassId) (h0 : Heap) (n0 : Nat) (v : Option Value) (h : Heap) (L : List Loc) : Prop := ∃ (s_ : Addr) (t2_ : Addr) (k2_ : ClassId), v = some (.ref s_) ∧ Fr n0 L ∧ Keep h0 h [] ∧ h0.size ≤ s_ ∧ h0.size ≤ t2_ ∧ Exa Z h s_ "java/lang/String" ∧ Fld Z h s_ "java/lang/String" "coder" "B" (.int 0) ∧ Fld Z h s_ "java/lang/String" "value" "[B" (.ref t2_) ∧ Arv Z h t2_ k2_ .byte (Int32.ofNat (own_enc x0_).length) (own_enc x0_) (.int 0)
set_option maxRecDepth 65536 in
set_option maxHeartbeats 40000000 in
theorem en1 (l : Launch) (Z : State) (a0 : Array Value) (hw : ∀ d ∈ tables_1, d.before a0 Z = true) (ws : List Jvm.Cond) (a : Addr) (z : Int32) (ka : ClassId) (x0_ : Int32) (hxa : Addr) (kh : ClassId) (h0 : Heap) (n0 : Nat) (O : Old Z n0 h0) (S_String_COMPACT_STRINGS : Sta Z Z.heap "java/lang/String" "COMPACT_STRINGS" "Z" (.int z)) (hz : ¬ (z = (0 : Int32))) (V_a : Arv Z h0 a ka .byte (1 : Int32) [(.int x0_)] (.int 0)) (S_Uris_HEX : Sta Z Z.heap "com/example/espalier/espalier/Uris" "HEX" "[C" (.ref hxa)) (V_hxa : Arv Z Z.heap hxa kh .char (16 : Int32) (own_hl.map Value.int) (.int 0)) :
    MetFree l (⟨"com/example/espalier/espalier/Uris", "encode", "([B)Ljava/lang/String;"⟩ : MethodName) (head1 (Jvm.Cond.code (⟨"com/example/espalier/espalier/Uris", "encode", "([B)Ljava/lang/String;"⟩ : MethodName) prog_29_method_2_code 8 (some (.object "java/lang/String")) :: ws) ({ frames := 6, cells := 7, slots := 72, locals := 91 } : Room)) (fun a' U' => a' = #[(.ref a)] ∧ Z.Warmed39 U'.vm ∧ U'.heap = h0) (fun _ _ _ _ _ => True) (fun _ U' o' W' => ∃ v' L', o' = .returned v' ∧ Qen1 Z a z ka x0_ hxa kh h0 n0 v' W'.heap L' ∧ FrameEnd U' o' W' L' ({ frames := 6, cells := 7, slots := 72, locals := 91 } : Room).cells ({ frames := 6, cells := 7, slots := 72, locals := 91 } : Room).slots) := by
  refine MetFree.of_bodySF (plainFor_of_name pn_6) hisR ?_
  intro p e s m args below meth c s₁ Bd hml0 hP hK
  obtain ⟨rfl, hZ, hh⟩ := hP
  have hx := Bd.exec
  have hby := Bd.bytes
  have hml : c.maxLocals = 8 := hml0
  have hown : s.vm.findClass "com/example/espalier/espalier/Uris" = some m.cls := findClass_of_methodNamed Bd.named
  have hnm := (name_of_methodNamed Bd.named Bd.method).1
  have X0 : Stand p l e ({ frames := 6, cells := 7, slots := 72, locals := 91 } : Room) s m #[(.ref a)] below meth c s₁ [] 0 0 := Stand.of_body Bd
  have e0 : s₁.heap = h0 := by rw [← hh, Bd.state]; rfl
  have N0 := Fr.nil n0
  have K0 := Keep.refl h0 []
  refine own_start (ef_en1 m a) (Q := fun o' t' => ∃ v' L', o' = .returned v' ∧ Qen1 Z a z ka x0_ hxa kh h0 n0 v' t'.heap L' ∧ FrameEnd s o' t' L' ({ frames := 6, cells := 7, slots := 72, locals := 91 } : Room).cells ({ frames := 6, cells := 7, slots := 72, locals := 91 } : Room).slots) ?_
  show own_Fin p e below (s₁.setTop (mkF m 0 #[.val (.ref a), .unset, .unset, .unset, .unset, .unset, .unset, .unset] [])) _
  have chk : ∀ (Tc : State) (Lc : List Loc) (cc sc : Nat) (Xc : Stand p l e ({ frames := 6, cells := 7, slots := 72, locals := 91 } : Room) s m #[(.ref a)] below meth c Tc Lc cc sc) (s0c s1c s2c s3c s4c s5c s7c : Slot) (bc : Int32), (∀ f : Int32, f = own_bi (own_unres bc) → own_Fin p e below (Tc.setTop (mkF m 113 #[s0c, s1c, s2c, s3c, s4c, s5c, .val (.int bc), s7c] [(.int f)])) (fun o' t' => ∃ v' L', o' = .returned v' ∧ Qen1 Z a z ka x0_ hxa kh h0 n0 v' t'.heap L' ∧ FrameEnd s o' t' L' ({ frames := 6, cells := 7, slots := 72, locals := 91 } : Room).cells ({ frames := 6, cells := 7, slots := 72, locals := 91 } : Room).slots)) → own_Fin p e below (Tc.setTop (mkF m 38 #[s0c, s1c, s2c, s3c, s4c, s5c, .val (.int bc), s7c] [])) (fun o' t' => ∃ v' L', o' = .returned v' ∧ Qen1 Z a z ka x0_ hxa kh h0 n0 v' t'.heap L' ∧ FrameEnd s o' t' L' ({ frames := 6, cells := 7, slots := 72, locals := 91 } : Room).cells ({ frames := 6, cells := 7, slots := 72, locals := 91 } : Room).slots) := by
   intro Tc Lc cc sc Xc s0c s1c s2c s3c s4c s5c s7c bc kf
   have jr80 : ¬ (¬ bc < (97 : Int32) ∧ ¬ (122 : Int32) < bc) → ¬ (¬ bc < (65 : Int32) ∧ ¬ (90 : Int32) < bc) → ¬ (¬ bc < (48 : Int32) ∧ ¬ (57 : Int32) < bc) → own_Fin p e below (Tc.setTop (mkF m 80 #[s0c, s1c, s2c, s3c, s4c, s5c, .val (.int bc), s7c] [])) (fun o' t' => ∃ v' L', o' = .returned v' ∧ Qen1 Z a z ka x0_ hxa kh h0 n0 v' t'.heap L' ∧ FrameEnd s o' t' L' ({ frames := 6, cells := 7, slots := 72, locals := 91 } : Room).cells ({ frames := 6, cells := 7, slots := 72, locals := 91 } : Room).slots) := by
    intro hs_r0 hs_r1 hs_r2
    show own_Fin p e below (Tc.setTop (mkF m 80 #[s0c, s1c, s2c, s3c, s4c, s5c, .val (.int bc), s7c] [])) _
    refine own_go (fun _ k => XS.iload Xc.here hx rfl (hb hby d1_80) rfl (XS.bipush Xc.here hx rfl (hb hby d1_82) k)) ?_
    show own_Fin p e below (Tc.setTop (mkF m 84 #[s0c, s1c, s2c, s3c, s4c, s5c, .val (.int bc), s7c] [(.int 45), (.int bc)])) _
    by_cases hc84_222 : bc = (45 : Int32)
    ·refine own_go (fun _ k => XS.icmpYes Xc.here hx rfl (pc0 := 84) (pc' := 108) rfl (hb hby d1_84) rfl (teq hc84_222).1 (by decide) (by decide) (XS.iconst Xc.here hx rfl (hb hby d1_108) (XS.goto Xc.here hx rfl (pc0 := 109) (pc' := 113) rfl (hb hby d1_109) (by decide) (by decide) k))) ?_
     show own_Fin p e below (Tc.setTop (mkF m 113 #[s0c, s1c, s2c, s3c, s4c, s5c, .val (.int bc), s7c] [(.int 1)])) _
     exact kf (1 : Int32) (by simp [own_bi, own_unres, hs_r0, hs_r1, hs_r2, hc84_222])
    ·refine own_go (fun _ k => XS.icmpNo Xc.here hx rfl (hb hby d1_84) rfl (feq hc84_222).1 (XS.iload Xc.here hx rfl (hb hby d1_87) rfl (XS.bipush Xc.here hx rfl (hb hby d1_89) k))) ?_
     show own_Fin p e below (Tc.setTop (mkF m 91 #[s0c, s1c, s2c, s3c, s4c, s5c, .val (.int bc), s7c] [(.int 46), (.int bc)])) _
     by_cases hc91_223 : bc = (46 : Int32)
     ·refine own_go (fun _ k => XS.icmpYes Xc.here hx rfl (pc0 := 91) (pc' := 108) rfl (hb hby d1_91) rfl (teq hc91_223).1 (by decide) (by decide) (XS.iconst Xc.here hx rfl (hb hby d1_108) (XS.goto Xc.here hx rfl (pc0 := 109) (pc' := 113) rfl (hb hby d1_109) (by decide) (by decide) k))) ?_
      show own_Fin p e below (Tc.setTop (mkF m 113 #[s0c, s1c, s2c, s3c, s4c, s5c, .val (.int bc), s7c] [(.int 1)])) _
      exact kf (1 : Int32) (by simp [own_bi, own_unres, hs_r0, hs_r1, hs_r2, hc84_222, hc91_223])
     ·refine own_go (fun _ k => XS.icmpNo Xc.here hx rfl (hb hby d1_91) rfl (feq hc91_223).1 (XS.iload Xc.here hx rfl (hb hby d1_94) rfl (XS.bipush Xc.here hx rfl (hb hby d1_96) k))) ?_
      show own_Fin p e below (Tc.setTop (mkF m 98 #[s0c, s1c, s2c, s3c, s4c, s5c, .val (.int bc), s7c] [(.int 95), (.int bc)])) _
      by_cases hc98_224 : bc = (95 : Int32)
      ·refine own_go (fun _ k => XS.icmpYes Xc.here hx rfl (pc0 := 98) (pc' := 108) rfl (hb hby d1_98) rfl (teq hc98_224).1 (by decide) (by decide) (XS.iconst Xc.here hx rfl (hb hby d1_108) (XS.goto Xc.here hx rfl (pc0 := 109) (pc' := 113) rfl (hb hby d1_109) (by decide) (by decide) k))) ?_
       show own_Fin p e below (Tc.setTop (mkF m 113 #[s0c, s1c, s2c, s3c, s4c, s5c, .val (.int bc), s7c] [(.int 1)])) _
       exact kf (1 : Int32) (by simp [own_bi, own_unres, hs_r0, hs_r1, hs_r2, hc84_222, hc91_223, hc98_224])
      ·refine own_go (fun _ k => XS.icmpNo Xc.here hx rfl (hb hby d1_98) rfl (feq hc98_224).1 (XS.iload Xc.here hx rfl (hb hby d1_101) rfl (XS.bipush Xc.here hx rfl (hb hby d1_103) k))) ?_
       show own_Fin p e below (Tc.setTop (mkF m 105 #[s0c, s1c, s2c, s3c, s4c, s5c, .val (.int bc), s7c] [(.int 126), (.int bc)])) _
       by_cases hc105_225 : bc = (126 : Int32)
       ·refine own_go (fun _ k => XS.icmpNo Xc.here hx rfl (hb hby d1_105) rfl (teq hc105_225).2 (XS.iconst Xc.here hx rfl (hb hby d1_108) (XS.goto Xc.here hx rfl (pc0 := 109) (pc' := 113) rfl (hb hby d1_109) (by decide) (by decide) k))) ?_
        show own_Fin p e below (Tc.setTop (mkF m 113 #[s0c, s1c, s2c, s3c, s4c, s5c, .val (.int bc), s7c] [(.int 1)])) _
        exact kf (1 : Int32) (by simp [own_bi, own_unres, hs_r0, hs_r1, hs_r2, hc84_222, hc91_223, hc98_224, hc105_225])
       ·refine own_go (fun _ k => XS.icmpYes Xc.here hx rfl (pc0 := 105) (pc' := 112) rfl (hb hby d1_105) rfl (feq hc105_225).2 (by decide) (by decide) (XS.iconst Xc.here hx rfl (hb hby d1_112) k)) ?_
        show own_Fin p e below (Tc.setTop (mkF m 113 #[s0c, s1c, s2c, s3c, s4c, s5c, .val (.int bc), s7c] [(.int 0)])) _
        exact kf (0 : Int32) (own_bi0 (fun h => by rcases h with h | h | h | h | h | h | h <;> contradiction)).symm
   have jr66 : ¬ (¬ bc < (97 : Int32) ∧ ¬ (122 : Int32) < bc) → ¬ (¬ bc < (65 : Int32) ∧ ¬ (90 : Int32) < bc) → own_Fin p e below (Tc.setTop (mkF m 66 #[s0c, s1c, s2c, s3c, s4c, s5c, .val (.int bc), s7c] [])) (fun o' t' => ∃ v' L', o' = .returned v' ∧ Qen1 Z a z ka x0_ hxa kh h0 n0 v' t'.heap L' ∧ FrameEnd s o' t' L' ({ frames := 6, cells := 7, slots := 72, locals := 91 } : Room).cells ({ frames := 6, cells := 7, slots := 72, locals := 91 } : Room).slots) := by
    intro hs_r0 hs_r1
    show own_Fin p e below (Tc.setTop (mkF m 66 #[s0c, s1c, s2c, s3c, s4c, s5c, .val (.int bc), s7c] [])) _
    refine own_go (fun _ k => XS.iload Xc.here hx rfl (hb hby d1_66) rfl (XS.bipush Xc.here hx rfl (hb hby d1_68) k)) ?_
    show own_Fin p e below (Tc.setTop (mkF m 70 #[s0c, s1c, s2c, s3c, s4c, s5c, .val (.int bc), s7c] [(.int 48), (.int bc)])) _
    by_cases hc70_226 : bc < (48 : Int32)
    ·refine own_go (fun _ k => XS.icmpYes Xc.here hx rfl (pc0 := 70) (pc' := 80) rfl (hb hby d1_70) rfl (tlt hc70_226).1 (by decide) (by decide) k) ?_
     show own_Fin p e below (Tc.setTop (mkF m 80 #[s0c, s1c, s2c, s3c, s4c, s5c, .val (.int bc), s7c] [])) _
     exact jr80 hs_r0 hs_r1 (fun h => absurd hc70_226 h.1)
    ·refine own_go (fun _ k => XS.icmpNo Xc.here hx rfl (hb hby d1_70) rfl (flt hc70_226).1 (XS.iload Xc.here hx rfl (hb hby d1_73) rfl (XS.bipush Xc.here hx rfl (hb hby d1_75) k))) ?_
     show own_Fin p e below (Tc.setTop (mkF m 77 #[s0c, s1c, s2c, s3c, s4c, s5c, .val (.int bc), s7c] [(.int 57), (.int bc)])) _
     by_cases hc77_227 : (57 : Int32) < bc
     ·refine own_go (fun _ k => XS.icmpNo Xc.here hx rfl (hb hby d1_77) rfl (tlt hc77_227).2.2.2 k) ?_
      show own_Fin p e below (Tc.setTop (mkF m 80 #[s0c, s1c, s2c, s3c, s4c, s5c, .val (.int bc), s7c] [])) _
      exact jr80 hs_r0 hs_r1 (fun h => absurd hc77_227 h.2)
     ·refine own_go (fun _ k => XS.icmpYes Xc.here hx rfl (pc0 := 77) (pc' := 108) rfl (hb hby d1_77) rfl (flt hc77_227).2.2.2 (by decide) (by decide) (XS.iconst Xc.here hx rfl (hb hby d1_108) (XS.goto Xc.here hx rfl (pc0 := 109) (pc' := 113) rfl (hb hby d1_109) (by decide) (by decide) k))) ?_
      show own_Fin p e below (Tc.setTop (mkF m 113 #[s0c, s1c, s2c, s3c, s4c, s5c, .val (.int bc), s7c] [(.int 1)])) _
      exact kf (1 : Int32) (by simp [own_bi, own_unres, hs_r0, hs_r1, hc70_226, hc77_227])
   have jr52 : ¬ (¬ bc < (97 : Int32) ∧ ¬ (122 : Int32) < bc) → own_Fin p e below (Tc.setTop (mkF m 52 #[s0c, s1c, s2c, s3c, s4c, s5c, .val (.int bc), s7c] [])) (fun o' t' => ∃ v' L', o' = .returned v' ∧ Qen1 Z a z ka x0_ hxa kh h0 n0 v' t'.heap L' ∧ FrameEnd s o' t' L' ({ frames := 6, cells := 7, slots := 72, locals := 91 } : Room).cells ({ frames := 6, cells := 7, slots := 72, locals := 91 } : Room).slots) := by
    intro hs_r0
    show own_Fin p e below (Tc.setTop (mkF m 52 #[s0c, s1c, s2c, s3c, s4c, s5c, .val (.int bc), s7c] [])) _
    refine own_go (fun _ k => XS.iload Xc.here hx rfl (hb hby d1_52) rfl (XS.bipush Xc.here hx rfl (hb hby d1_54) k)) ?_
    show own_Fin p e below (Tc.setTop (mkF m 56 #[s0c, s1c, s2c, s3c, s4c, s5c, .val (.int bc), s7c] [(.int 65), (.int bc)])) _
    by_cases hc56_228 : bc < (65 : Int32)
    ·refine own_go (fun _ k => XS.icmpYes Xc.here hx rfl (pc0 := 56) (pc' := 66) rfl (hb hby d1_56) rfl (tlt hc56_228).1 (by decide) (by decide) k) ?_
     show own_Fin p e below (Tc.setTop (mkF m 66 #[s0c, s1c, s2c, s3c, s4c, s5c, .val (.int bc), s7c] [])) _
     exact jr66 hs_r0 (fun h => absurd hc56_228 h.1)
    ·refine own_go (fun _ k => XS.icmpNo Xc.here hx rfl (hb hby d1_56) rfl (flt hc56_228).1 (XS.iload Xc.here hx rfl (hb hby d1_59) rfl (XS.bipush Xc.here hx rfl (hb hby d1_61) k))) ?_
     show own_Fin p e below (Tc.setTop (mkF m 63 #[s0c, s1c, s2c, s3c, s4c, s5c, .val (.int bc), s7c] [(.int 90), (.int bc)])) _
     by_cases hc63_229 : (90 : Int32) < bc
     ·refine own_go (fun _ k => XS.icmpNo Xc.here hx rfl (hb hby d1_63) rfl (tlt hc63_229).2.2.2 k) ?_
      show own_Fin p e below (Tc.setTop (mkF m 66 #[s0c, s1c, s2c, s3c, s4c, s5c, .val (.int bc), s7c] [])) _
      exact jr66 hs_r0 (fun h => absurd hc63_229 h.2)
     ·refine own_go (fun _ k => XS.icmpYes Xc.here hx rfl (pc0 := 63) (pc' := 108) rfl (hb hby d1_63) rfl (flt hc63_229).2.2.2 (by decide) (by decide) (XS.iconst Xc.here hx rfl (hb hby d1_108) (XS.goto Xc.here hx rfl (pc0 := 109) (pc' := 113) rfl (hb hby d1_109) (by decide) (by decide) k))) ?_
      show own_Fin p e below (Tc.setTop (mkF m 113 #[s0c, s1c, s2c, s3c, s4c, s5c, .val (.int bc), s7c] [(.int 1)])) _
      exact kf (1 : Int32) (by simp [own_bi, own_unres, hs_r0, hc56_228, hc63_229])
   show own_Fin p e below (Tc.setTop (mkF m 38 #[s0c, s1c, s2c, s3c, s4c, s5c, .val (.int bc), s7c] [])) _
   refine own_go (fun _ k => XS.iload Xc.here hx rfl (hb hby d1_38) rfl (XS.bipush Xc.here hx rfl (hb hby d1_40) k)) ?_
   show own_Fin p e below (Tc.setTop (mkF m 42 #[s0c, s1c, s2c, s3c, s4c, s5c, .val (.int bc), s7c] [(.int 97), (.int bc)])) _
   by_cases hc42_230 : bc < (97 : Int32)
   ·refine own_go (fun _ k => XS.icmpYes Xc.here hx rfl (pc0 := 42) (pc' := 52) rfl (hb hby d1_42) rfl (tlt hc42_230).1 (by decide) (by decide) k) ?_
    show own_Fin p e below (Tc.setTop (mkF m 52 #[s0c, s1c, s2c, s3c, s4c, s5c, .val (.int bc), s7c] [])) _
    exact jr52 (fun h => absurd hc42_230 h.1)
   ·refine own_go (fun _ k => XS.icmpNo Xc.here hx rfl (hb hby d1_42) rfl (flt hc42_230).1 (XS.iload Xc.here hx rfl (hb hby d1_45) rfl (XS.bipush Xc.here hx rfl (hb hby d1_47) k))) ?_
    show own_Fin p e below (Tc.setTop (mkF m 49 #[s0c, s1c, s2c, s3c, s4c, s5c, .val (.int bc), s7c] [(.int 122), (.int bc)])) _
    by_cases hc49_231 : (122 : Int32) < bc
    ·refine own_go (fun _ k => XS.icmpNo Xc.here hx rfl (hb hby d1_49) rfl (tlt hc49_231).2.2.2 k) ?_
     show own_Fin p e below (Tc.setTop (mkF m 52 #[s0c, s1c, s2c, s3c, s4c, s5c, .val (.int bc), s7c] [])) _
     exact jr52 (fun h => absurd hc49_231 h.2)
    ·refine own_go (fun _ k => XS.icmpYes Xc.here hx rfl (pc0 := 49) (pc' := 108) rfl (hb hby d1_49) rfl (flt hc49_231).2.2.2 (by decide) (by decide) (XS.iconst Xc.here hx rfl (hb hby d1_108) (XS.goto Xc.here hx rfl (pc0 := 109) (pc' := 113) rfl (hb hby d1_109) (by decide) (by decide) k))) ?_
     show own_Fin p e below (Tc.setTop (mkF m 113 #[s0c, s1c, s2c, s3c, s4c, s5c, .val (.int bc), s7c] [(.int 1)])) _
     exact kf (1 : Int32) (by simp [own_bi, own_unres, hc42_230, hc49_231])
  show own_Fin p e below (s₁.setTop (mkF m 0 #[.val (.ref a), .unset, .unset, .unset, .unset, .unset, .unset, .unset] [])) _
  obtain ⟨T232, h232, X232, e232, E232, A232, D232, -, st232⟩ := newO X0 hx hZ hown (ow hw 5) (ow hw 6) (ow hw 7) e0 (g := (mkF m 0 #[.val (.ref a), .unset, .unset, .unset, .unset, .unset, .unset, .unset] [])) rfl (hb hby d1_0) (by decide) (by decide)
  obtain ⟨b232, g232⟩ : ∃ z, z = h0.size := ⟨_, rfl⟩
  rw [← g232] at A232 D232 st232
  refine own_go (fun _ k => st232 _ k) ?_
  have ne_a_b232 : a ≠ b232 := Nat.ne_of_lt (Nat.lt_of_lt_of_le V_a.lt (Nat.le_of_eq g232.symm))
  have g_b232 : n0 ≤ b232 := Nat.le_trans (own_osz O) (Nat.le_of_eq g232.symm)
  have sz_b232 : h0.size ≤ b232 := Nat.le_trans K0.1 (Nat.le_of_eq g232.symm)
  have V_a := V_a.ext E232
  have O := O.ext E232
  have K233 := K0.ext E232
  have E_b232 := A232
  have F_b232_ASB_value : Fld Z h232 b232 "java/lang/AbstractStringBuilder" "value" "[B" .null := D232 (Or.inl (ow hw 23)) (ty := (.array .byte)) (by decide)
  have F_b232_ASB_coder : Fld Z h232 b232 "java/lang/AbstractStringBuilder" "coder" "B" (.int 0) := D232 (Or.inl (ow hw 25)) (ty := .byte) (by decide)
  have F_b232_ASB_count : Fld Z h232 b232 "java/lang/AbstractStringBuilder" "count" "I" (.int 0) := D232 (Or.inl (ow hw 56)) (ty := .int) (by decide)
  show own_Fin p e below (T232.setTop (mkF m 3 #[.val (.ref a), .unset, .unset, .unset, .unset, .unset, .unset, .unset] [(.ref b232)])) _
  refine own_go (fun _ k => XS.dup X232.here hx rfl (hb hby d1_3) rfl rfl (XS.aloadN X232.here hx rfl (hb hby d1_4) rfl rfl k)) ?_
  show own_Fin p e below (T232.setTop (mkF m 5 #[.val (.ref a), .unset, .unset, .unset, .unset, .unset, .unset, .unset] [(.ref a), (.ref b232), (.ref b232)])) _
  obtain ⟨cl234, A234, -, S234, M234, -, -⟩ := id V_a
  refine own_go (fun _ k => X232.arraylength hx (own_eqE e232 A234.1) (State.isArrayOf_alike hZ.alike A234.2.1) (g := (mkF m 5 #[.val (.ref a), .unset, .unset, .unset, .unset, .unset, .unset, .unset] [(.ref a), (.ref b232), (.ref b232)])) rfl rfl (hb hby d1_5) _ (by rw [len_of S234 M234]; exact k)) ?_
  show own_Fin p e below (T232.setTop (mkF m 6 #[.val (.ref a), .unset, .unset, .unset, .unset, .unset, .unset, .unset] [(.int 1), (.ref b232), (.ref b232)])) _
  obtain ⟨_, _, ⟨T235, L235, k235, n235⟩, -, X235, ⟨Lc235, hQ235, l235, y235, z235⟩, st235⟩ := X232.specialBack hx (y := (⟨"java/lang/StringBuilder", "<init>", "(I)V"⟩ : MethodName)) rfl hown (mvT hZ (ow hw 8)) (mvT hZ (ow hw 9)) (mvT hZ (ow hw 10)) (by decide) (backOf (W := 1) (si1 l Z a0 hw [] b232 z h232 n0 O S_String_COMPACT_STRINGS hz E_b232 F_b232_ASB_value F_b232_ASB_coder F_b232_ASB_count g_b232) hZ (ow hw 10) (ow hw 7) (by decide) (by decide)) (g := (mkF m 6 #[.val (.ref a), .unset, .unset, .unset, .unset, .unset, .unset, .unset] [(.int 1), (.ref b232), (.ref b232)])) rfl (by rw [hml]; rfl) (Steps.refl _) (a := b232) (argsL := [(.int 1)]) (rest := [(.ref b232)]) (lenOf pd_0 rfl) rfl (by show 2 * 0 + _ ≤ _; exact Nat.le_of_eq rfl) (hb hby d1_6) (fun _ _ => ⟨rfl, e232, (by decide : 1 + 1 ≤ _), (by decide : 4 + 1 ≤ _)⟩)
  dsimp only [Pt.U, Pt.locs, Pt.cells, Pt.slots] at X235 l235 y235 z235 st235 hQ235
  subst l235 y235 z235
  obtain ⟨t_236, k_237, rfl, N235q, Kq235, P235_0, P235_1, P235_2, P235_3, P235_4, P235_5, P235_6⟩ := hQ235
  refine own_go (fun _ k => st235.trans k) ?_
  have N235 := Fr.app N0 N235q
  have ne_a_t_236 : a ≠ t_236 := Nat.ne_of_lt (Nat.lt_of_lt_of_le V_a.lt P235_0)
  have ne_b232_t_236 : b232 ≠ t_236 := Nat.ne_of_lt (Nat.lt_of_lt_of_le E_b232.lt P235_0)
  have g_t_236 : n0 ≤ t_236 := Nat.le_trans (own_osz O) P235_0
  have sz_t_236 : h0.size ≤ t_236 := Nat.le_trans K233.1 P235_0
  have V_a := V_a.keep Kq235 (ninS ne_a_b232 nin0)
  have E_b232 := E_b232.keep Kq235
  clear F_b232_ASB_value
  clear F_b232_ASB_coder
  clear F_b232_ASB_count
  have O := O.keep Kq235 (allS g_b232 all0)
  have K238 := K233.trans Kq235 (allS (Or.inr sz_b232) all0)
  have E_b232 := P235_1
  have F_b232_ASB_value := P235_2
  have F_b232_ASB_coder := P235_3
  have F_b232_ASB_count := P235_4
  have V_t_236 := P235_5
  have E_t_236 := P235_6
  show own_Fin p e below (T235.setTop (mkF m 9 #[.val (.ref a), .unset, .unset, .unset, .unset, .unset, .unset, .unset] [(.ref b232)])) _
  refine own_go (fun _ k => XS.astoreN X235.here hx rfl (hb hby d1_9) rfl rfl (l' := #[.val (.ref a), .val (.ref b232), .unset, .unset, .unset, .unset, .unset, .unset]) rfl (XS.aloadN X235.here hx rfl (hb hby d1_10) rfl rfl (XS.astoreN X235.here hx rfl (hb hby d1_11) rfl rfl (l' := #[.val (.ref a), .val (.ref b232), .val (.ref a), .unset, .unset, .unset, .unset, .unset]) rfl (XS.aloadN X235.here hx rfl (hb hby d1_12) rfl rfl k)))) ?_
  show own_Fin p e below (T235.setTop (mkF m 13 #[.val (.ref a), .val (.ref b232), .val (.ref a), .unset, .unset, .unset, .unset, .unset] [(.ref a)])) _
  obtain ⟨cl239, A239, -, S239, M239, -, -⟩ := id V_a
  refine own_go (fun _ k => X235.arraylength hx (own_eqE rfl A239.1) (State.isArrayOf_alike hZ.alike A239.2.1) (g := (mkF m 13 #[.val (.ref a), .val (.ref b232), .val (.ref a), .unset, .unset, .unset, .unset, .unset] [(.ref a)])) rfl rfl (hb hby d1_13) _ (by rw [len_of S239 M239]; exact k)) ?_
  show own_Fin p e below (T235.setTop (mkF m 14 #[.val (.ref a), .val (.ref b232), .val (.ref a), .unset, .unset, .unset, .unset, .unset] [(.int 1)])) _
  refine own_go (fun _ k => XS.istoreN X235.here hx rfl (hb hby d1_14) rfl (l' := #[.val (.ref a), .val (.ref b232), .val (.ref a), .val (.int 1), .unset, .unset, .unset, .unset]) rfl (XS.iconst X235.here hx rfl (hb hby d1_15) (XS.istore X235.here hx rfl (hb hby d1_16) rfl (l' := #[.val (.ref a), .val (.ref b232), .val (.ref a), .val (.int 1), .val (.int 0), .unset, .unset, .unset]) rfl (XS.iload X235.here hx rfl (hb hby d1_18) rfl (XS.iloadN X235.here hx rfl (hb hby d1_20) rfl k))))) ?_
  show own_Fin p e below (T235.setTop (mkF m 21 #[.val (.ref a), .val (.ref b232), .val (.ref a), .val (.int 1), .val (.int 0), .unset, .unset, .unset] [(.int 1), (.int 0)])) _
  skip
  have lp1 : ∀ (T240 : State) (L240 : List Loc) (h240 : Heap) (tl : Addr) (kl : ClassId) (Nl : Int32) (vl : List Value) (cl : Int32) (s5l : Slot) (s6l : Slot) (s7l : Slot), Stand p l e ({ frames := 6, cells := 7, slots := 72, locals := 91 } : Room) s m #[(.ref a)] below meth c T240 L240 5 59 → T240.heap = h240 → Fr n0 L240 → Old Z n0 h240 → Keep h0 h240 [] → Arv Z h240 a ka .byte (1 : Int32) [(.int x0_)] (.int 0) → Exa Z h240 b232 "java/lang/StringBuilder" → Fld Z h240 b232 "java/lang/AbstractStringBuilder" "value" "[B" (.ref tl) → Fld Z h240 b232 "java/lang/AbstractStringBuilder" "coder" "B" (.int 0) → Fld Z h240 b232 "java/lang/AbstractStringBuilder" "count" "I" (.int cl) → Arv Z h240 tl kl .byte Nl vl (.int 0) → Exa Z h240 tl "[B" → One s5l → One s6l → One s7l → n0 ≤ tl → h0.size ≤ tl → a ≠ tl → b232 ≠ tl → own_ok Nl vl cl → vl.take cl.toNatClampNeg = (own_enc x0_) → cl = Int32.ofNat (own_enc x0_).length → own_Fin p e below (T240.setTop (mkF m 21 #[.val (.ref a), .val (.ref b232), .val (.ref a), .val (.int 1), .val (.int 1), s5l, s6l, s7l] [(.int 1), (.int 1)])) (fun o' t' => ∃ v' L', o' = .returned v' ∧ Qen1 Z a z ka x0_ hxa kh h0 n0 v' t'.heap L' ∧ FrameEnd s o' t' L' ({ frames := 6, cells := 7, slots := 72, locals := 91 } : Room).cells ({ frames := 6, cells := 7, slots := 72, locals := 91 } : Room).slots) := by
   intro T240 L240 h240 tl kl Nl vl cl s5l s6l s7l X240 e240 N240 O K240 V_a E_b232 F_b232_ASB_value F_b232_ASB_coder F_b232_ASB_count V_tl E_tl o5l o6l o7l g_tl sz_tl ne_a_tl ne_b_tl hokl htkl hcl
   show own_Fin p e below (T240.setTop (mkF m 21 #[.val (.ref a), .val (.ref b232), .val (.ref a), .val (.int 1), .val (.int 1), s5l, s6l, s7l] [(.int 1), (.int 1)])) _
   refine own_go (fun _ k => XS.icmpYes X240.here hx rfl (pc0 := 21) (pc' := 167) rfl (hb hby d1_21) rfl (flt (by decide : ¬ ((1 : Int32) < (1 : Int32)))).2.1 (by decide) (by decide) (XS.aloadN X240.here hx rfl (hb hby d1_167) rfl rfl k)) ?_
   show own_Fin p e below (T240.setTop (mkF m 168 #[.val (.ref a), .val (.ref b232), .val (.ref a), .val (.int 1), .val (.int 1), s5l, s6l, s7l] [(.ref b232)])) _
   by_cases hse : cl = Nl
   ·show own_Fin p e below (T240.setTop (mkF m 168 #[.val (.ref a), .val (.ref b232), .val (.ref a), .val (.int 1), .val (.int 1), s5l, s6l, s7l] [(.ref b232)])) _
    obtain ⟨cq241, kq241, q241a, q241b, q241c⟩ := isOf hZ e240 E_b232
    obtain ⟨_, _, ⟨T241, L241, k241, n241⟩, -, X241, ⟨Lc241, hQ241, l241, y241, z241⟩, st241⟩ := X240.virtualBack hx (y := (⟨"java/lang/StringBuilder", "toString", "()Ljava/lang/String;"⟩ : MethodName)) (z := (⟨"java/lang/StringBuilder", "toString", "()Ljava/lang/String;"⟩ : MethodName)) hown (mvT hZ (ow hw 26)) (mvT hZ (ow hw 27)) (notFace_of_selects (args := #[]) (mvT hZ (ow hw 29))) (mvT hZ (ow hw 29)) (mvT hZ (ow hw 28)) (by decide) (backOf (W := 0) (tsE l Z a0 hw [] b232 z tl kl Nl vl cl h240 n0 O S_String_COMPACT_STRINGS hz E_b232 F_b232_ASB_value F_b232_ASB_coder F_b232_ASB_count V_tl E_tl (own_nn hokl.1) (own_t1 hokl) (own_t2 hokl) (own_t3 hcl (own_lb1 _)) hse (own_t4 hokl hse)) hZ (ow hw 30) (ow hw 7) (by decide) (by decide)) q241a q241c (g := (mkF m 168 #[.val (.ref a), .val (.ref b232), .val (.ref a), .val (.int 1), .val (.int 1), s5l, s6l, s7l] [(.ref b232)])) rfl (by rw [hml]; rfl) (Steps.refl _) (argsL := []) (rest := []) (lenOf pd_14 rfl) rfl (by show 2 * 0 + _ ≤ _; exact Nat.le_of_eq rfl) (hb hby d1_168) (fun _ _ => ⟨rfl, e240, (by decide : 5 + 2 ≤ _), (by decide : 59 + 13 ≤ _)⟩)
    dsimp only [Pt.U, Pt.locs, Pt.cells, Pt.slots] at X241 l241 y241 z241 st241 hQ241
    subst l241 y241 z241
    obtain ⟨s_242, t2_243, k2_244, rfl, N241q, Kq241, P241_0, P241_1, P241_2, P241_3, P241_4, P241_5, P241_6⟩ := hQ241
    refine own_go (fun _ k => st241.trans k) ?_
    have N241 := Fr.app N240 N241q
    have ne_a_s_242 : a ≠ s_242 := Nat.ne_of_lt (Nat.lt_of_lt_of_le V_a.lt P241_0)
    have ne_b232_s_242 : b232 ≠ s_242 := Nat.ne_of_lt (Nat.lt_of_lt_of_le E_b232.lt P241_0)
    have ne_tl_s_242 : tl ≠ s_242 := Nat.ne_of_lt (Nat.lt_of_lt_of_le V_tl.lt P241_0)
    have g_s_242 : n0 ≤ s_242 := Nat.le_trans (own_osz O) P241_0
    have sz_s_242 : h0.size ≤ s_242 := Nat.le_trans K240.1 P241_0
    have ne_a_t2_243 : a ≠ t2_243 := Nat.ne_of_lt (Nat.lt_of_lt_of_le V_a.lt P241_2)
    have ne_b232_t2_243 : b232 ≠ t2_243 := Nat.ne_of_lt (Nat.lt_of_lt_of_le E_b232.lt P241_2)
    have ne_tl_t2_243 : tl ≠ t2_243 := Nat.ne_of_lt (Nat.lt_of_lt_of_le V_tl.lt P241_2)
    have g_t2_243 : n0 ≤ t2_243 := Nat.le_trans (own_osz O) P241_2
    have sz_t2_243 : h0.size ≤ t2_243 := Nat.le_trans K240.1 P241_2
    have V_a := V_a.keep Kq241 nin0
    have E_b232 := E_b232.keep Kq241
    have F_b232_ASB_value := F_b232_ASB_value.keep Kq241 nin0
    have F_b232_ASB_coder := F_b232_ASB_coder.keep Kq241 nin0
    have F_b232_ASB_count := F_b232_ASB_count.keep Kq241 nin0
    have V_tl := V_tl.keep Kq241 nin0
    have E_tl := E_tl.keep Kq241
    have O := O.keep Kq241 all0
    have K245 := K240.trans Kq241 all0
    have E_s_242 := P241_3
    have F_s_242_String_coder := P241_4
    have F_s_242_String_value := P241_5
    have V_t2_243 := P241_6
    show own_Fin p e below (T241.setTop (mkF m 171 #[.val (.ref a), .val (.ref b232), .val (.ref a), .val (.int 1), .val (.int 1), s5l, s6l, s7l] [(.ref s_242)])) _
    obtain ⟨fs, hr, hrun, hended, hW, hsame⟩ := X241.leave (v := some (.ref s_242)) (fun h => by rw [Bd.returns] at h; cases h)
    refine ⟨_, _, ?_, hrun, hended, _, _, rfl, ?_, ⟨_, rfl⟩, hW, hsame.mono (by decide) (by decide)⟩
    ·exact X241.areturnOut hx rfl Bd.returns rfl (hb hby d1_171) hr
    ·show Qen1 Z a z ka x0_ hxa kh h0 n0 _ T241.heap _
     exact ⟨s_242, t2_243, k2_244, rfl, N241, K245, sz_s_242, sz_t2_243, E_s_242, F_s_242_String_coder, F_s_242_String_value, (by rw [htkl, hcl] at V_t2_243; exact V_t2_243)⟩
   ·show own_Fin p e below (T240.setTop (mkF m 168 #[.val (.ref a), .val (.ref b232), .val (.ref a), .val (.int 1), .val (.int 1), s5l, s6l, s7l] [(.ref b232)])) _
    obtain ⟨cq247, kq247, q247a, q247b, q247c⟩ := isOf hZ e240 E_b232
    obtain ⟨_, _, ⟨T247, L247, k247, n247⟩, -, X247, ⟨Lc247, hQ247, l247, y247, z247⟩, st247⟩ := X240.virtualBack hx (y := (⟨"java/lang/StringBuilder", "toString", "()Ljava/lang/String;"⟩ : MethodName)) (z := (⟨"java/lang/StringBuilder", "toString", "()Ljava/lang/String;"⟩ : MethodName)) hown (mvT hZ (ow hw 26)) (mvT hZ (ow hw 27)) (notFace_of_selects (args := #[]) (mvT hZ (ow hw 29))) (mvT hZ (ow hw 29)) (mvT hZ (ow hw 28)) (by decide) (backOf (W := 0) (tsL l Z a0 hw [] b232 z tl kl Nl vl cl h240 n0 O S_String_COMPACT_STRINGS hz E_b232 F_b232_ASB_value F_b232_ASB_coder F_b232_ASB_count V_tl E_tl (own_nn hokl.1) (own_t1 hokl) (own_t2 hokl) (own_t3 hcl (own_lb1 _)) (own_inn hokl hse).2 hse) hZ (ow hw 30) (ow hw 7) (by decide) (by decide)) q247a q247c (g := (mkF m 168 #[.val (.ref a), .val (.ref b232), .val (.ref a), .val (.int 1), .val (.int 1), s5l, s6l, s7l] [(.ref b232)])) rfl (by rw [hml]; rfl) (Steps.refl _) (argsL := []) (rest := []) (lenOf pd_14 rfl) rfl (by show 2 * 0 + _ ≤ _; exact Nat.le_of_eq rfl) (hb hby d1_168) (fun _ _ => ⟨rfl, e240, (by decide : 5 + 2 ≤ _), (by decide : 59 + 13 ≤ _)⟩)
    dsimp only [Pt.U, Pt.locs, Pt.cells, Pt.slots] at X247 l247 y247 z247 st247 hQ247
    subst l247 y247 z247
    obtain ⟨s_248, t2_249, k2_250, rfl, N247q, Kq247, P247_0, P247_1, P247_2, P247_3, P247_4, P247_5, P247_6⟩ := hQ247
    refine own_go (fun _ k => st247.trans k) ?_
    have N247 := Fr.app N240 N247q
    have ne_a_s_248 : a ≠ s_248 := Nat.ne_of_lt (Nat.lt_of_lt_of_le V_a.lt P247_0)
    have ne_b232_s_248 : b232 ≠ s_248 := Nat.ne_of_lt (Nat.lt_of_lt_of_le E_b232.lt P247_0)
    have ne_tl_s_248 : tl ≠ s_248 := Nat.ne_of_lt (Nat.lt_of_lt_of_le V_tl.lt P247_0)
    have g_s_248 : n0 ≤ s_248 := Nat.le_trans (own_osz O) P247_0
    have sz_s_248 : h0.size ≤ s_248 := Nat.le_trans K240.1 P247_0
    have ne_a_t2_249 : a ≠ t2_249 := Nat.ne_of_lt (Nat.lt_of_lt_of_le V_a.lt P247_2)
    have ne_b232_t2_249 : b232 ≠ t2_249 := Nat.ne_of_lt (Nat.lt_of_lt_of_le E_b232.lt P247_2)
    have ne_tl_t2_249 : tl ≠ t2_249 := Nat.ne_of_lt (Nat.lt_of_lt_of_le V_tl.lt P247_2)
    have g_t2_249 : n0 ≤ t2_249 := Nat.le_trans (own_osz O) P247_2
    have sz_t2_249 : h0.size ≤ t2_249 := Nat.le_trans K240.1 P247_2
    have V_a := V_a.keep Kq247 nin0
    have E_b232 := E_b232.keep Kq247
    have F_b232_ASB_value := F_b232_ASB_value.keep Kq247 nin0
    have F_b232_ASB_coder := F_b232_ASB_coder.keep Kq247 nin0
    have F_b232_ASB_count := F_b232_ASB_count.keep Kq247 nin0
    have V_tl := V_tl.keep Kq247 nin0
    have E_tl := E_tl.keep Kq247
    have O := O.keep Kq247 all0
    have K251 := K240.trans Kq247 all0
    have E_s_248 := P247_3
    have F_s_248_String_coder := P247_4
    have F_s_248_String_value := P247_5
    have V_t2_249 := P247_6
    show own_Fin p e below (T247.setTop (mkF m 171 #[.val (.ref a), .val (.ref b232), .val (.ref a), .val (.int 1), .val (.int 1), s5l, s6l, s7l] [(.ref s_248)])) _
    obtain ⟨fs, hr, hrun, hended, hW, hsame⟩ := X247.leave (v := some (.ref s_248)) (fun h => by rw [Bd.returns] at h; cases h)
    refine ⟨_, _, ?_, hrun, hended, _, _, rfl, ?_, ⟨_, rfl⟩, hW, hsame.mono (by decide) (by decide)⟩
    ·exact X247.areturnOut hx rfl Bd.returns rfl (hb hby d1_171) hr
    ·show Qen1 Z a z ka x0_ hxa kh h0 n0 _ T247.heap _
     exact ⟨s_248, t2_249, k2_250, rfl, N247, K251, sz_s_248, sz_t2_249, E_s_248, F_s_248_String_coder, F_s_248_String_value, (by rw [htkl, hcl] at V_t2_249; exact V_t2_249)⟩
  have hokl : own_ok (1 : Int32) [(.int 0)] (0 : Int32) := ⟨by decide, by decide, by decide, rfl⟩
  have htkl : List.take (0 : Int32).toNatClampNeg [(.int 0)] = ([] : List Value) := rfl
  have hcl : (0 : Int32) = Int32.ofNat ([] : List Value).length := rfl
  show own_Fin p e below (T235.setTop (mkF m 21 #[.val (.ref a), .val (.ref b232), .val (.ref a), .val (.int 1), .val (.int 0), .unset, .unset, .unset] [(.int 1), (.int 0)])) _
  refine own_go (fun _ k => XS.icmpNo X235.here hx rfl (hb hby d1_21) rfl (tlt (by decide : (0 : Int32) < (1 : Int32))).2.1 (XS.aloadN X235.here hx rfl (hb hby d1_24) rfl rfl (XS.iload X235.here hx rfl (hb hby d1_25) rfl k))) ?_
  show own_Fin p e below (T235.setTop (mkF m 27 #[.val (.ref a), .val (.ref b232), .val (.ref a), .val (.int 1), .val (.int 0), .unset, .unset, .unset] [(.int 0), (.ref a)])) _
  obtain ⟨cl253, A253, q253, S253, M253, H253, G253⟩ := id V_a
  have hin253 : ¬ ((0 : Int32) < 0 ∨ cl253.slots.size ≤ ((0 : Int32)).toNatClampNeg) := inb_of S253 ⟨by decide, by decide⟩
  have hat253 : cl253.slots[((0 : Int32)).toNatClampNeg]? = some (.int x0_) := Has.at H253 hin253 rfl
  refine own_go (fun _ k => X235.baloadBytes hx (j := (0 : Int32)) (v := (.int x0_)) (own_eqE rfl A253.1) (State.isArrayOf_alike hZ.alike A253.2.1) A253.2.2 hin253 hat253 (g := (mkF m 27 #[.val (.ref a), .val (.ref b232), .val (.ref a), .val (.int 1), .val (.int 0), .unset, .unset, .unset] [(.int 0), (.ref a)])) rfl rfl (hb hby d1_27) _ k) ?_
  show own_Fin p e below (T235.setTop (mkF m 28 #[.val (.ref a), .val (.ref b232), .val (.ref a), .val (.int 1), .val (.int 0), .unset, .unset, .unset] [(.int x0_)])) _
  refine own_go (fun _ k => XS.istore X235.here hx rfl (hb hby d1_28) rfl (l' := #[.val (.ref a), .val (.ref b232), .val (.ref a), .val (.int 1), .val (.int 0), .val (.int x0_), .unset, .unset]) rfl (XS.iload X235.here hx rfl (hb hby d1_30) rfl (XS.sipush X235.here hx rfl (hb hby d1_32) (XS.iand X235.here hx rfl (hb hby d1_35) rfl (XS.istore X235.here hx rfl (hb hby d1_36) rfl (l' := #[.val (.ref a), .val (.ref b232), .val (.ref a), .val (.int 1), .val (.int 0), .val (.int x0_), .val (.int (x0_ &&& (255 : Int32))), .unset]) rfl k))))) ?_
  show own_Fin p e below (T235.setTop (mkF m 38 #[.val (.ref a), .val (.ref b232), .val (.ref a), .val (.int 1), .val (.int 0), .val (.int x0_), .val (.int (x0_ &&& (255 : Int32))), .unset] [])) _
  refine chk _ _ _ _ X235 _ _ _ _ _ _ _ _ ?_
  intro f hf
  show own_Fin p e below (T235.setTop (mkF m 113 #[.val (.ref a), .val (.ref b232), .val (.ref a), .val (.int 1), .val (.int 0), .val (.int x0_), .val (.int (x0_ &&& (255 : Int32))), .unset] [(.int f)])) _
  refine own_go (fun _ k => XS.istore X235.here hx rfl (hb hby d1_113) rfl (l' := #[.val (.ref a), .val (.ref b232), .val (.ref a), .val (.int 1), .val (.int 0), .val (.int x0_), .val (.int (x0_ &&& (255 : Int32))), .val (.int f)]) rfl k) ?_
  show own_Fin p e below (T235.setTop (mkF m 115 #[.val (.ref a), .val (.ref b232), .val (.ref a), .val (.int 1), .val (.int 0), .val (.int x0_), .val (.int (x0_ &&& (255 : Int32))), .val (.int f)] [])) _
  by_cases hsU : own_unres (x0_ &&& (255 : Int32))
  ·rw [own_bi1 hsU] at hf; subst hf
   show own_Fin p e below (T235.setTop (mkF m 115 #[.val (.ref a), .val (.ref b232), .val (.ref a), .val (.int 1), .val (.int 0), .val (.int x0_), .val (.int (x0_ &&& (255 : Int32))), .val (.int 1)] [])) _
   refine own_go (fun _ k => XS.iload X235.here hx rfl (hb hby d1_115) rfl (XS.ifNo X235.here hx rfl (hb hby d1_117) rfl ((if0 _ _).trans (feq (by decide : ¬ ((1 : Int32) = (0 : Int32)))).1) (XS.aloadN X235.here hx rfl (hb hby d1_120) rfl rfl (XS.iload X235.here hx rfl (hb hby d1_121) rfl (XS.i2c X235.here hx rfl (hb hby d1_123) rfl k))))) ?_
   show own_Fin p e below (T235.setTop (mkF m 124 #[.val (.ref a), .val (.ref b232), .val (.ref a), .val (.int 1), .val (.int 0), .val (.int x0_), .val (.int (x0_ &&& (255 : Int32))), .val (.int 1)] [(.int ((x0_ &&& (255 : Int32)).toUInt32.toUInt16.toUInt32.toInt32)), (.ref b232)])) _
   have lt_a254 := V_a
   obtain ⟨cq255, kq255, q255a, q255b, q255c⟩ := isOf hZ rfl E_b232
   obtain ⟨_, _, ⟨T255, L255, k255, n255⟩, -, X255, ⟨Lc255, hQ255, l255, y255, z255⟩, st255⟩ := X235.virtualBack hx (y := (⟨"java/lang/StringBuilder", "append", "(C)Ljava/lang/StringBuilder;"⟩ : MethodName)) (z := (⟨"java/lang/StringBuilder", "append", "(C)Ljava/lang/StringBuilder;"⟩ : MethodName)) hown (mvT hZ (ow hw 90)) (mvT hZ (ow hw 91)) (notFace_of_selects (args := #[]) (mvT hZ (ow hw 93))) (mvT hZ (ow hw 93)) (mvT hZ (ow hw 92)) (by decide) (backOf (W := 0) (sap l Z a0 hw [] b232 ((x0_ &&& (255 : Int32)).toUInt32.toUInt16.toUInt32.toInt32) z t_236 k_237 (1 : Int32) [(.int 0)] (0 : Int32) (T235.heap) n0 O S_String_COMPACT_STRINGS hz E_b232 F_b232_ASB_value F_b232_ASB_coder F_b232_ASB_count V_t_236 E_t_236 g_b232 g_t_236 ne_b232_t_236 (own_c255 _) hokl (own_h8a hcl (own_lb0 ))) hZ (ow hw 94) (ow hw 7) (by decide) (by decide)) q255a q255c (g := (mkF m 124 #[.val (.ref a), .val (.ref b232), .val (.ref a), .val (.int 1), .val (.int 0), .val (.int x0_), .val (.int (x0_ &&& (255 : Int32))), .val (.int 1)] [(.int ((x0_ &&& (255 : Int32)).toUInt32.toUInt16.toUInt32.toInt32)), (.ref b232)])) rfl (by rw [hml]; rfl) (Steps.refl _) (argsL := [(.int ((x0_ &&& (255 : Int32)).toUInt32.toUInt16.toUInt32.toInt32))]) (rest := []) (lenOf pd_15 rfl) rfl (by show 2 * 0 + _ ≤ _; exact Nat.le_of_eq rfl) (hb hby d1_124) (fun _ _ => ⟨rfl, rfl, (by decide : 2 + 1 ≤ _), (by decide : 5 + 18 ≤ _)⟩)
   dsimp only [Pt.U, Pt.locs, Pt.cells, Pt.slots] at X255 l255 y255 z255 st255 hQ255
   subst l255 y255 z255
   obtain ⟨t2_256, k2_257, N2_258, vs2_259, rfl, N255q, Kq255, P255_0, P255_1, P255_2, P255_3, P255_4, P255_5, P255_6, P255_7, P255_8, P255_9, P255_10⟩ := hQ255
   refine own_go (fun _ k => st255.trans k) ?_
   have N255 := Fr.app N235 N255q
   have V_a := V_a.keep Kq255 (ninS ne_a_b232 (ninS ne_a_t_236 nin0))
   have E_b232 := E_b232.keep Kq255
   clear F_b232_ASB_value
   clear F_b232_ASB_coder
   clear F_b232_ASB_count
   clear V_t_236
   have E_t_236 := E_t_236.keep Kq255
   have O := O.keep Kq255 (allS g_b232 (allS g_t_236 all0))
   have K260 := K238.trans Kq255 (allS (Or.inr sz_b232) (allS (Or.inr sz_t_236) all0))
   have E_b232 := P255_3
   have F_b232_ASB_value := P255_4
   have F_b232_ASB_coder := P255_5
   have F_b232_ASB_count := P255_6
   have V_t2_256 := P255_7
   have E_t2_256 := P255_8
   have sz_t2_256 : h0.size ≤ t2_256 := P255_0.elim (fun q => by rw [q]; exact sz_t_236) (fun q => Nat.le_trans K238.1 q)
   have ne_a_t2_256 : a ≠ t2_256 := P255_0.elim (fun q => by rw [q]; exact ne_a_t_236) (fun q => Nat.ne_of_lt (Nat.lt_of_lt_of_le lt_a254.lt q))
   show own_Fin p e below (T255.setTop (mkF m 127 #[.val (.ref a), .val (.ref b232), .val (.ref a), .val (.int 1), .val (.int 0), .val (.int x0_), .val (.int (x0_ &&& (255 : Int32))), .val (.int 1)] [(.ref b232)])) _
   refine own_go (fun _ k => XS.pop X255.here hx rfl (hb hby d1_127) rfl rfl (XS.goto X255.here hx rfl (pc0 := 128) (pc' := 161) rfl (hb hby d1_128) (by decide) (by decide) (XS.iinc X255.here hx rfl (hb hby d1_161) rfl (l' := #[.val (.ref a), .val (.ref b232), .val (.ref a), .val (.int 1), .val (.int 1), .val (.int x0_), .val (.int (x0_ &&& (255 : Int32))), .val (.int 1)]) rfl (XS.goto X255.here hx rfl (pc0 := 164) (pc' := 18) rfl (hb hby d1_164) (by decide) (by decide) (XS.iload X255.here hx rfl (hb hby d1_18) rfl (XS.iloadN X255.here hx rfl (hb hby d1_20) rfl k)))))) ?_
   show own_Fin p e below (T255.setTop (mkF m 21 #[.val (.ref a), .val (.ref b232), .val (.ref a), .val (.int 1), .val (.int 1), .val (.int x0_), .val (.int (x0_ &&& (255 : Int32))), .val (.int 1)] [(.int 1), (.int 1)])) _
   exact lp1 _ _ _ t2_256 k2_257 _ _ _ _ _ _ (X255.more (by decide) (by decide)) rfl N255 O K260 V_a E_b232 F_b232_ASB_value F_b232_ASB_coder F_b232_ASB_count V_t2_256 E_t2_256 (One.val rfl) (One.val rfl) (One.val rfl) P255_1 sz_t2_256 ne_a_t2_256 P255_2 P255_9 (own_jn0T hsU htkl P255_10) (own_jc0T hsU hcl (own_lb0 ))
  ·rw [own_bi0 hsU] at hf; subst hf
   show own_Fin p e below (T235.setTop (mkF m 115 #[.val (.ref a), .val (.ref b232), .val (.ref a), .val (.int 1), .val (.int 0), .val (.int x0_), .val (.int (x0_ &&& (255 : Int32))), .val (.int 0)] [])) _
   refine own_go (fun _ k => XS.iload X235.here hx rfl (hb hby d1_115) rfl (XS.ifYes X235.here hx rfl (pc0 := 117) (pc' := 131) rfl (hb hby d1_117) rfl ((if0 _ _).trans (teq (by decide : (0 : Int32) = (0 : Int32))).1) (by decide) (by decide) (XS.aloadN X235.here hx rfl (hb hby d1_131) rfl rfl (XS.bipush X235.here hx rfl (hb hby d1_132) k)))) ?_
   show own_Fin p e below (T235.setTop (mkF m 134 #[.val (.ref a), .val (.ref b232), .val (.ref a), .val (.int 1), .val (.int 0), .val (.int x0_), .val (.int (x0_ &&& (255 : Int32))), .val (.int 0)] [(.int 37), (.ref b232)])) _
   have lt_a261 := V_a
   obtain ⟨cq262, kq262, q262a, q262b, q262c⟩ := isOf hZ rfl E_b232
   obtain ⟨_, _, ⟨T262, L262, k262, n262⟩, -, X262, ⟨Lc262, hQ262, l262, y262, z262⟩, st262⟩ := X235.virtualBack hx (y := (⟨"java/lang/StringBuilder", "append", "(C)Ljava/lang/StringBuilder;"⟩ : MethodName)) (z := (⟨"java/lang/StringBuilder", "append", "(C)Ljava/lang/StringBuilder;"⟩ : MethodName)) hown (mvT hZ (ow hw 90)) (mvT hZ (ow hw 91)) (notFace_of_selects (args := #[]) (mvT hZ (ow hw 93))) (mvT hZ (ow hw 93)) (mvT hZ (ow hw 92)) (by decide) (backOf (W := 0) (sap l Z a0 hw [] b232 (37 : Int32) z t_236 k_237 (1 : Int32) [(.int 0)] (0 : Int32) (T235.heap) n0 O S_String_COMPACT_STRINGS hz E_b232 F_b232_ASB_value F_b232_ASB_coder F_b232_ASB_count V_t_236 E_t_236 g_b232 g_t_236 ne_b232_t_236 (by decide) hokl (own_h8a hcl (own_lb0 ))) hZ (ow hw 94) (ow hw 7) (by decide) (by decide)) q262a q262c (g := (mkF m 134 #[.val (.ref a), .val (.ref b232), .val (.ref a), .val (.int 1), .val (.int 0), .val (.int x0_), .val (.int (x0_ &&& (255 : Int32))), .val (.int 0)] [(.int 37), (.ref b232)])) rfl (by rw [hml]; rfl) (Steps.refl _) (argsL := [(.int 37)]) (rest := []) (lenOf pd_15 rfl) rfl (by show 2 * 0 + _ ≤ _; exact Nat.le_of_eq rfl) (hb hby d1_134) (fun _ _ => ⟨rfl, rfl, (by decide : 2 + 1 ≤ _), (by decide : 5 + 18 ≤ _)⟩)
   dsimp only [Pt.U, Pt.locs, Pt.cells, Pt.slots] at X262 l262 y262 z262 st262 hQ262
   subst l262 y262 z262
   obtain ⟨t2_263, k2_264, N2_265, vs2_266, rfl, N262q, Kq262, P262_0, P262_1, P262_2, P262_3, P262_4, P262_5, P262_6, P262_7, P262_8, P262_9, P262_10⟩ := hQ262
   refine own_go (fun _ k => st262.trans k) ?_
   have N262 := Fr.app N235 N262q
   have V_a := V_a.keep Kq262 (ninS ne_a_b232 (ninS ne_a_t_236 nin0))
   have E_b232 := E_b232.keep Kq262
   clear F_b232_ASB_value
   clear F_b232_ASB_coder
   clear F_b232_ASB_count
   clear V_t_236
   have E_t_236 := E_t_236.keep Kq262
   have O := O.keep Kq262 (allS g_b232 (allS g_t_236 all0))
   have K267 := K238.trans Kq262 (allS (Or.inr sz_b232) (allS (Or.inr sz_t_236) all0))
   have E_b232 := P262_3
   have F_b232_ASB_value := P262_4
   have F_b232_ASB_coder := P262_5
   have F_b232_ASB_count := P262_6
   have V_t2_263 := P262_7
   have E_t2_263 := P262_8
   have sz_t2_263 : h0.size ≤ t2_263 := P262_0.elim (fun q => by rw [q]; exact sz_t_236) (fun q => Nat.le_trans K238.1 q)
   have ne_a_t2_263 : a ≠ t2_263 := P262_0.elim (fun q => by rw [q]; exact ne_a_t_236) (fun q => Nat.ne_of_lt (Nat.lt_of_lt_of_le lt_a261.lt q))
   show own_Fin p e below (T262.setTop (mkF m 137 #[.val (.ref a), .val (.ref b232), .val (.ref a), .val (.int 1), .val (.int 0), .val (.int x0_), .val (.int (x0_ &&& (255 : Int32))), .val (.int 0)] [(.ref b232)])) _
   obtain ⟨T268, X268, e268, st268⟩ := getS2 X262 hx hZ hown (host := "") (Or.inl (ow hw 109)) Via.refl rfl (S_Uris_HEX.ext O.2) (g := (mkF m 137 #[.val (.ref a), .val (.ref b232), .val (.ref a), .val (.int 1), .val (.int 0), .val (.int x0_), .val (.int (x0_ &&& (255 : Int32))), .val (.int 0)] [(.ref b232)])) rfl (hb hby d1_137)
   refine own_go (fun _ k => st268 _ k) ?_
   show own_Fin p e below (T268.setTop (mkF m 140 #[.val (.ref a), .val (.ref b232), .val (.ref a), .val (.int 1), .val (.int 0), .val (.int x0_), .val (.int (x0_ &&& (255 : Int32))), .val (.int 0)] [(.ref hxa), (.ref b232)])) _
   refine own_go (fun _ k => XS.iload X268.here hx rfl (hb hby d1_140) rfl (XS.iconst X268.here hx rfl (hb hby d1_142) (XS.ishr X268.here hx rfl (hb hby d1_143) rfl k))) ?_
   show own_Fin p e below (T268.setTop (mkF m 144 #[.val (.ref a), .val (.ref b232), .val (.ref a), .val (.int 1), .val (.int 0), .val (.int x0_), .val (.int (x0_ &&& (255 : Int32))), .val (.int 0)] [(.int ((x0_ &&& (255 : Int32)) >>> ((4 : Int32) &&& 31))), (.ref hxa), (.ref b232)])) _
   obtain ⟨cl269, A269, q269, S269, M269, H269, G269⟩ := id (V_hxa.ext O.2)
   have hin269 : ¬ (((x0_ &&& (255 : Int32)) >>> ((4 : Int32) &&& 31)) < 0 ∨ cl269.slots.size ≤ (((x0_ &&& (255 : Int32)) >>> ((4 : Int32) &&& 31))).toNatClampNeg) := inb_of S269 (own_in16 _)
   have hat269 : cl269.slots[(((x0_ &&& (255 : Int32)) >>> ((4 : Int32) &&& 31))).toNatClampNeg]? = some (.int (own_hv ((x0_ &&& (255 : Int32)) >>> ((4 : Int32) &&& 31)))) := Has.at H269 hin269 (own_hget _)
   refine own_go (fun _ k => X268.caload hx (j := ((x0_ &&& (255 : Int32)) >>> ((4 : Int32) &&& 31))) (v := (.int (own_hv ((x0_ &&& (255 : Int32)) >>> ((4 : Int32) &&& 31))))) (own_eqE e268 A269.1) (State.isArrayOf_alike hZ.alike A269.2.1) A269.2.2 hin269 hat269 (g := (mkF m 144 #[.val (.ref a), .val (.ref b232), .val (.ref a), .val (.int 1), .val (.int 0), .val (.int x0_), .val (.int (x0_ &&& (255 : Int32))), .val (.int 0)] [(.int ((x0_ &&& (255 : Int32)) >>> ((4 : Int32) &&& 31))), (.ref hxa), (.ref b232)])) rfl rfl (hb hby d1_144) _ k) ?_
   show own_Fin p e below (T268.setTop (mkF m 145 #[.val (.ref a), .val (.ref b232), .val (.ref a), .val (.int 1), .val (.int 0), .val (.int x0_), .val (.int (x0_ &&& (255 : Int32))), .val (.int 0)] [(.int (own_hv ((x0_ &&& (255 : Int32)) >>> ((4 : Int32) &&& 31)))), (.ref b232)])) _
   have lt_a270 := V_a
   obtain ⟨cq271, kq271, q271a, q271b, q271c⟩ := isOf hZ e268 E_b232
   obtain ⟨_, _, ⟨T271, L271, k271, n271⟩, -, X271, ⟨Lc271, hQ271, l271, y271, z271⟩, st271⟩ := X268.virtualBack hx (y := (⟨"java/lang/StringBuilder", "append", "(C)Ljava/lang/StringBuilder;"⟩ : MethodName)) (z := (⟨"java/lang/StringBuilder", "append", "(C)Ljava/lang/StringBuilder;"⟩ : MethodName)) hown (mvT hZ (ow hw 90)) (mvT hZ (ow hw 91)) (notFace_of_selects (args := #[]) (mvT hZ (ow hw 93))) (mvT hZ (ow hw 93)) (mvT hZ (ow hw 92)) (by decide) (backOf (W := 0) (sap l Z a0 hw [] b232 (own_hv ((x0_ &&& (255 : Int32)) >>> ((4 : Int32) &&& 31))) z t2_263 k2_264 N2_265 vs2_266 ((0 : Int32) + (1 : Int32)) (T262.heap) n0 O S_String_COMPACT_STRINGS hz E_b232 F_b232_ASB_value F_b232_ASB_coder F_b232_ASB_count V_t2_263 E_t2_263 g_b232 P262_1 P262_2 (own_hv255 _) P262_9 (own_h8b hcl (own_lb0 ))) hZ (ow hw 94) (ow hw 7) (by decide) (by decide)) q271a q271c (g := (mkF m 145 #[.val (.ref a), .val (.ref b232), .val (.ref a), .val (.int 1), .val (.int 0), .val (.int x0_), .val (.int (x0_ &&& (255 : Int32))), .val (.int 0)] [(.int (own_hv ((x0_ &&& (255 : Int32)) >>> ((4 : Int32) &&& 31)))), (.ref b232)])) rfl (by rw [hml]; rfl) (Steps.refl _) (argsL := [(.int (own_hv ((x0_ &&& (255 : Int32)) >>> ((4 : Int32) &&& 31))))]) (rest := []) (lenOf pd_15 rfl) rfl (by show 2 * 0 + _ ≤ _; exact Nat.le_of_eq rfl) (hb hby d1_145) (fun _ _ => ⟨rfl, e268, (by decide : 3 + 1 ≤ _), (by decide : 23 + 18 ≤ _)⟩)
   dsimp only [Pt.U, Pt.locs, Pt.cells, Pt.slots] at X271 l271 y271 z271 st271 hQ271
   subst l271 y271 z271
   obtain ⟨t2_272, k2_273, N2_274, vs2_275, rfl, N271q, Kq271, P271_0, P271_1, P271_2, P271_3, P271_4, P271_5, P271_6, P271_7, P271_8, P271_9, P271_10⟩ := hQ271
   refine own_go (fun _ k => st271.trans k) ?_
   have N271 := Fr.app N262 N271q
   have V_a := V_a.keep Kq271 (ninS ne_a_b232 (ninS ne_a_t2_263 nin0))
   have E_b232 := E_b232.keep Kq271
   clear F_b232_ASB_value
   clear F_b232_ASB_coder
   clear F_b232_ASB_count
   clear V_t2_263
   have E_t2_263 := E_t2_263.keep Kq271
   have O := O.keep Kq271 (allS g_b232 (allS P262_1 all0))
   have K276 := K267.trans Kq271 (allS (Or.inr sz_b232) (allS (Or.inr sz_t2_263) all0))
   have E_b232 := P271_3
   have F_b232_ASB_value := P271_4
   have F_b232_ASB_coder := P271_5
   have F_b232_ASB_count := P271_6
   have V_t2_272 := P271_7
   have E_t2_272 := P271_8
   have sz_t2_272 : h0.size ≤ t2_272 := P271_0.elim (fun q => by rw [q]; exact sz_t2_263) (fun q => Nat.le_trans K267.1 q)
   have ne_a_t2_272 : a ≠ t2_272 := P271_0.elim (fun q => by rw [q]; exact ne_a_t2_263) (fun q => Nat.ne_of_lt (Nat.lt_of_lt_of_le lt_a270.lt q))
   show own_Fin p e below (T271.setTop (mkF m 148 #[.val (.ref a), .val (.ref b232), .val (.ref a), .val (.int 1), .val (.int 0), .val (.int x0_), .val (.int (x0_ &&& (255 : Int32))), .val (.int 0)] [(.ref b232)])) _
   obtain ⟨T277, X277, e277, st277⟩ := getS2 X271 hx hZ hown (host := "") (Or.inl (ow hw 109)) Via.refl rfl (S_Uris_HEX.ext O.2) (g := (mkF m 148 #[.val (.ref a), .val (.ref b232), .val (.ref a), .val (.int 1), .val (.int 0), .val (.int x0_), .val (.int (x0_ &&& (255 : Int32))), .val (.int 0)] [(.ref b232)])) rfl (hb hby d1_148)
   refine own_go (fun _ k => st277 _ k) ?_
   show own_Fin p e below (T277.setTop (mkF m 151 #[.val (.ref a), .val (.ref b232), .val (.ref a), .val (.int 1), .val (.int 0), .val (.int x0_), .val (.int (x0_ &&& (255 : Int32))), .val (.int 0)] [(.ref hxa), (.ref b232)])) _
   refine own_go (fun _ k => XS.iload X277.here hx rfl (hb hby d1_151) rfl (XS.bipush X277.here hx rfl (hb hby d1_153) (XS.iand X277.here hx rfl (hb hby d1_155) rfl k))) ?_
   show own_Fin p e below (T277.setTop (mkF m 156 #[.val (.ref a), .val (.ref b232), .val (.ref a), .val (.int 1), .val (.int 0), .val (.int x0_), .val (.int (x0_ &&& (255 : Int32))), .val (.int 0)] [(.int ((x0_ &&& (255 : Int32)) &&& (15 : Int32))), (.ref hxa), (.ref b232)])) _
   obtain ⟨cl278, A278, q278, S278, M278, H278, G278⟩ := id (V_hxa.ext O.2)
   have hin278 : ¬ (((x0_ &&& (255 : Int32)) &&& (15 : Int32)) < 0 ∨ cl278.slots.size ≤ (((x0_ &&& (255 : Int32)) &&& (15 : Int32))).toNatClampNeg) := inb_of S278 (own_lo16 _)
   have hat278 : cl278.slots[(((x0_ &&& (255 : Int32)) &&& (15 : Int32))).toNatClampNeg]? = some (.int (own_hv ((x0_ &&& (255 : Int32)) &&& (15 : Int32)))) := Has.at H278 hin278 (own_hget _)
   refine own_go (fun _ k => X277.caload hx (j := ((x0_ &&& (255 : Int32)) &&& (15 : Int32))) (v := (.int (own_hv ((x0_ &&& (255 : Int32)) &&& (15 : Int32))))) (own_eqE e277 A278.1) (State.isArrayOf_alike hZ.alike A278.2.1) A278.2.2 hin278 hat278 (g := (mkF m 156 #[.val (.ref a), .val (.ref b232), .val (.ref a), .val (.int 1), .val (.int 0), .val (.int x0_), .val (.int (x0_ &&& (255 : Int32))), .val (.int 0)] [(.int ((x0_ &&& (255 : Int32)) &&& (15 : Int32))), (.ref hxa), (.ref b232)])) rfl rfl (hb hby d1_156) _ k) ?_
   show own_Fin p e below (T277.setTop (mkF m 157 #[.val (.ref a), .val (.ref b232), .val (.ref a), .val (.int 1), .val (.int 0), .val (.int x0_), .val (.int (x0_ &&& (255 : Int32))), .val (.int 0)] [(.int (own_hv ((x0_ &&& (255 : Int32)) &&& (15 : Int32)))), (.ref b232)])) _
   have lt_a279 := V_a
   obtain ⟨cq280, kq280, q280a, q280b, q280c⟩ := isOf hZ e277 E_b232
   obtain ⟨_, _, ⟨T280, L280, k280, n280⟩, -, X280, ⟨Lc280, hQ280, l280, y280, z280⟩, st280⟩ := X277.virtualBack hx (y := (⟨"java/lang/StringBuilder", "append", "(C)Ljava/lang/StringBuilder;"⟩ : MethodName)) (z := (⟨"java/lang/StringBuilder", "append", "(C)Ljava/lang/StringBuilder;"⟩ : MethodName)) hown (mvT hZ (ow hw 90)) (mvT hZ (ow hw 91)) (notFace_of_selects (args := #[]) (mvT hZ (ow hw 93))) (mvT hZ (ow hw 93)) (mvT hZ (ow hw 92)) (by decide) (backOf (W := 0) (sap l Z a0 hw [] b232 (own_hv ((x0_ &&& (255 : Int32)) &&& (15 : Int32))) z t2_272 k2_273 N2_274 vs2_275 (((0 : Int32) + (1 : Int32)) + (1 : Int32)) (T271.heap) n0 O S_String_COMPACT_STRINGS hz E_b232 F_b232_ASB_value F_b232_ASB_coder F_b232_ASB_count V_t2_272 E_t2_272 g_b232 P271_1 P271_2 (own_hv255 _) P271_9 (own_h8c hcl (own_lb0 ))) hZ (ow hw 94) (ow hw 7) (by decide) (by decide)) q280a q280c (g := (mkF m 157 #[.val (.ref a), .val (.ref b232), .val (.ref a), .val (.int 1), .val (.int 0), .val (.int x0_), .val (.int (x0_ &&& (255 : Int32))), .val (.int 0)] [(.int (own_hv ((x0_ &&& (255 : Int32)) &&& (15 : Int32)))), (.ref b232)])) rfl (by rw [hml]; rfl) (Steps.refl _) (argsL := [(.int (own_hv ((x0_ &&& (255 : Int32)) &&& (15 : Int32))))]) (rest := []) (lenOf pd_15 rfl) rfl (by show 2 * 0 + _ ≤ _; exact Nat.le_of_eq rfl) (hb hby d1_157) (fun _ _ => ⟨rfl, e277, (by decide : 4 + 1 ≤ _), (by decide : 41 + 18 ≤ _)⟩)
   dsimp only [Pt.U, Pt.locs, Pt.cells, Pt.slots] at X280 l280 y280 z280 st280 hQ280
   subst l280 y280 z280
   obtain ⟨t2_281, k2_282, N2_283, vs2_284, rfl, N280q, Kq280, P280_0, P280_1, P280_2, P280_3, P280_4, P280_5, P280_6, P280_7, P280_8, P280_9, P280_10⟩ := hQ280
   refine own_go (fun _ k => st280.trans k) ?_
   have N280 := Fr.app N271 N280q
   have V_a := V_a.keep Kq280 (ninS ne_a_b232 (ninS ne_a_t2_272 nin0))
   have E_b232 := E_b232.keep Kq280
   clear F_b232_ASB_value
   clear F_b232_ASB_coder
   clear F_b232_ASB_count
   clear V_t2_272
   have E_t2_272 := E_t2_272.keep Kq280
   have O := O.keep Kq280 (allS g_b232 (allS P271_1 all0))
   have K285 := K276.trans Kq280 (allS (Or.inr sz_b232) (allS (Or.inr sz_t2_272) all0))
   have E_b232 := P280_3
   have F_b232_ASB_value := P280_4
   have F_b232_ASB_coder := P280_5
   have F_b232_ASB_count := P280_6
   have V_t2_281 := P280_7
   have E_t2_281 := P280_8
   have sz_t2_281 : h0.size ≤ t2_281 := P280_0.elim (fun q => by rw [q]; exact sz_t2_272) (fun q => Nat.le_trans K276.1 q)
   have ne_a_t2_281 : a ≠ t2_281 := P280_0.elim (fun q => by rw [q]; exact ne_a_t2_272) (fun q => Nat.ne_of_lt (Nat.lt_of_lt_of_le lt_a279.lt q))
   show own_Fin p e below (T280.setTop (mkF m 160 #[.val (.ref a), .val (.ref b232), .val (.ref a), .val (.int 1), .val (.int 0), .val (.int x0_), .val (.int (x0_ &&& (255 : Int32))), .val (.int 0)] [(.ref b232)])) _
   refine own_go (fun _ k => XS.pop X280.here hx rfl (hb hby d1_160) rfl rfl (XS.iinc X280.here hx rfl (hb hby d1_161) rfl (l' := #[.val (.ref a), .val (.ref b232), .val (.ref a), .val (.int 1), .val (.int 1), .val (.int x0_), .val (.int (x0_ &&& (255 : Int32))), .val (.int 0)]) rfl (XS.goto X280.here hx rfl (pc0 := 164) (pc' := 18) rfl (hb hby d1_164) (by decide) (by decide) (XS.iload X280.here hx rfl (hb hby d1_18) rfl (XS.iloadN X280.here hx rfl (hb hby d1_20) rfl k))))) ?_
   show own_Fin p e below (T280.setTop (mkF m 21 #[.val (.ref a), .val (.ref b232), .val (.ref a), .val (.int 1), .val (.int 1), .val (.int x0_), .val (.int (x0_ &&& (255 : Int32))), .val (.int 0)] [(.int 1), (.int 1)])) _
   exact lp1 _ _ _ t2_281 k2_282 _ _ _ _ _ _ X280 rfl N280 O K285 V_a E_b232 F_b232_ASB_value F_b232_ASB_coder F_b232_ASB_count V_t2_281 E_t2_281 (One.val rfl) (One.val rfl) (One.val rfl) P280_1 sz_t2_281 ne_a_t2_281 P280_2 P280_9 (own_jn0F hsU htkl P262_10 P271_10 P280_10) (own_jc0F hsU hcl (own_lb0 ))
theorem ef_en2 (m : MethodId) (x0 : Addr) : entryFrame m #[(.ref x0)] 8 = mkF m 0 #[.val (.ref x0), .unset, .unset, .unset, .unset, .unset, .unset, .unset] [] := by first | (simp [entryFrame, mkF, argsToLocals, Value.category]; done) | rfl
def Qen2 (Z : State) (a : Addr) (z : Int32) (ka : ClassId) (x0_ : Int32) (x1_ : Int32) (hxa : Addr) (kh : ClassId) (h0 : Heap) (n0 : Nat) (v : Option Value) (h : Heap) (L : List Loc) : Prop := ∃ (s_ : Addr) (t2_ : Addr) (k2_ : ClassId), v = some (.ref s_) ∧ Fr n0 L ∧ Keep h0 h [] ∧ h0.size ≤ s_ ∧ h0.size ≤ t2_ ∧ Exa Z h s_ "java/lang/String" ∧ Fld Z h s_ "java/lang/String" "coder" "B" (.int 0) ∧ Fld Z h s_ "java/lang/String" "value" "[B" (.ref t2_) ∧ Arv Z h t2_ k2_ .byte (Int32.ofNat (own_enc x0_ ++ own_enc x1_).length) (own_enc x0_ ++ own_enc x1_) (.int 0)
set_option maxRecDepth 65536 in
set_option maxHeartbeats 40000000 in
theorem en2 (l : Launch) (Z : State) (a0 : Array Value) (hw : ∀ d ∈ tables_1, d.before a0 Z = true) (ws : List Jvm.Cond) (a : Addr) (z : Int32) (ka : ClassId) (x0_ : Int32) (x1_ : Int32) (hxa : Addr) (kh : ClassId) (h0 : Heap) (n0 : Nat) (O : Old Z n0 h0) (S_String_COMPACT_STRINGS : Sta Z Z.heap "java/lang/String" "COMPACT_STRINGS" "Z" (.int z)) (hz : ¬ (z = (0 : Int32))) (V_a : Arv Z h0 a ka .byte (2 : Int32) [(.int x0_), (.int x1_)] (.int 0)) (S_Uris_HEX : Sta Z Z.heap "com/example/espalier/espalier/Uris" "HEX" "[C" (.ref hxa)) (V_hxa : Arv Z Z.heap hxa kh .char (16 : Int32) (own_hl.map Value.int) (.int 0)) :
    MetFree l (⟨"com/example/espalier/espalier/Uris", "encode", "([B)Ljava/lang/String;"⟩ : MethodName) (head1 (Jvm.Cond.code (⟨"com/example/espalier/espalier/Uris", "encode", "([B)Ljava/lang/String;"⟩ : MethodName) prog_29_method_2_code 8 (some (.object "java/lang/String")) :: ws) ({ frames := 6, cells := 10, slots := 127, locals := 91 } : Room)) (fun a' U' => a' = #[(.ref a)] ∧ Z.Warmed39 U'.vm ∧ U'.heap = h0) (fun _ _ _ _ _ => True) (fun _ U' o' W' => ∃ v' L', o' = .returned v' ∧ Qen2 Z a z ka x0_ x1_ hxa kh h0 n0 v' W'.heap L' ∧ FrameEnd U' o' W' L' ({ frames := 6, cells := 10, slots := 127, locals := 91 } : Room).cells ({ frames := 6, cells := 10, slots := 127, locals := 91 } : Room).slots) := by
  refine MetFree.of_bodySF (plainFor_of_name pn_6) hisR ?_
  intro p e s m args below meth c s₁ Bd hml0 hP hK
  obtain ⟨rfl, hZ, hh⟩ := hP
  have hx := Bd.exec
  have hby := Bd.bytes
  have hml : c.maxLocals = 8 := hml0
  have hown : s.vm.findClass "com/example/espalier/espalier/Uris" = some m.cls := findClass_of_methodNamed Bd.named
  have hnm := (name_of_methodNamed Bd.named Bd.method).1
  have X0 : Stand p l e ({ frames := 6, cells := 10, slots := 127, locals := 91 } : Room) s m #[(.ref a)] below meth c s₁ [] 0 0 := Stand.of_body Bd
  have e0 : s₁.heap = h0 := by rw [← hh, Bd.state]; rfl
  have N0 := Fr.nil n0
  have K0 := Keep.refl h0 []
  refine own_start (ef_en2 m a) (Q := fun o' t' => ∃ v' L', o' = .returned v' ∧ Qen2 Z a z ka x0_ x1_ hxa kh h0 n0 v' t'.heap L' ∧ FrameEnd s o' t' L' ({ frames := 6, cells := 10, slots := 127, locals := 91 } : Room).cells ({ frames := 6, cells := 10, slots := 127, locals := 91 } : Room).slots) ?_
  show own_Fin p e below (s₁.setTop (mkF m 0 #[.val (.ref a), .unset, .unset, .unset, .unset, .unset, .unset, .unset] [])) _
  have chk : ∀ (Tc : State) (Lc : List Loc) (cc sc : Nat) (Xc : Stand p l e ({ frames := 6, cells := 10, slots := 127, locals := 91 } : Room) s m #[(.ref a)] below meth c Tc Lc cc sc) (s0c s1c s2c s3c s4c s5c s7c : Slot) (bc : Int32), (∀ f : Int32, f = own_bi (own_unres bc) → own_Fin p e below (Tc.setTop (mkF m 113 #[s0c, s1c, s2c, s3c, s4c, s5c, .val (.int bc), s7c] [(.int f)])) (fun o' t' => ∃ v' L', o' = .returned v' ∧ Qen2 Z a z ka x0_ x1_ hxa kh h0 n0 v' t'.heap L' ∧ FrameEnd s o' t' L' ({ frames := 6, cells := 10, slots := 127, locals := 91 } : Room).cells ({ frames := 6, cells := 10, slots := 127, locals := 91 } : Room).slots)) → own_Fin p e below (Tc.setTop (mkF m 38 #[s0c, s1c, s2c, s3c, s4c, s5c, .val (.int bc), s7c] [])) (fun o' t' => ∃ v' L', o' = .returned v' ∧ Qen2 Z a z ka x0_ x1_ hxa kh h0 n0 v' t'.heap L' ∧ FrameEnd s o' t' L' ({ frames := 6, cells := 10, slots := 127, locals := 91 } : Room).cells ({ frames := 6, cells := 10, slots := 127, locals := 91 } : Room).slots) := by
   intro Tc Lc cc sc Xc s0c s1c s2c s3c s4c s5c s7c bc kf
   have jr80 : ¬ (¬ bc < (97 : Int32) ∧ ¬ (122 : Int32) < bc) → ¬ (¬ bc < (65 : Int32) ∧ ¬ (90 : Int32) < bc) → ¬ (¬ bc < (48 : Int32) ∧ ¬ (57 : Int32) < bc) → own_Fin p e below (Tc.setTop (mkF m 80 #[s0c, s1c, s2c, s3c, s4c, s5c, .val (.int bc), s7c] [])) (fun o' t' => ∃ v' L', o' = .returned v' ∧ Qen2 Z a z ka x0_ x1_ hxa kh h0 n0 v' t'.heap L' ∧ FrameEnd s o' t' L' ({ frames := 6, cells := 10, slots := 127, locals := 91 } : Room).cells ({ frames := 6, cells := 10, slots := 127, locals := 91 } : Room).slots) := by
    intro hs_r0 hs_r1 hs_r2
    show own_Fin p e below (Tc.setTop (mkF m 80 #[s0c, s1c, s2c, s3c, s4c, s5c, .val (.int bc), s7c] [])) _
    refine own_go (fun _ k => XS.iload Xc.here hx rfl (hb hby d1_80) rfl (XS.bipush Xc.here hx rfl (hb hby d1_82) k)) ?_
    show own_Fin p e below (Tc.setTop (mkF m 84 #[s0c, s1c, s2c, s3c, s4c, s5c, .val (.int bc), s7c] [(.int 45), (.int bc)])) _
    by_cases hc84_286 : bc = (45 : Int32)
    ·refine own_go (fun _ k => XS.icmpYes Xc.here hx rfl (pc0 := 84) (pc' := 108) rfl (hb hby d1_84) rfl (teq hc84_286).1 (by decide) (by decide) (XS.iconst Xc.here hx rfl (hb hby d1_108) (XS.goto Xc.here hx rfl (pc0 := 109) (pc' := 113) rfl (hb hby d1_109) (by decide) (by decide) k))) ?_
     show own_Fin p e below (Tc.setTop (mkF m 113 #[s0c, s1c, s2c, s3c, s4c, s5c, .val (.int bc), s7c] [(.int 1)])) _
     exact kf (1 : Int32) (by simp [own_bi, own_unres, hs_r0, hs_r1, hs_r2, hc84_286])
    ·refine own_go (fun _ k => XS.icmpNo Xc.here hx rfl (hb hby d1_84) rfl (feq hc84_286).1 (XS.iload Xc.here hx rfl (hb hby d1_87) rfl (XS.bipush Xc.here hx rfl (hb hby d1_89) k))) ?_
     show own_Fin p e below (Tc.setTop (mkF m 91 #[s0c, s1c, s2c, s3c, s4c, s5c, .val (.int bc), s7c] [(.int 46), (.int bc)])) _
     by_cases hc91_287 : bc = (46 : Int32)
     ·refine own_go (fun _ k => XS.icmpYes Xc.here hx rfl (pc0 := 91) (pc' := 108) rfl (hb hby d1_91) rfl (teq hc91_287).1 (by decide) (by decide) (XS.iconst Xc.here hx rfl (hb hby d1_108) (XS.goto Xc.here hx rfl (pc0 := 109) (pc' := 113) rfl (hb hby d1_109) (by decide) (by decide) k))) ?_
      show own_Fin p e below (Tc.setTop (mkF m 113 #[s0c, s1c, s2c, s3c, s4c, s5c, .val (.int bc), s7c] [(.int 1)])) _
      exact kf (1 : Int32) (by simp [own_bi, own_unres, hs_r0, hs_r1, hs_r2, hc84_286, hc91_287])
     ·refine own_go (fun _ k => XS.icmpNo Xc.here hx rfl (hb hby d1_91) rfl (feq hc91_287).1 (XS.iload Xc.here hx rfl (hb hby d1_94) rfl (XS.bipush Xc.here hx rfl (hb hby d1_96) k))) ?_
      show own_Fin p e below (Tc.setTop (mkF m 98 #[s0c, s1c, s2c, s3c, s4c, s5c, .val (.int bc), s7c] [(.int 95), (.int bc)])) _
      by_cases hc98_288 : bc = (95 : Int32)
      ·refine own_go (fun _ k => XS.icmpYes Xc.here hx rfl (pc0 := 98) (pc' := 108) rfl (hb hby d1_98) rfl (teq hc98_288).1 (by decide) (by decide) (XS.iconst Xc.here hx rfl (hb hby d1_108) (XS.goto Xc.here hx rfl (pc0 := 109) (pc' := 113) rfl (hb hby d1_109) (by decide) (by decide) k))) ?_
       show own_Fin p e below (Tc.setTop (mkF m 113 #[s0c, s1c, s2c, s3c, s4c, s5c, .val (.int bc), s7c] [(.int 1)])) _
       exact kf (1 : Int32) (by simp [own_bi, own_unres, hs_r0, hs_r1, hs_r2, hc84_286, hc91_287, hc98_288])
      ·refine own_go (fun _ k => XS.icmpNo Xc.here hx rfl (hb hby d1_98) rfl (feq hc98_288).1 (XS.iload Xc.here hx rfl (hb hby d1_101) rfl (XS.bipush Xc.here hx rfl (hb hby d1_103) k))) ?_
       show own_Fin p e below (Tc.setTop (mkF m 105 #[s0c, s1c, s2c, s3c, s4c, s5c, .val (.int bc), s7c] [(.int 126), (.int bc)])) _
       by_cases hc105_289 : bc = (126 : Int32)
       ·refine own_go (fun _ k => XS.icmpNo Xc.here hx rfl (hb hby d1_105) rfl (teq hc105_289).2 (XS.iconst Xc.here hx rfl (hb hby d1_108) (XS.goto Xc.here hx rfl (pc0 := 109) (pc' := 113) rfl (hb hby d1_109) (by decide) (by decide) k))) ?_
        show own_Fin p e below (Tc.setTop (mkF m 113 #[s0c, s1c, s2c, s3c, s4c, s5c, .val (.int bc), s7c] [(.int 1)])) _
        exact kf (1 : Int32) (by simp [own_bi, own_unres, hs_r0, hs_r1, hs_r2, hc84_286, hc91_287, hc98_288, hc105_289])
       ·refine own_go (fun _ k => XS.icmpYes Xc.here hx rfl (pc0 := 105) (pc' := 112) rfl (hb hby d1_105) rfl (feq hc105_289).2 (by decide) (by decide) (XS.iconst Xc.here hx rfl (hb hby d1_112) k)) ?_
        show own_Fin p e below (Tc.setTop (mkF m 113 #[s0c, s1c, s2c, s3c, s4c, s5c, .val (.int bc), s7c] [(.int 0)])) _
        exact kf (0 : Int32) (own_bi0 (fun h => by rcases h with h | h | h | h | h | h | h <;> contradiction)).symm
   have jr66 : ¬ (¬ bc < (97 : Int32) ∧ ¬ (122 : Int32) < bc) → ¬ (¬ bc < (65 : Int32) ∧ ¬ (90 : Int32) < bc) → own_Fin p e below (Tc.setTop (mkF m 66 #[s0c, s1c, s2c, s3c, s4c, s5c, .val (.int bc), s7c] [])) (fun o' t' => ∃ v' L', o' = .returned v' ∧ Qen2 Z a z ka x0_ x1_ hxa kh h0 n0 v' t'.heap L' ∧ FrameEnd s o' t' L' ({ frames := 6, cells := 10, slots := 127, locals := 91 } : Room).cells ({ frames := 6, cells := 10, slots := 127, locals := 91 } : Room).slots) := by
    intro hs_r0 hs_r1
    show own_Fin p e below (Tc.setTop (mkF m 66 #[s0c, s1c, s2c, s3c, s4c, s5c, .val (.int bc), s7c] [])) _
    refine own_go (fun _ k => XS.iload Xc.here hx rfl (hb hby d1_66) rfl (XS.bipush Xc.here hx rfl (hb hby d1_68) k)) ?_
    show own_Fin p e below (Tc.setTop (mkF m 70 #[s0c, s1c, s2c, s3c, s4c, s5c, .val (.int bc), s7c] [(.int 48), (.int bc)])) _
    by_cases hc70_290 : bc < (48 : Int32)
    ·refine own_go (fun _ k => XS.icmpYes Xc.here hx rfl (pc0 := 70) (pc' := 80) rfl (hb hby d1_70) rfl (tlt hc70_290).1 (by decide) (by decide) k) ?_
     show own_Fin p e below (Tc.setTop (mkF m 80 #[s0c, s1c, s2c, s3c, s4c, s5c, .val (.int bc), s7c] [])) _
     exact jr80 hs_r0 hs_r1 (fun h => absurd hc70_290 h.1)
    ·refine own_go (fun _ k => XS.icmpNo Xc.here hx rfl (hb hby d1_70) rfl (flt hc70_290).1 (XS.iload Xc.here hx rfl (hb hby d1_73) rfl (XS.bipush Xc.here hx rfl (hb hby d1_75) k))) ?_
     show own_Fin p e below (Tc.setTop (mkF m 77 #[s0c, s1c, s2c, s3c, s4c, s5c, .val (.int bc), s7c] [(.int 57), (.int bc)])) _
     by_cases hc77_291 : (57 : Int32) < bc
     ·refine own_go (fun _ k => XS.icmpNo Xc.here hx rfl (hb hby d1_77) rfl (tlt hc77_291).2.2.2 k) ?_
      show own_Fin p e below (Tc.setTop (mkF m 80 #[s0c, s1c, s2c, s3c, s4c, s5c, .val (.int bc), s7c] [])) _
      exact jr80 hs_r0 hs_r1 (fun h => absurd hc77_291 h.2)
     ·refine own_go (fun _ k => XS.icmpYes Xc.here hx rfl (pc0 := 77) (pc' := 108) rfl (hb hby d1_77) rfl (flt hc77_291).2.2.2 (by decide) (by decide) (XS.iconst Xc.here hx rfl (hb hby d1_108) (XS.goto Xc.here hx rfl (pc0 := 109) (pc' := 113) rfl (hb hby d1_109) (by decide) (by decide) k))) ?_
      show own_Fin p e below (Tc.setTop (mkF m 113 #[s0c, s1c, s2c, s3c, s4c, s5c, .val (.int bc), s7c] [(.int 1)])) _
      exact kf (1 : Int32) (by simp [own_bi, own_unres, hs_r0, hs_r1, hc70_290, hc77_291])
   have jr52 : ¬ (¬ bc < (97 : Int32) ∧ ¬ (122 : Int32) < bc) → own_Fin p e below (Tc.setTop (mkF m 52 #[s0c, s1c, s2c, s3c, s4c, s5c, .val (.int bc), s7c] [])) (fun o' t' => ∃ v' L', o' = .returned v' ∧ Qen2 Z a z ka x0_ x1_ hxa kh h0 n0 v' t'.heap L' ∧ FrameEnd s o' t' L' ({ frames := 6, cells := 10, slots := 127, locals := 91 } : Room).cells ({ frames := 6, cells := 10, slots := 127, locals := 91 } : Room).slots) := by
    intro hs_r0
    show own_Fin p e below (Tc.setTop (mkF m 52 #[s0c, s1c, s2c, s3c, s4c, s5c, .val (.int bc), s7c] [])) _
    refine own_go (fun _ k => XS.iload Xc.here hx rfl (hb hby d1_52) rfl (XS.bipush Xc.here hx rfl (hb hby d1_54) k)) ?_
    show own_Fin p e below (Tc.setTop (mkF m 56 #[s0c, s1c, s2c, s3c, s4c, s5c, .val (.int bc), s7c] [(.int 65), (.int bc)])) _
    by_cases hc56_292 : bc < (65 : Int32)
    ·refine own_go (fun _ k => XS.icmpYes Xc.here hx rfl (pc0 := 56) (pc' := 66) rfl (hb hby d1_56) rfl (tlt hc56_292).1 (by decide) (by decide) k) ?_
     show own_Fin p e below (Tc.setTop (mkF m 66 #[s0c, s1c, s2c, s3c, s4c, s5c, .val (.int bc), s7c] [])) _
     exact jr66 hs_r0 (fun h => absurd hc56_292 h.1)
    ·refine own_go (fun _ k => XS.icmpNo Xc.here hx rfl (hb hby d1_56) rfl (flt hc56_292).1 (XS.iload Xc.here hx rfl (hb hby d1_59) rfl (XS.bipush Xc.here hx rfl (hb hby d1_61) k))) ?_
     show own_Fin p e below (Tc.setTop (mkF m 63 #[s0c, s1c, s2c, s3c, s4c, s5c, .val (.int bc), s7c] [(.int 90), (.int bc)])) _
     by_cases hc63_293 : (90 : Int32) < bc
     ·refine own_go (fun _ k => XS.icmpNo Xc.here hx rfl (hb hby d1_63) rfl (tlt hc63_293).2.2.2 k) ?_
      show own_Fin p e below (Tc.setTop (mkF m 66 #[s0c, s1c, s2c, s3c, s4c, s5c, .val (.int bc), s7c] [])) _
      exact jr66 hs_r0 (fun h => absurd hc63_293 h.2)
     ·refine own_go (fun _ k => XS.icmpYes Xc.here hx rfl (pc0 := 63) (pc' := 108) rfl (hb hby d1_63) rfl (flt hc63_293).2.2.2 (by decide) (by decide) (XS.iconst Xc.here hx rfl (hb hby d1_108) (XS.goto Xc.here hx rfl (pc0 := 109) (pc' := 113) rfl (hb hby d1_109) (by decide) (by decide) k))) ?_
      show own_Fin p e below (Tc.setTop (mkF m 113 #[s0c, s1c, s2c, s3c, s4c, s5c, .val (.int bc), s7c] [(.int 1)])) _
      exact kf (1 : Int32) (by simp [own_bi, own_unres, hs_r0, hc56_292, hc63_293])
   show own_Fin p e below (Tc.setTop (mkF m 38 #[s0c, s1c, s2c, s3c, s4c, s5c, .val (.int bc), s7c] [])) _
   refine own_go (fun _ k => XS.iload Xc.here hx rfl (hb hby d1_38) rfl (XS.bipush Xc.here hx rfl (hb hby d1_40) k)) ?_
   show own_Fin p e below (Tc.setTop (mkF m 42 #[s0c, s1c, s2c, s3c, s4c, s5c, .val (.int bc), s7c] [(.int 97), (.int bc)])) _
   by_cases hc42_294 : bc < (97 : Int32)
   ·refine own_go (fun _ k => XS.icmpYes Xc.here hx rfl (pc0 := 42) (pc' := 52) rfl (hb hby d1_42) rfl (tlt hc42_294).1 (by decide) (by decide) k) ?_
    show own_Fin p e below (Tc.setTop (mkF m 52 #[s0c, s1c, s2c, s3c, s4c, s5c, .val (.int bc), s7c] [])) _
    exact jr52 (fun h => absurd hc42_294 h.1)
   ·refine own_go (fun _ k => XS.icmpNo Xc.here hx rfl (hb hby d1_42) rfl (flt hc42_294).1 (XS.iload Xc.here hx rfl (hb hby d1_45) rfl (XS.bipush Xc.here hx rfl (hb hby d1_47) k))) ?_
    show own_Fin p e below (Tc.setTop (mkF m 49 #[s0c, s1c, s2c, s3c, s4c, s5c, .val (.int bc), s7c] [(.int 122), (.int bc)])) _
    by_cases hc49_295 : (122 : Int32) < bc
    ·refine own_go (fun _ k => XS.icmpNo Xc.here hx rfl (hb hby d1_49) rfl (tlt hc49_295).2.2.2 k) ?_
     show own_Fin p e below (Tc.setTop (mkF m 52 #[s0c, s1c, s2c, s3c, s4c, s5c, .val (.int bc), s7c] [])) _
     exact jr52 (fun h => absurd hc49_295 h.2)
    ·refine own_go (fun _ k => XS.icmpYes Xc.here hx rfl (pc0 := 49) (pc' := 108) rfl (hb hby d1_49) rfl (flt hc49_295).2.2.2 (by decide) (by decide) (XS.iconst Xc.here hx rfl (hb hby d1_108) (XS.goto Xc.here hx rfl (pc0 := 109) (pc' := 113) rfl (hb hby d1_109) (by decide) (by decide) k))) ?_
     show own_Fin p e below (Tc.setTop (mkF m 113 #[s0c, s1c, s2c, s3c, s4c, s5c, .val (.int bc), s7c] [(.int 1)])) _
     exact kf (1 : Int32) (by simp [own_bi, own_unres, hc42_294, hc49_295])
  show own_Fin p e below (s₁.setTop (mkF m 0 #[.val (.ref a), .unset, .unset, .unset, .unset, .unset, .unset, .unset] [])) _
  obtain ⟨T296, h296, X296, e296, E296, A296, D296, -, st296⟩ := newO X0 hx hZ hown (ow hw 5) (ow hw 6) (ow hw 7) e0 (g := (mkF m 0 #[.val (.ref a), .unset, .unset, .unset, .unset, .unset, .unset, .unset] [])) rfl (hb hby d1_0) (by decide) (by decide)
  obtain ⟨b296, g296⟩ : ∃ z, z = h0.size := ⟨_, rfl⟩
  rw [← g296] at A296 D296 st296
  refine own_go (fun _ k => st296 _ k) ?_
  have ne_a_b296 : a ≠ b296 := Nat.ne_of_lt (Nat.lt_of_lt_of_le V_a.lt (Nat.le_of_eq g296.symm))
  have g_b296 : n0 ≤ b296 := Nat.le_trans (own_osz O) (Nat.le_of_eq g296.symm)
  have sz_b296 : h0.size ≤ b296 := Nat.le_trans K0.1 (Nat.le_of_eq g296.symm)
  have V_a := V_a.ext E296
  have O := O.ext E296
  have K297 := K0.ext E296
  have E_b296 := A296
  have F_b296_ASB_value : Fld Z h296 b296 "java/lang/AbstractStringBuilder" "value" "[B" .null := D296 (Or.inl (ow hw 23)) (ty := (.array .byte)) (by decide)
  have F_b296_ASB_coder : Fld Z h296 b296 "java/lang/AbstractStringBuilder" "coder" "B" (.int 0) := D296 (Or.inl (ow hw 25)) (ty := .byte) (by decide)
  have F_b296_ASB_count : Fld Z h296 b296 "java/lang/AbstractStringBuilder" "count" "I" (.int 0) := D296 (Or.inl (ow hw 56)) (ty := .int) (by decide)
  show own_Fin p e below (T296.setTop (mkF m 3 #[.val (.ref a), .unset, .unset, .unset, .unset, .unset, .unset, .unset] [(.ref b296)])) _
  refine own_go (fun _ k => XS.dup X296.here hx rfl (hb hby d1_3) rfl rfl (XS.aloadN X296.here hx rfl (hb hby d1_4) rfl rfl k)) ?_
  show own_Fin p e below (T296.setTop (mkF m 5 #[.val (.ref a), .unset, .unset, .unset, .unset, .unset, .unset, .unset] [(.ref a), (.ref b296), (.ref b296)])) _
  obtain ⟨cl298, A298, -, S298, M298, -, -⟩ := id V_a
  refine own_go (fun _ k => X296.arraylength hx (own_eqE e296 A298.1) (State.isArrayOf_alike hZ.alike A298.2.1) (g := (mkF m 5 #[.val (.ref a), .unset, .unset, .unset, .unset, .unset, .unset, .unset] [(.ref a), (.ref b296), (.ref b296)])) rfl rfl (hb hby d1_5) _ (by rw [len_of S298 M298]; exact k)) ?_
  show own_Fin p e below (T296.setTop (mkF m 6 #[.val (.ref a), .unset, .unset, .unset, .unset, .unset, .unset, .unset] [(.int 2), (.ref b296), (.ref b296)])) _
  obtain ⟨_, _, ⟨T299, L299, k299, n299⟩, -, X299, ⟨Lc299, hQ299, l299, y299, z299⟩, st299⟩ := X296.specialBack hx (y := (⟨"java/lang/StringBuilder", "<init>", "(I)V"⟩ : MethodName)) rfl hown (mvT hZ (ow hw 8)) (mvT hZ (ow hw 9)) (mvT hZ (ow hw 10)) (by decide) (backOf (W := 1) (si2 l Z a0 hw [] b296 z h296 n0 O S_String_COMPACT_STRINGS hz E_b296 F_b296_ASB_value F_b296_ASB_coder F_b296_ASB_count g_b296) hZ (ow hw 10) (ow hw 7) (by decide) (by decide)) (g := (mkF m 6 #[.val (.ref a), .unset, .unset, .unset, .unset, .unset, .unset, .unset] [(.int 2), (.ref b296), (.ref b296)])) rfl (by rw [hml]; rfl) (Steps.refl _) (a := b296) (argsL := [(.int 2)]) (rest := [(.ref b296)]) (lenOf pd_0 rfl) rfl (by show 2 * 0 + _ ≤ _; exact Nat.le_of_eq rfl) (hb hby d1_6) (fun _ _ => ⟨rfl, e296, (by decide : 1 + 1 ≤ _), (by decide : 4 + 2 ≤ _)⟩)
  dsimp only [Pt.U, Pt.locs, Pt.cells, Pt.slots] at X299 l299 y299 z299 st299 hQ299
  subst l299 y299 z299
  obtain ⟨t_300, k_301, rfl, N299q, Kq299, P299_0, P299_1, P299_2, P299_3, P299_4, P299_5, P299_6⟩ := hQ299
  refine own_go (fun _ k => st299.trans k) ?_
  have N299 := Fr.app N0 N299q
  have ne_a_t_300 : a ≠ t_300 := Nat.ne_of_lt (Nat.lt_of_lt_of_le V_a.lt P299_0)
  have ne_b296_t_300 : b296 ≠ t_300 := Nat.ne_of_lt (Nat.lt_of_lt_of_le E_b296.lt P299_0)
  have g_t_300 : n0 ≤ t_300 := Nat.le_trans (own_osz O) P299_0
  have sz_t_300 : h0.size ≤ t_300 := Nat.le_trans K297.1 P299_0
  have V_a := V_a.keep Kq299 (ninS ne_a_b296 nin0)
  have E_b296 := E_b296.keep Kq299
  clear F_b296_ASB_value
  clear F_b296_ASB_coder
  clear F_b296_ASB_count
  have O := O.keep Kq299 (allS g_b296 all0)
  have K302 := K297.trans Kq299 (allS (Or.inr sz_b296) all0)
  have E_b296 := P299_1
  have F_b296_ASB_value := P299_2
  have F_b296_ASB_coder := P299_3
  have F_b296_ASB_count := P299_4
  have V_t_300 := P299_5
  have E_t_300 := P299_6
  show own_Fin p e below (T299.setTop (mkF m 9 #[.val (.ref a), .unset, .unset, .unset, .unset, .unset, .unset, .unset] [(.ref b296)])) _
  refine own_go (fun _ k => XS.astoreN X299.here hx rfl (hb hby d1_9) rfl rfl (l' := #[.val (.ref a), .val (.ref b296), .unset, .unset, .unset, .unset, .unset, .unset]) rfl (XS.aloadN X299.here hx rfl (hb hby d1_10) rfl rfl (XS.astoreN X299.here hx rfl (hb hby d1_11) rfl rfl (l' := #[.val (.ref a), .val (.ref b296), .val (.ref a), .unset, .unset, .unset, .unset, .unset]) rfl (XS.aloadN X299.here hx rfl (hb hby d1_12) rfl rfl k)))) ?_
  show own_Fin p e below (T299.setTop (mkF m 13 #[.val (.ref a), .val (.ref b296), .val (.ref a), .unset, .unset, .unset, .unset, .unset] [(.ref a)])) _
  obtain ⟨cl303, A303, -, S303, M303, -, -⟩ := id V_a
  refine own_go (fun _ k => X299.arraylength hx (own_eqE rfl A303.1) (State.isArrayOf_alike hZ.alike A303.2.1) (g := (mkF m 13 #[.val (.ref a), .val (.ref b296), .val (.ref a), .unset, .unset, .unset, .unset, .unset] [(.ref a)])) rfl rfl (hb hby d1_13) _ (by rw [len_of S303 M303]; exact k)) ?_
  show own_Fin p e below (T299.setTop (mkF m 14 #[.val (.ref a), .val (.ref b296), .val (.ref a), .unset, .unset, .unset, .unset, .unset] [(.int 2)])) _
  refine own_go (fun _ k => XS.istoreN X299.here hx rfl (hb hby d1_14) rfl (l' := #[.val (.ref a), .val (.ref b296), .val (.ref a), .val (.int 2), .unset, .unset, .unset, .unset]) rfl (XS.iconst X299.here hx rfl (hb hby d1_15) (XS.istore X299.here hx rfl (hb hby d1_16) rfl (l' := #[.val (.ref a), .val (.ref b296), .val (.ref a), .val (.int 2), .val (.int 0), .unset, .unset, .unset]) rfl (XS.iload X299.here hx rfl (hb hby d1_18) rfl (XS.iloadN X299.here hx rfl (hb hby d1_20) rfl k))))) ?_
  show own_Fin p e below (T299.setTop (mkF m 21 #[.val (.ref a), .val (.ref b296), .val (.ref a), .val (.int 2), .val (.int 0), .unset, .unset, .unset] [(.int 2), (.int 0)])) _
  skip
  have lp2 : ∀ (T304 : State) (L304 : List Loc) (h304 : Heap) (tl : Addr) (kl : ClassId) (Nl : Int32) (vl : List Value) (cl : Int32) (s5l : Slot) (s6l : Slot) (s7l : Slot), Stand p l e ({ frames := 6, cells := 10, slots := 127, locals := 91 } : Room) s m #[(.ref a)] below meth c T304 L304 8 114 → T304.heap = h304 → Fr n0 L304 → Old Z n0 h304 → Keep h0 h304 [] → Arv Z h304 a ka .byte (2 : Int32) [(.int x0_), (.int x1_)] (.int 0) → Exa Z h304 b296 "java/lang/StringBuilder" → Fld Z h304 b296 "java/lang/AbstractStringBuilder" "value" "[B" (.ref tl) → Fld Z h304 b296 "java/lang/AbstractStringBuilder" "coder" "B" (.int 0) → Fld Z h304 b296 "java/lang/AbstractStringBuilder" "count" "I" (.int cl) → Arv Z h304 tl kl .byte Nl vl (.int 0) → Exa Z h304 tl "[B" → One s5l → One s6l → One s7l → n0 ≤ tl → h0.size ≤ tl → a ≠ tl → b296 ≠ tl → own_ok Nl vl cl → vl.take cl.toNatClampNeg = (own_enc x0_ ++ own_enc x1_) → cl = Int32.ofNat (own_enc x0_ ++ own_enc x1_).length → own_Fin p e below (T304.setTop (mkF m 21 #[.val (.ref a), .val (.ref b296), .val (.ref a), .val (.int 2), .val (.int 2), s5l, s6l, s7l] [(.int 2), (.int 2)])) (fun o' t' => ∃ v' L', o' = .returned v' ∧ Qen2 Z a z ka x0_ x1_ hxa kh h0 n0 v' t'.heap L' ∧ FrameEnd s o' t' L' ({ frames := 6, cells := 10, slots := 127, locals := 91 } : Room).cells ({ frames := 6, cells := 10, slots := 127, locals := 91 } : Room).slots) := by
   intro T304 L304 h304 tl kl Nl vl cl s5l s6l s7l X304 e304 N304 O K304 V_a E_b296 F_b296_ASB_value F_b296_ASB_coder F_b296_ASB_count V_tl E_tl o5l o6l o7l g_tl sz_tl ne_a_tl ne_b_tl hokl htkl hcl
   show own_Fin p e below (T304.setTop (mkF m 21 #[.val (.ref a), .val (.ref b296), .val (.ref a), .val (.int 2), .val (.int 2), s5l, s6l, s7l] [(.int 2), (.int 2)])) _
   refine own_go (fun _ k => XS.icmpYes X304.here hx rfl (pc0 := 21) (pc' := 167) rfl (hb hby d1_21) rfl (flt (by decide : ¬ ((2 : Int32) < (2 : Int32)))).2.1 (by decide) (by decide) (XS.aloadN X304.here hx rfl (hb hby d1_167) rfl rfl k)) ?_
   show own_Fin p e below (T304.setTop (mkF m 168 #[.val (.ref a), .val (.ref b296), .val (.ref a), .val (.int 2), .val (.int 2), s5l, s6l, s7l] [(.ref b296)])) _
   by_cases hse : cl = Nl
   ·show own_Fin p e below (T304.setTop (mkF m 168 #[.val (.ref a), .val (.ref b296), .val (.ref a), .val (.int 2), .val (.int 2), s5l, s6l, s7l] [(.ref b296)])) _
    obtain ⟨cq305, kq305, q305a, q305b, q305c⟩ := isOf hZ e304 E_b296
    obtain ⟨_, _, ⟨T305, L305, k305, n305⟩, -, X305, ⟨Lc305, hQ305, l305, y305, z305⟩, st305⟩ := X304.virtualBack hx (y := (⟨"java/lang/StringBuilder", "toString", "()Ljava/lang/String;"⟩ : MethodName)) (z := (⟨"java/lang/StringBuilder", "toString", "()Ljava/lang/String;"⟩ : MethodName)) hown (mvT hZ (ow hw 26)) (mvT hZ (ow hw 27)) (notFace_of_selects (args := #[]) (mvT hZ (ow hw 29))) (mvT hZ (ow hw 29)) (mvT hZ (ow hw 28)) (by decide) (backOf (W := 0) (tsE l Z a0 hw [] b296 z tl kl Nl vl cl h304 n0 O S_String_COMPACT_STRINGS hz E_b296 F_b296_ASB_value F_b296_ASB_coder F_b296_ASB_count V_tl E_tl (own_nn hokl.1) (own_t1 hokl) (own_t2 hokl) (own_t3 hcl (own_lb2 _ _)) hse (own_t4 hokl hse)) hZ (ow hw 30) (ow hw 7) (by decide) (by decide)) q305a q305c (g := (mkF m 168 #[.val (.ref a), .val (.ref b296), .val (.ref a), .val (.int 2), .val (.int 2), s5l, s6l, s7l] [(.ref b296)])) rfl (by rw [hml]; rfl) (Steps.refl _) (argsL := []) (rest := []) (lenOf pd_14 rfl) rfl (by show 2 * 0 + _ ≤ _; exact Nat.le_of_eq rfl) (hb hby d1_168) (fun _ _ => ⟨rfl, e304, (by decide : 8 + 2 ≤ _), (by decide : 114 + 13 ≤ _)⟩)
    dsimp only [Pt.U, Pt.locs, Pt.cells, Pt.slots] at X305 l305 y305 z305 st305 hQ305
    subst l305 y305 z305
    obtain ⟨s_306, t2_307, k2_308, rfl, N305q, Kq305, P305_0, P305_1, P305_2, P305_3, P305_4, P305_5, P305_6⟩ := hQ305
    refine own_go (fun _ k => st305.trans k) ?_
    have N305 := Fr.app N304 N305q
    have ne_a_s_306 : a ≠ s_306 := Nat.ne_of_lt (Nat.lt_of_lt_of_le V_a.lt P305_0)
    have ne_b296_s_306 : b296 ≠ s_306 := Nat.ne_of_lt (Nat.lt_of_lt_of_le E_b296.lt P305_0)
    have ne_tl_s_306 : tl ≠ s_306 := Nat.ne_of_lt (Nat.lt_of_lt_of_le V_tl.lt P305_0)
    have g_s_306 : n0 ≤ s_306 := Nat.le_trans (own_osz O) P305_0
    have sz_s_306 : h0.size ≤ s_306 := Nat.le_trans K304.1 P305_0
    have ne_a_t2_307 : a ≠ t2_307 := Nat.ne_of_lt (Nat.lt_of_lt_of_le V_a.lt P305_2)
    have ne_b296_t2_307 : b296 ≠ t2_307 := Nat.ne_of_lt (Nat.lt_of_lt_of_le E_b296.lt P305_2)
    have ne_tl_t2_307 : tl ≠ t2_307 := Nat.ne_of_lt (Nat.lt_of_lt_of_le V_tl.lt P305_2)
    have g_t2_307 : n0 ≤ t2_307 := Nat.le_trans (own_osz O) P305_2
    have sz_t2_307 : h0.size ≤ t2_307 := Nat.le_trans K304.1 P305_2
    have V_a := V_a.keep Kq305 nin0
    have E_b296 := E_b296.keep Kq305
    have F_b296_ASB_value := F_b296_ASB_value.keep Kq305 nin0
    have F_b296_ASB_coder := F_b296_ASB_coder.keep Kq305 nin0
    have F_b296_ASB_count := F_b296_ASB_count.keep Kq305 nin0
    have V_tl := V_tl.keep Kq305 nin0
    have E_tl := E_tl.keep Kq305
    have O := O.keep Kq305 all0
    have K309 := K304.trans Kq305 all0
    have E_s_306 := P305_3
    have F_s_306_String_coder := P305_4
    have F_s_306_String_value := P305_5
    have V_t2_307 := P305_6
    show own_Fin p e below (T305.setTop (mkF m 171 #[.val (.ref a), .val (.ref b296), .val (.ref a), .val (.int 2), .val (.int 2), s5l, s6l, s7l] [(.ref s_306)])) _
    obtain ⟨fs, hr, hrun, hended, hW, hsame⟩ := X305.leave (v := some (.ref s_306)) (fun h => by rw [Bd.returns] at h; cases h)
    refine ⟨_, _, ?_, hrun, hended, _, _, rfl, ?_, ⟨_, rfl⟩, hW, hsame.mono (by decide) (by decide)⟩
    ·exact X305.areturnOut hx rfl Bd.returns rfl (hb hby d1_171) hr
    ·show Qen2 Z a z ka x0_ x1_ hxa kh h0 n0 _ T305.heap _
     exact ⟨s_306, t2_307, k2_308, rfl, N305, K309, sz_s_306, sz_t2_307, E_s_306, F_s_306_String_coder, F_s_306_String_value, (by rw [htkl, hcl] at V_t2_307; exact V_t2_307)⟩
   ·show own_Fin p e below (T304.setTop (mkF m 168 #[.val (.ref a), .val (.ref b296), .val (.ref a), .val (.int 2), .val (.int 2), s5l, s6l, s7l] [(.ref b296)])) _
    obtain ⟨cq311, kq311, q311a, q311b, q311c⟩ := isOf hZ e304 E_b296
    obtain ⟨_, _, ⟨T311, L311, k311, n311⟩, -, X311, ⟨Lc311, hQ311, l311, y311, z311⟩, st311⟩ := X304.virtualBack hx (y := (⟨"java/lang/StringBuilder", "toString", "()Ljava/lang/String;"⟩ : MethodName)) (z := (⟨"java/lang/StringBuilder", "toString", "()Ljava/lang/String;"⟩ : MethodName)) hown (mvT hZ (ow hw 26)) (mvT hZ (ow hw 27)) (notFace_of_selects (args := #[]) (mvT hZ (ow hw 29))) (mvT hZ (ow hw 29)) (mvT hZ (ow hw 28)) (by decide) (backOf (W := 0) (tsL l Z a0 hw [] b296 z tl kl Nl vl cl h304 n0 O S_String_COMPACT_STRINGS hz E_b296 F_b296_ASB_value F_b296_ASB_coder F_b296_ASB_count V_tl E_tl (own_nn hokl.1) (own_t1 hokl) (own_t2 hokl) (own_t3 hcl (own_lb2 _ _)) (own_inn hokl hse).2 hse) hZ (ow hw 30) (ow hw 7) (by decide) (by decide)) q311a q311c (g := (mkF m 168 #[.val (.ref a), .val (.ref b296), .val (.ref a), .val (.int 2), .val (.int 2), s5l, s6l, s7l] [(.ref b296)])) rfl (by rw [hml]; rfl) (Steps.refl _) (argsL := []) (rest := []) (lenOf pd_14 rfl) rfl (by show 2 * 0 + _ ≤ _; exact Nat.le_of_eq rfl) (hb hby d1_168) (fun _ _ => ⟨rfl, e304, (by decide : 8 + 2 ≤ _), (by decide : 114 + 13 ≤ _)⟩)
    dsimp only [Pt.U, Pt.locs, Pt.cells, Pt.slots] at X311 l311 y311 z311 st311 hQ311
    subst l311 y311 z311
    obtain ⟨s_312, t2_313, k2_314, rfl, N311q, Kq311, P311_0, P311_1, P311_2, P311_3, P311_4, P311_5, P311_6⟩ := hQ311
    refine own_go (fun _ k => st311.trans k) ?_
    have N311 := Fr.app N304 N311q
    have ne_a_s_312 : a ≠ s_312 := Nat.ne_of_lt (Nat.lt_of_lt_of_le V_a.lt P311_0)
    have ne_b296_s_312 : b296 ≠ s_312 := Nat.ne_of_lt (Nat.lt_of_lt_of_le E_b296.lt P311_0)
    have ne_tl_s_312 : tl ≠ s_312 := Nat.ne_of_lt (Nat.lt_of_lt_of_le V_tl.lt P311_0)
    have g_s_312 : n0 ≤ s_312 := Nat.le_trans (own_osz O) P311_0
    have sz_s_312 : h0.size ≤ s_312 := Nat.le_trans K304.1 P311_0
    have ne_a_t2_313 : a ≠ t2_313 := Nat.ne_of_lt (Nat.lt_of_lt_of_le V_a.lt P311_2)
    have ne_b296_t2_313 : b296 ≠ t2_313 := Nat.ne_of_lt (Nat.lt_of_lt_of_le E_b296.lt P311_2)
    have ne_tl_t2_313 : tl ≠ t2_313 := Nat.ne_of_lt (Nat.lt_of_lt_of_le V_tl.lt P311_2)
    have g_t2_313 : n0 ≤ t2_313 := Nat.le_trans (own_osz O) P311_2
    have sz_t2_313 : h0.size ≤ t2_313 := Nat.le_trans K304.1 P311_2
    have V_a := V_a.keep Kq311 nin0
    have E_b296 := E_b296.keep Kq311
    have F_b296_ASB_value := F_b296_ASB_value.keep Kq311 nin0
    have F_b296_ASB_coder := F_b296_ASB_coder.keep Kq311 nin0
    have F_b296_ASB_count := F_b296_ASB_count.keep Kq311 nin0
    have V_tl := V_tl.keep Kq311 nin0
    have E_tl := E_tl.keep Kq311
    have O := O.keep Kq311 all0
    have K315 := K304.trans Kq311 all0
    have E_s_312 := P311_3
    have F_s_312_String_coder := P311_4
    have F_s_312_String_value := P311_5
    have V_t2_313 := P311_6
    show own_Fin p e below (T311.setTop (mkF m 171 #[.val (.ref a), .val (.ref b296), .val (.ref a), .val (.int 2), .val (.int 2), s5l, s6l, s7l] [(.ref s_312)])) _
    obtain ⟨fs, hr, hrun, hended, hW, hsame⟩ := X311.leave (v := some (.ref s_312)) (fun h => by rw [Bd.returns] at h; cases h)
    refine ⟨_, _, ?_, hrun, hended, _, _, rfl, ?_, ⟨_, rfl⟩, hW, hsame.mono (by decide) (by decide)⟩
    ·exact X311.areturnOut hx rfl Bd.returns rfl (hb hby d1_171) hr
    ·show Qen2 Z a z ka x0_ x1_ hxa kh h0 n0 _ T311.heap _
     exact ⟨s_312, t2_313, k2_314, rfl, N311, K315, sz_s_312, sz_t2_313, E_s_312, F_s_312_String_coder, F_s_312_String_value, (by rw [htkl, hcl] at V_t2_313; exact V_t2_313)⟩
  have lp1 : ∀ (T317 : State) (L317 : List Loc) (h317 : Heap) (tl : Addr) (kl : ClassId) (Nl : Int32) (vl : List Value) (cl : Int32) (s5l : Slot) (s6l : Slot) (s7l : Slot), Stand p l e ({ frames := 6, cells := 10, slots := 127, locals := 91 } : Room) s m #[(.ref a)] below meth c T317 L317 5 60 → T317.heap = h317 → Fr n0 L317 → Old Z n0 h317 → Keep h0 h317 [] → Arv Z h317 a ka .byte (2 : Int32) [(.int x0_), (.int x1_)] (.int 0) → Exa Z h317 b296 "java/lang/StringBuilder" → Fld Z h317 b296 "java/lang/AbstractStringBuilder" "value" "[B" (.ref tl) → Fld Z h317 b296 "java/lang/AbstractStringBuilder" "coder" "B" (.int 0) → Fld Z h317 b296 "java/lang/AbstractStringBuilder" "count" "I" (.int cl) → Arv Z h317 tl kl .byte Nl vl (.int 0) → Exa Z h317 tl "[B" → One s5l → One s6l → One s7l → n0 ≤ tl → h0.size ≤ tl → a ≠ tl → b296 ≠ tl → own_ok Nl vl cl → vl.take cl.toNatClampNeg = (own_enc x0_) → cl = Int32.ofNat (own_enc x0_).length → own_Fin p e below (T317.setTop (mkF m 21 #[.val (.ref a), .val (.ref b296), .val (.ref a), .val (.int 2), .val (.int 1), s5l, s6l, s7l] [(.int 2), (.int 1)])) (fun o' t' => ∃ v' L', o' = .returned v' ∧ Qen2 Z a z ka x0_ x1_ hxa kh h0 n0 v' t'.heap L' ∧ FrameEnd s o' t' L' ({ frames := 6, cells := 10, slots := 127, locals := 91 } : Room).cells ({ frames := 6, cells := 10, slots := 127, locals := 91 } : Room).slots) := by
   intro T317 L317 h317 tl kl Nl vl cl s5l s6l s7l X317 e317 N317 O K317 V_a E_b296 F_b296_ASB_value F_b296_ASB_coder F_b296_ASB_count V_tl E_tl o5l o6l o7l g_tl sz_tl ne_a_tl ne_b_tl hokl htkl hcl
   show own_Fin p e below (T317.setTop (mkF m 21 #[.val (.ref a), .val (.ref b296), .val (.ref a), .val (.int 2), .val (.int 1), s5l, s6l, s7l] [(.int 2), (.int 1)])) _
   refine own_go (fun _ k => XS.icmpNo X317.here hx rfl (hb hby d1_21) rfl (tlt (by decide : (1 : Int32) < (2 : Int32))).2.1 (XS.aloadN X317.here hx rfl (hb hby d1_24) rfl rfl (XS.iload X317.here hx rfl (hb hby d1_25) rfl k))) ?_
   show own_Fin p e below (T317.setTop (mkF m 27 #[.val (.ref a), .val (.ref b296), .val (.ref a), .val (.int 2), .val (.int 1), s5l, s6l, s7l] [(.int 1), (.ref a)])) _
   obtain ⟨cl318, A318, q318, S318, M318, H318, G318⟩ := id V_a
   have hin318 : ¬ ((1 : Int32) < 0 ∨ cl318.slots.size ≤ ((1 : Int32)).toNatClampNeg) := inb_of S318 ⟨by decide, by decide⟩
   have hat318 : cl318.slots[((1 : Int32)).toNatClampNeg]? = some (.int x1_) := Has.at H318 hin318 rfl
   refine own_go (fun _ k => X317.baloadBytes hx (j := (1 : Int32)) (v := (.int x1_)) (own_eqE e317 A318.1) (State.isArrayOf_alike hZ.alike A318.2.1) A318.2.2 hin318 hat318 (g := (mkF m 27 #[.val (.ref a), .val (.ref b296), .val (.ref a), .val (.int 2), .val (.int 1), s5l, s6l, s7l] [(.int 1), (.ref a)])) rfl rfl (hb hby d1_27) _ k) ?_
   show own_Fin p e below (T317.setTop (mkF m 28 #[.val (.ref a), .val (.ref b296), .val (.ref a), .val (.int 2), .val (.int 1), s5l, s6l, s7l] [(.int x1_)])) _
   refine own_go (fun _ k => XS.istore X317.here hx rfl (hb hby d1_28) rfl (l' := #[.val (.ref a), .val (.ref b296), .val (.ref a), .val (.int 2), .val (.int 1), .val (.int x1_), s6l, s7l]) (own_st2 rfl o5l rfl rfl) (XS.iload X317.here hx rfl (hb hby d1_30) rfl (XS.sipush X317.here hx rfl (hb hby d1_32) (XS.iand X317.here hx rfl (hb hby d1_35) rfl (XS.istore X317.here hx rfl (hb hby d1_36) rfl (l' := #[.val (.ref a), .val (.ref b296), .val (.ref a), .val (.int 2), .val (.int 1), .val (.int x1_), .val (.int (x1_ &&& (255 : Int32))), s7l]) (own_st2 rfl o6l rfl rfl) k))))) ?_
   show own_Fin p e below (T317.setTop (mkF m 38 #[.val (.ref a), .val (.ref b296), .val (.ref a), .val (.int 2), .val (.int 1), .val (.int x1_), .val (.int (x1_ &&& (255 : Int32))), s7l] [])) _
   refine chk _ _ _ _ X317 _ _ _ _ _ _ _ _ ?_
   intro f hf
   show own_Fin p e below (T317.setTop (mkF m 113 #[.val (.ref a), .val (.ref b296), .val (.ref a), .val (.int 2), .val (.int 1), .val (.int x1_), .val (.int (x1_ &&& (255 : Int32))), s7l] [(.int f)])) _
   refine own_go (fun _ k => XS.istore X317.here hx rfl (hb hby d1_113) rfl (l' := #[.val (.ref a), .val (.ref b296), .val (.ref a), .val (.int 2), .val (.int 1), .val (.int x1_), .val (.int (x1_ &&& (255 : Int32))), .val (.int f)]) (own_st2 rfl o7l rfl rfl) k) ?_
   show own_Fin p e below (T317.setTop (mkF m 115 #[.val (.ref a), .val (.ref b296), .val (.ref a), .val (.int 2), .val (.int 1), .val (.int x1_), .val (.int (x1_ &&& (255 : Int32))), .val (.int f)] [])) _
   by_cases hsU : own_unres (x1_ &&& (255 : Int32))
   ·rw [own_bi1 hsU] at hf; subst hf
    show own_Fin p e below (T317.setTop (mkF m 115 #[.val (.ref a), .val (.ref b296), .val (.ref a), .val (.int 2), .val (.int 1), .val (.int x1_), .val (.int (x1_ &&& (255 : Int32))), .val (.int 1)] [])) _
    refine own_go (fun _ k => XS.iload X317.here hx rfl (hb hby d1_115) rfl (XS.ifNo X317.here hx rfl (hb hby d1_117) rfl ((if0 _ _).trans (feq (by decide : ¬ ((1 : Int32) = (0 : Int32)))).1) (XS.aloadN X317.here hx rfl (hb hby d1_120) rfl rfl (XS.iload X317.here hx rfl (hb hby d1_121) rfl (XS.i2c X317.here hx rfl (hb hby d1_123) rfl k))))) ?_
    show own_Fin p e below (T317.setTop (mkF m 124 #[.val (.ref a), .val (.ref b296), .val (.ref a), .val (.int 2), .val (.int 1), .val (.int x1_), .val (.int (x1_ &&& (255 : Int32))), .val (.int 1)] [(.int ((x1_ &&& (255 : Int32)).toUInt32.toUInt16.toUInt32.toInt32)), (.ref b296)])) _
    have lt_a319 := V_a
    obtain ⟨cq320, kq320, q320a, q320b, q320c⟩ := isOf hZ e317 E_b296
    obtain ⟨_, _, ⟨T320, L320, k320, n320⟩, -, X320, ⟨Lc320, hQ320, l320, y320, z320⟩, st320⟩ := X317.virtualBack hx (y := (⟨"java/lang/StringBuilder", "append", "(C)Ljava/lang/StringBuilder;"⟩ : MethodName)) (z := (⟨"java/lang/StringBuilder", "append", "(C)Ljava/lang/StringBuilder;"⟩ : MethodName)) hown (mvT hZ (ow hw 90)) (mvT hZ (ow hw 91)) (notFace_of_selects (args := #[]) (mvT hZ (ow hw 93))) (mvT hZ (ow hw 93)) (mvT hZ (ow hw 92)) (by decide) (backOf (W := 0) (sap l Z a0 hw [] b296 ((x1_ &&& (255 : Int32)).toUInt32.toUInt16.toUInt32.toInt32) z tl kl Nl vl cl h317 n0 O S_String_COMPACT_STRINGS hz E_b296 F_b296_ASB_value F_b296_ASB_coder F_b296_ASB_count V_tl E_tl g_b296 g_tl ne_b_tl (own_c255 _) hokl (own_h8a hcl (own_lb1 _))) hZ (ow hw 94) (ow hw 7) (by decide) (by decide)) q320a q320c (g := (mkF m 124 #[.val (.ref a), .val (.ref b296), .val (.ref a), .val (.int 2), .val (.int 1), .val (.int x1_), .val (.int (x1_ &&& (255 : Int32))), .val (.int 1)] [(.int ((x1_ &&& (255 : Int32)).toUInt32.toUInt16.toUInt32.toInt32)), (.ref b296)])) rfl (by rw [hml]; rfl) (Steps.refl _) (argsL := [(.int ((x1_ &&& (255 : Int32)).toUInt32.toUInt16.toUInt32.toInt32))]) (rest := []) (lenOf pd_15 rfl) rfl (by show 2 * 0 + _ ≤ _; exact Nat.le_of_eq rfl) (hb hby d1_124) (fun _ _ => ⟨rfl, e317, (by decide : 5 + 1 ≤ _), (by decide : 60 + 18 ≤ _)⟩)
    dsimp only [Pt.U, Pt.locs, Pt.cells, Pt.slots] at X320 l320 y320 z320 st320 hQ320
    subst l320 y320 z320
    obtain ⟨t2_321, k2_322, N2_323, vs2_324, rfl, N320q, Kq320, P320_0, P320_1, P320_2, P320_3, P320_4, P320_5, P320_6, P320_7, P320_8, P320_9, P320_10⟩ := hQ320
    refine own_go (fun _ k => st320.trans k) ?_
    have N320 := Fr.app N317 N320q
    have V_a := V_a.keep Kq320 (ninS ne_a_b296 (ninS ne_a_tl nin0))
    have E_b296 := E_b296.keep Kq320
    clear F_b296_ASB_value
    clear F_b296_ASB_coder
    clear F_b296_ASB_count
    clear V_tl
    have E_tl := E_tl.keep Kq320
    have O := O.keep Kq320 (allS g_b296 (allS g_tl all0))
    have K325 := K317.trans Kq320 (allS (Or.inr sz_b296) (allS (Or.inr sz_tl) all0))
    have E_b296 := P320_3
    have F_b296_ASB_value := P320_4
    have F_b296_ASB_coder := P320_5
    have F_b296_ASB_count := P320_6
    have V_t2_321 := P320_7
    have E_t2_321 := P320_8
    have sz_t2_321 : h0.size ≤ t2_321 := P320_0.elim (fun q => by rw [q]; exact sz_tl) (fun q => Nat.le_trans K317.1 q)
    have ne_a_t2_321 : a ≠ t2_321 := P320_0.elim (fun q => by rw [q]; exact ne_a_tl) (fun q => Nat.ne_of_lt (Nat.lt_of_lt_of_le lt_a319.lt q))
    show own_Fin p e below (T320.setTop (mkF m 127 #[.val (.ref a), .val (.ref b296), .val (.ref a), .val (.int 2), .val (.int 1), .val (.int x1_), .val (.int (x1_ &&& (255 : Int32))), .val (.int 1)] [(.ref b296)])) _
    refine own_go (fun _ k => XS.pop X320.here hx rfl (hb hby d1_127) rfl rfl (XS.goto X320.here hx rfl (pc0 := 128) (pc' := 161) rfl (hb hby d1_128) (by decide) (by decide) (XS.iinc X320.here hx rfl (hb hby d1_161) rfl (l' := #[.val (.ref a), .val (.ref b296), .val (.ref a), .val (.int 2), .val (.int 2), .val (.int x1_), .val (.int (x1_ &&& (255 : Int32))), .val (.int 1)]) rfl (XS.goto X320.here hx rfl (pc0 := 164) (pc' := 18) rfl (hb hby d1_164) (by decide) (by decide) (XS.iload X320.here hx rfl (hb hby d1_18) rfl (XS.iloadN X320.here hx rfl (hb hby d1_20) rfl k)))))) ?_
    show own_Fin p e below (T320.setTop (mkF m 21 #[.val (.ref a), .val (.ref b296), .val (.ref a), .val (.int 2), .val (.int 2), .val (.int x1_), .val (.int (x1_ &&& (255 : Int32))), .val (.int 1)] [(.int 2), (.int 2)])) _
    exact lp2 _ _ _ t2_321 k2_322 _ _ _ _ _ _ (X320.more (by decide) (by decide)) rfl N320 O K325 V_a E_b296 F_b296_ASB_value F_b296_ASB_coder F_b296_ASB_count V_t2_321 E_t2_321 (One.val rfl) (One.val rfl) (One.val rfl) P320_1 sz_t2_321 ne_a_t2_321 P320_2 P320_9 (own_jn1T hsU htkl P320_10) (own_jc1T hsU hcl (own_lb1 _))
   ·rw [own_bi0 hsU] at hf; subst hf
    show own_Fin p e below (T317.setTop (mkF m 115 #[.val (.ref a), .val (.ref b296), .val (.ref a), .val (.int 2), .val (.int 1), .val (.int x1_), .val (.int (x1_ &&& (255 : Int32))), .val (.int 0)] [])) _
    refine own_go (fun _ k => XS.iload X317.here hx rfl (hb hby d1_115) rfl (XS.ifYes X317.here hx rfl (pc0 := 117) (pc' := 131) rfl (hb hby d1_117) rfl ((if0 _ _).trans (teq (by decide : (0 : Int32) = (0 : Int32))).1) (by decide) (by decide) (XS.aloadN X317.here hx rfl (hb hby d1_131) rfl rfl (XS.bipush X317.here hx rfl (hb hby d1_132) k)))) ?_
    show own_Fin p e below (T317.setTop (mkF m 134 #[.val (.ref a), .val (.ref b296), .val (.ref a), .val (.int 2), .val (.int 1), .val (.int x1_), .val (.int (x1_ &&& (255 : Int32))), .val (.int 0)] [(.int 37), (.ref b296)])) _
    have lt_a326 := V_a
    obtain ⟨cq327, kq327, q327a, q327b, q327c⟩ := isOf hZ e317 E_b296
    obtain ⟨_, _, ⟨T327, L327, k327, n327⟩, -, X327, ⟨Lc327, hQ327, l327, y327, z327⟩, st327⟩ := X317.virtualBack hx (y := (⟨"java/lang/StringBuilder", "append", "(C)Ljava/lang/StringBuilder;"⟩ : MethodName)) (z := (⟨"java/lang/StringBuilder", "append", "(C)Ljava/lang/StringBuilder;"⟩ : MethodName)) hown (mvT hZ (ow hw 90)) (mvT hZ (ow hw 91)) (notFace_of_selects (args := #[]) (mvT hZ (ow hw 93))) (mvT hZ (ow hw 93)) (mvT hZ (ow hw 92)) (by decide) (backOf (W := 0) (sap l Z a0 hw [] b296 (37 : Int32) z tl kl Nl vl cl h317 n0 O S_String_COMPACT_STRINGS hz E_b296 F_b296_ASB_value F_b296_ASB_coder F_b296_ASB_count V_tl E_tl g_b296 g_tl ne_b_tl (by decide) hokl (own_h8a hcl (own_lb1 _))) hZ (ow hw 94) (ow hw 7) (by decide) (by decide)) q327a q327c (g := (mkF m 134 #[.val (.ref a), .val (.ref b296), .val (.ref a), .val (.int 2), .val (.int 1), .val (.int x1_), .val (.int (x1_ &&& (255 : Int32))), .val (.int 0)] [(.int 37), (.ref b296)])) rfl (by rw [hml]; rfl) (Steps.refl _) (argsL := [(.int 37)]) (rest := []) (lenOf pd_15 rfl) rfl (by show 2 * 0 + _ ≤ _; exact Nat.le_of_eq rfl) (hb hby d1_134) (fun _ _ => ⟨rfl, e317, (by decide : 5 + 1 ≤ _), (by decide : 60 + 18 ≤ _)⟩)
    dsimp only [Pt.U, Pt.locs, Pt.cells, Pt.slots] at X327 l327 y327 z327 st327 hQ327
    subst l327 y327 z327
    obtain ⟨t2_328, k2_329, N2_330, vs2_331, rfl, N327q, Kq327, P327_0, P327_1, P327_2, P327_3, P327_4, P327_5, P327_6, P327_7, P327_8, P327_9, P327_10⟩ := hQ327
    refine own_go (fun _ k => st327.trans k) ?_
    have N327 := Fr.app N317 N327q
    have V_a := V_a.keep Kq327 (ninS ne_a_b296 (ninS ne_a_tl nin0))
    have E_b296 := E_b296.keep Kq327
    clear F_b296_ASB_value
    clear F_b296_ASB_coder
    clear F_b296_ASB_count
    clear V_tl
    have E_tl := E_tl.keep Kq327
    have O := O.keep Kq327 (allS g_b296 (allS g_tl all0))
    have K332 := K317.trans Kq327 (allS (Or.inr sz_b296) (allS (Or.inr sz_tl) all0))
    have E_b296 := P327_3
    have F_b296_ASB_value := P327_4
    have F_b296_ASB_coder := P327_5
    have F_b296_ASB_count := P327_6
    have V_t2_328 := P327_7
    have E_t2_328 := P327_8
    have sz_t2_328 : h0.size ≤ t2_328 := P327_0.elim (fun q => by rw [q]; exact sz_tl) (fun q => Nat.le_trans K317.1 q)
    have ne_a_t2_328 : a ≠ t2_328 := P327_0.elim (fun q => by rw [q]; exact ne_a_tl) (fun q => Nat.ne_of_lt (Nat.lt_of_lt_of_le lt_a326.lt q))
    show own_Fin p e below (T327.setTop (mkF m 137 #[.val (.ref a), .val (.ref b296), .val (.ref a), .val (.int 2), .val (.int 1), .val (.int x1_), .val (.int (x1_ &&& (255 : Int32))), .val (.int 0)] [(.ref b296)])) _
    obtain ⟨T333, X333, e333, st333⟩ := getS2 X327 hx hZ hown (host := "") (Or.inl (ow hw 109)) Via.refl rfl (S_Uris_HEX.ext O.2) (g := (mkF m 137 #[.val (.ref a), .val (.ref b296), .val (.ref a), .val (.int 2), .val (.int 1), .val (.int x1_), .val (.int (x1_ &&& (255 : Int32))), .val (.int 0)] [(.ref b296)])) rfl (hb hby d1_137)
    refine own_go (fun _ k => st333 _ k) ?_
    show own_Fin p e below (T333.setTop (mkF m 140 #[.val (.ref a), .val (.ref b296), .val (.ref a), .val (.int 2), .val (.int 1), .val (.int x1_), .val (.int (x1_ &&& (255 : Int32))), .val (.int 0)] [(.ref hxa), (.ref b296)])) _
    refine own_go (fun _ k => XS.iload X333.here hx rfl (hb hby d1_140) rfl (XS.iconst X333.here hx rfl (hb hby d1_142) (XS.ishr X333.here hx rfl (hb hby d1_143) rfl k))) ?_
    show own_Fin p e below (T333.setTop (mkF m 144 #[.val (.ref a), .val (.ref b296), .val (.ref a), .val (.int 2), .val (.int 1), .val (.int x1_), .val (.int (x1_ &&& (255 : Int32))), .val (.int 0)] [(.int ((x1_ &&& (255 : Int32)) >>> ((4 : Int32) &&& 31))), (.ref hxa), (.ref b296)])) _
    obtain ⟨cl334, A334, q334, S334, M334, H334, G334⟩ := id (V_hxa.ext O.2)
    have hin334 : ¬ (((x1_ &&& (255 : Int32)) >>> ((4 : Int32) &&& 31)) < 0 ∨ cl334.slots.size ≤ (((x1_ &&& (255 : Int32)) >>> ((4 : Int32) &&& 31))).toNatClampNeg) := inb_of S334 (own_in16 _)
    have hat334 : cl334.slots[(((x1_ &&& (255 : Int32)) >>> ((4 : Int32) &&& 31))).toNatClampNeg]? = some (.int (own_hv ((x1_ &&& (255 : Int32)) >>> ((4 : Int32) &&& 31)))) := Has.at H334 hin334 (own_hget _)
    refine own_go (fun _ k => X333.caload hx (j := ((x1_ &&& (255 : Int32)) >>> ((4 : Int32) &&& 31))) (v := (.int (own_hv ((x1_ &&& (255 : Int32)) >>> ((4 : Int32) &&& 31))))) (own_eqE e333 A334.1) (State.isArrayOf_alike hZ.alike A334.2.1) A334.2.2 hin334 hat334 (g := (mkF m 144 #[.val (.ref a), .val (.ref b296), .val (.ref a), .val (.int 2), .val (.int 1), .val (.int x1_), .val (.int (x1_ &&& (255 : Int32))), .val (.int 0)] [(.int ((x1_ &&& (255 : Int32)) >>> ((4 : Int32) &&& 31))), (.ref hxa), (.ref b296)])) rfl rfl (hb hby d1_144) _ k) ?_
    show own_Fin p e below (T333.setTop (mkF m 145 #[.val (.ref a), .val (.ref b296), .val (.ref a), .val (.int 2), .val (.int 1), .val (.int x1_), .val (.int (x1_ &&& (255 : Int32))), .val (.int 0)] [(.int (own_hv ((x1_ &&& (255 : Int32)) >>> ((4 : Int32) &&& 31)))), (.ref b296)])) _
    have lt_a335 := V_a
    obtain ⟨cq336, kq336, q336a, q336b, q336c⟩ := isOf hZ e333 E_b296
    obtain ⟨_, _, ⟨T336, L336, k336, n336⟩, -, X336, ⟨Lc336, hQ336, l336, y336, z336⟩, st336⟩ := X333.virtualBack hx (y := (⟨"java/lang/StringBuilder", "append", "(C)Ljava/lang/StringBuilder;"⟩ : MethodName)) (z := (⟨"java/lang/StringBuilder", "append", "(C)Ljava/lang/StringBuilder;"⟩ : MethodName)) hown (mvT hZ (ow hw 90)) (mvT hZ (ow hw 91)) (notFace_of_selects (args := #[]) (mvT hZ (ow hw 93))) (mvT hZ (ow hw 93)) (mvT hZ (ow hw 92)) (by decide) (backOf (W := 0) (sap l Z a0 hw [] b296 (own_hv ((x1_ &&& (255 : Int32)) >>> ((4 : Int32) &&& 31))) z t2_328 k2_329 N2_330 vs2_331 (cl + (1 : Int32)) (T327.heap) n0 O S_String_COMPACT_STRINGS hz E_b296 F_b296_ASB_value F_b296_ASB_coder F_b296_ASB_count V_t2_328 E_t2_328 g_b296 P327_1 P327_2 (own_hv255 _) P327_9 (own_h8b hcl (own_lb1 _))) hZ (ow hw 94) (ow hw 7) (by decide) (by decide)) q336a q336c (g := (mkF m 145 #[.val (.ref a), .val (.ref b296), .val (.ref a), .val (.int 2), .val (.int 1), .val (.int x1_), .val (.int (x1_ &&& (255 : Int32))), .val (.int 0)] [(.int (own_hv ((x1_ &&& (255 : Int32)) >>> ((4 : Int32) &&& 31)))), (.ref b296)])) rfl (by rw [hml]; rfl) (Steps.refl _) (argsL := [(.int (own_hv ((x1_ &&& (255 : Int32)) >>> ((4 : Int32) &&& 31))))]) (rest := []) (lenOf pd_15 rfl) rfl (by show 2 * 0 + _ ≤ _; exact Nat.le_of_eq rfl) (hb hby d1_145) (fun _ _ => ⟨rfl, e333, (by decide : 6 + 1 ≤ _), (by decide : 78 + 18 ≤ _)⟩)
    dsimp only [Pt.U, Pt.locs, Pt.cells, Pt.slots] at X336 l336 y336 z336 st336 hQ336
    subst l336 y336 z336
    obtain ⟨t2_337, k2_338, N2_339, vs2_340, rfl, N336q, Kq336, P336_0, P336_1, P336_2, P336_3, P336_4, P336_5, P336_6, P336_7, P336_8, P336_9, P336_10⟩ := hQ336
    refine own_go (fun _ k => st336.trans k) ?_
    have N336 := Fr.app N327 N336q
    have V_a := V_a.keep Kq336 (ninS ne_a_b296 (ninS ne_a_t2_328 nin0))
    have E_b296 := E_b296.keep Kq336
    clear F_b296_ASB_value
    clear F_b296_ASB_coder
    clear F_b296_ASB_count
    clear V_t2_328
    have E_t2_328 := E_t2_328.keep Kq336
    have O := O.keep Kq336 (allS g_b296 (allS P327_1 all0))
    have K341 := K332.trans Kq336 (allS (Or.inr sz_b296) (allS (Or.inr sz_t2_328) all0))
    have E_b296 := P336_3
    have F_b296_ASB_value := P336_4
    have F_b296_ASB_coder := P336_5
    have F_b296_ASB_count := P336_6
    have V_t2_337 := P336_7
    have E_t2_337 := P336_8
    have sz_t2_337 : h0.size ≤ t2_337 := P336_0.elim (fun q => by rw [q]; exact sz_t2_328) (fun q => Nat.le_trans K332.1 q)
    have ne_a_t2_337 : a ≠ t2_337 := P336_0.elim (fun q => by rw [q]; exact ne_a_t2_328) (fun q => Nat.ne_of_lt (Nat.lt_of_lt_of_le lt_a335.lt q))
    show own_Fin p e below (T336.setTop (mkF m 148 #[.val (.ref a), .val (.ref b296), .val (.ref a), .val (.int 2), .val (.int 1), .val (.int x1_), .val (.int (x1_ &&& (255 : Int32))), .val (.int 0)] [(.ref b296)])) _
    obtain ⟨T342, X342, e342, st342⟩ := getS2 X336 hx hZ hown (host := "") (Or.inl (ow hw 109)) Via.refl rfl (S_Uris_HEX.ext O.2) (g := (mkF m 148 #[.val (.ref a), .val (.ref b296), .val (.ref a), .val (.int 2), .val (.int 1), .val (.int x1_), .val (.int (x1_ &&& (255 : Int32))), .val (.int 0)] [(.ref b296)])) rfl (hb hby d1_148)
    refine own_go (fun _ k => st342 _ k) ?_
    show own_Fin p e below (T342.setTop (mkF m 151 #[.val (.ref a), .val (.ref b296), .val (.ref a), .val (.int 2), .val (.int 1), .val (.int x1_), .val (.int (x1_ &&& (255 : Int32))), .val (.int 0)] [(.ref hxa), (.ref b296)])) _
    refine own_go (fun _ k => XS.iload X342.here hx rfl (hb hby d1_151) rfl (XS.bipush X342.here hx rfl (hb hby d1_153) (XS.iand X342.here hx rfl (hb hby d1_155) rfl k))) ?_
    show own_Fin p e below (T342.setTop (mkF m 156 #[.val (.ref a), .val (.ref b296), .val (.ref a), .val (.int 2), .val (.int 1), .val (.int x1_), .val (.int (x1_ &&& (255 : Int32))), .val (.int 0)] [(.int ((x1_ &&& (255 : Int32)) &&& (15 : Int32))), (.ref hxa), (.ref b296)])) _
    obtain ⟨cl343, A343, q343, S343, M343, H343, G343⟩ := id (V_hxa.ext O.2)
    have hin343 : ¬ (((x1_ &&& (255 : Int32)) &&& (15 : Int32)) < 0 ∨ cl343.slots.size ≤ (((x1_ &&& (255 : Int32)) &&& (15 : Int32))).toNatClampNeg) := inb_of S343 (own_lo16 _)
    have hat343 : cl343.slots[(((x1_ &&& (255 : Int32)) &&& (15 : Int32))).toNatClampNeg]? = some (.int (own_hv ((x1_ &&& (255 : Int32)) &&& (15 : Int32)))) := Has.at H343 hin343 (own_hget _)
    refine own_go (fun _ k => X342.caload hx (j := ((x1_ &&& (255 : Int32)) &&& (15 : Int32))) (v := (.int (own_hv ((x1_ &&& (255 : Int32)) &&& (15 : Int32))))) (own_eqE e342 A343.1) (State.isArrayOf_alike hZ.alike A343.2.1) A343.2.2 hin343 hat343 (g := (mkF m 156 #[.val (.ref a), .val (.ref b296), .val (.ref a), .val (.int 2), .val (.int 1), .val (.int x1_), .val (.int (x1_ &&& (255 : Int32))), .val (.int 0)] [(.int ((x1_ &&& (255 : Int32)) &&& (15 : Int32))), (.ref hxa), (.ref b296)])) rfl rfl (hb hby d1_156) _ k) ?_
    show own_Fin p e below (T342.setTop (mkF m 157 #[.val (.ref a), .val (.ref b296), .val (.ref a), .val (.int 2), .val (.int 1), .val (.int x1_), .val (.int (x1_ &&& (255 : Int32))), .val (.int 0)] [(.int (own_hv ((x1_ &&& (255 : Int32)) &&& (15 : Int32)))), (.ref b296)])) _
    have lt_a344 := V_a
    obtain ⟨cq345, kq345, q345a, q345b, q345c⟩ := isOf hZ e342 E_b296
    obtain ⟨_, _, ⟨T345, L345, k345, n345⟩, -, X345, ⟨Lc345, hQ345, l345, y345, z345⟩, st345⟩ := X342.virtualBack hx (y := (⟨"java/lang/StringBuilder", "append", "(C)Ljava/lang/StringBuilder;"⟩ : MethodName)) (z := (⟨"java/lang/StringBuilder", "append", "(C)Ljava/lang/StringBuilder;"⟩ : MethodName)) hown (mvT hZ (ow hw 90)) (mvT hZ (ow hw 91)) (notFace_of_selects (args := #[]) (mvT hZ (ow hw 93))) (mvT hZ (ow hw 93)) (mvT hZ (ow hw 92)) (by decide) (backOf (W := 0) (sap l Z a0 hw [] b296 (own_hv ((x1_ &&& (255 : Int32)) &&& (15 : Int32))) z t2_337 k2_338 N2_339 vs2_340 ((cl + (1 : Int32)) + (1 : Int32)) (T336.heap) n0 O S_String_COMPACT_STRINGS hz E_b296 F_b296_ASB_value F_b296_ASB_coder F_b296_ASB_count V_t2_337 E_t2_337 g_b296 P336_1 P336_2 (own_hv255 _) P336_9 (own_h8c hcl (own_lb1 _))) hZ (ow hw 94) (ow hw 7) (by decide) (by decide)) q345a q345c (g := (mkF m 157 #[.val (.ref a), .val (.ref b296), .val (.ref a), .val (.int 2), .val (.int 1), .val (.int x1_), .val (.int (x1_ &&& (255 : Int32))), .val (.int 0)] [(.int (own_hv ((x1_ &&& (255 : Int32)) &&& (15 : Int32)))), (.ref b296)])) rfl (by rw [hml]; rfl) (Steps.refl _) (argsL := [(.int (own_hv ((x1_ &&& (255 : Int32)) &&& (15 : Int32))))]) (rest := []) (lenOf pd_15 rfl) rfl (by show 2 * 0 + _ ≤ _; exact Nat.le_of_eq rfl) (hb hby d1_157) (fun _ _ => ⟨rfl, e342, (by decide : 7 + 1 ≤ _), (by decide : 96 + 18 ≤ _)⟩)
    dsimp only [Pt.U, Pt.locs, Pt.cells, Pt.slots] at X345 l345 y345 z345 st345 hQ345
    subst l345 y345 z345
    obtain ⟨t2_346, k2_347, N2_348, vs2_349, rfl, N345q, Kq345, P345_0, P345_1, P345_2, P345_3, P345_4, P345_5, P345_6, P345_7, P345_8, P345_9, P345_10⟩ := hQ345
    refine own_go (fun _ k => st345.trans k) ?_
    have N345 := Fr.app N336 N345q
    have V_a := V_a.keep Kq345 (ninS ne_a_b296 (ninS ne_a_t2_337 nin0))
    have E_b296 := E_b296.keep Kq345
    clear F_b296_ASB_value
    clear F_b296_ASB_coder
    clear F_b296_ASB_count
    clear V_t2_337
    have E_t2_337 := E_t2_337.keep Kq345
    have O := O.keep Kq345 (allS g_b296 (allS P336_1 all0))
    have K350 := K341.trans Kq345 (allS (Or.inr sz_b296) (allS (Or.inr sz_t2_337) all0))
    have E_b296 := P345_3
    have F_b296_ASB_value := P345_4
    have F_b296_ASB_coder := P345_5
    have F_b296_ASB_count := P345_6
    have V_t2_346 := P345_7
    have E_t2_346 := P345_8
    have sz_t2_346 : h0.size ≤ t2_346 := P345_0.elim (fun q => by rw [q]; exact sz_t2_337) (fun q => Nat.le_trans K341.1 q)
    have ne_a_t2_346 : a ≠ t2_346 := P345_0.elim (fun q => by rw [q]; exact ne_a_t2_337) (fun q => Nat.ne_of_lt (Nat.lt_of_lt_of_le lt_a344.lt q))
    show own_Fin p e below (T345.setTop (mkF m 160 #[.val (.ref a), .val (.ref b296), .val (.ref a), .val (.int 2), .val (.int 1), .val (.int x1_), .val (.int (x1_ &&& (255 : Int32))), .val (.int 0)] [(.ref b296)])) _
    refine own_go (fun _ k => XS.pop X345.here hx rfl (hb hby d1_160) rfl rfl (XS.iinc X345.here hx rfl (hb hby d1_161) rfl (l' := #[.val (.ref a), .val (.ref b296), .val (.ref a), .val (.int 2), .val (.int 2), .val (.int x1_), .val (.int (x1_ &&& (255 : Int32))), .val (.int 0)]) rfl (XS.goto X345.here hx rfl (pc0 := 164) (pc' := 18) rfl (hb hby d1_164) (by decide) (by decide) (XS.iload X345.here hx rfl (hb hby d1_18) rfl (XS.iloadN X345.here hx rfl (hb hby d1_20) rfl k))))) ?_
    show own_Fin p e below (T345.setTop (mkF m 21 #[.val (.ref a), .val (.ref b296), .val (.ref a), .val (.int 2), .val (.int 2), .val (.int x1_), .val (.int (x1_ &&& (255 : Int32))), .val (.int 0)] [(.int 2), (.int 2)])) _
    exact lp2 _ _ _ t2_346 k2_347 _ _ _ _ _ _ X345 rfl N345 O K350 V_a E_b296 F_b296_ASB_value F_b296_ASB_coder F_b296_ASB_count V_t2_346 E_t2_346 (One.val rfl) (One.val rfl) (One.val rfl) P345_1 sz_t2_346 ne_a_t2_346 P345_2 P345_9 (own_jn1F hsU htkl P327_10 P336_10 P345_10) (own_jc1F hsU hcl (own_lb1 _))
  have hokl : own_ok (2 : Int32) [(.int 0), (.int 0)] (0 : Int32) := ⟨by decide, by decide, by decide, rfl⟩
  have htkl : List.take (0 : Int32).toNatClampNeg [(.int 0), (.int 0)] = ([] : List Value) := rfl
  have hcl : (0 : Int32) = Int32.ofNat ([] : List Value).length := rfl
  show own_Fin p e below (T299.setTop (mkF m 21 #[.val (.ref a), .val (.ref b296), .val (.ref a), .val (.int 2), .val (.int 0), .unset, .unset, .unset] [(.int 2), (.int 0)])) _
  refine own_go (fun _ k => XS.icmpNo X299.here hx rfl (hb hby d1_21) rfl (tlt (by decide : (0 : Int32) < (2 : Int32))).2.1 (XS.aloadN X299.here hx rfl (hb hby d1_24) rfl rfl (XS.iload X299.here hx rfl (hb hby d1_25) rfl k))) ?_
  show own_Fin p e below (T299.setTop (mkF m 27 #[.val (.ref a), .val (.ref b296), .val (.ref a), .val (.int 2), .val (.int 0), .unset, .unset, .unset] [(.int 0), (.ref a)])) _
  obtain ⟨cl351, A351, q351, S351, M351, H351, G351⟩ := id V_a
  have hin351 : ¬ ((0 : Int32) < 0 ∨ cl351.slots.size ≤ ((0 : Int32)).toNatClampNeg) := inb_of S351 ⟨by decide, by decide⟩
  have hat351 : cl351.slots[((0 : Int32)).toNatClampNeg]? = some (.int x0_) := Has.at H351 hin351 rfl
  refine own_go (fun _ k => X299.baloadBytes hx (j := (0 : Int32)) (v := (.int x0_)) (own_eqE rfl A351.1) (State.isArrayOf_alike hZ.alike A351.2.1) A351.2.2 hin351 hat351 (g := (mkF m 27 #[.val (.ref a), .val (.ref b296), .val (.ref a), .val (.int 2), .val (.int 0), .unset, .unset, .unset] [(.int 0), (.ref a)])) rfl rfl (hb hby d1_27) _ k) ?_
  show own_Fin p e below (T299.setTop (mkF m 28 #[.val (.ref a), .val (.ref b296), .val (.ref a), .val (.int 2), .val (.int 0), .unset, .unset, .unset] [(.int x0_)])) _
  refine own_go (fun _ k => XS.istore X299.here hx rfl (hb hby d1_28) rfl (l' := #[.val (.ref a), .val (.ref b296), .val (.ref a), .val (.int 2), .val (.int 0), .val (.int x0_), .unset, .unset]) rfl (XS.iload X299.here hx rfl (hb hby d1_30) rfl (XS.sipush X299.here hx rfl (hb hby d1_32) (XS.iand X299.here hx rfl (hb hby d1_35) rfl (XS.istore X299.here hx rfl (hb hby d1_36) rfl (l' := #[.val (.ref a), .val (.ref b296), .val (.ref a), .val (.int 2), .val (.int 0), .val (.int x0_), .val (.int (x0_ &&& (255 : Int32))), .unset]) rfl k))))) ?_
  show own_Fin p e below (T299.setTop (mkF m 38 #[.val (.ref a), .val (.ref b296), .val (.ref a), .val (.int 2), .val (.int 0), .val (.int x0_), .val (.int (x0_ &&& (255 : Int32))), .unset] [])) _
  refine chk _ _ _ _ X299 _ _ _ _ _ _ _ _ ?_
  intro f hf
  show own_Fin p e below (T299.setTop (mkF m 113 #[.val (.ref a), .val (.ref b296), .val (.ref a), .val (.int 2), .val (.int 0), .val (.int x0_), .val (.int (x0_ &&& (255 : Int32))), .unset] [(.int f)])) _
  refine own_go (fun _ k => XS.istore X299.here hx rfl (hb hby d1_113) rfl (l' := #[.val (.ref a), .val (.ref b296), .val (.ref a), .val (.int 2), .val (.int 0), .val (.int x0_), .val (.int (x0_ &&& (255 : Int32))), .val (.int f)]) rfl k) ?_
  show own_Fin p e below (T299.setTop (mkF m 115 #[.val (.ref a), .val (.ref b296), .val (.ref a), .val (.int 2), .val (.int 0), .val (.int x0_), .val (.int (x0_ &&& (255 : Int32))), .val (.int f)] [])) _
  by_cases hsU : own_unres (x0_ &&& (255 : Int32))
  ·rw [own_bi1 hsU] at hf; subst hf
   show own_Fin p e below (T299.setTop (mkF m 115 #[.val (.ref a), .val (.ref b296), .val (.ref a), .val (.int 2), .val (.int 0), .val (.int x0_), .val (.int (x0_ &&& (255 : Int32))), .val (.int 1)] [])) _
   refine own_go (fun _ k => XS.iload X299.here hx rfl (hb hby d1_115) rfl (XS.ifNo X299.here hx rfl (hb hby d1_117) rfl ((if0 _ _).trans (feq (by decide : ¬ ((1 : Int32) = (0 : Int32)))).1) (XS.aloadN X299.here hx rfl (hb hby d1_120) rfl rfl (XS.iload X299.here hx rfl (hb hby d1_121) rfl (XS.i2c X299.here hx rfl (hb hby d1_123) rfl k))))) ?_
   show own_Fin p e below (T299.setTop (mkF m 124 #[.val (.ref a), .val (.ref b296), .val (.ref a), .val (.int 2), .val (.int 0), .val (.int x0_), .val (.int (x0_ &&& (255 : Int32))), .val (.int 1)] [(.int ((x0_ &&& (255 : Int32)).toUInt32.toUInt16.toUInt32.toInt32)), (.ref b296)])) _
   have lt_a352 := V_a
   obtain ⟨cq353, kq353, q353a, q353b, q353c⟩ := isOf hZ rfl E_b296
   obtain ⟨_, _, ⟨T353, L353, k353, n353⟩, -, X353, ⟨Lc353, hQ353, l353, y353, z353⟩, st353⟩ := X299.virtualBack hx (y := (⟨"java/lang/StringBuilder", "append", "(C)Ljava/lang/StringBuilder;"⟩ : MethodName)) (z := (⟨"java/lang/StringBuilder", "append", "(C)Ljava/lang/StringBuilder;"⟩ : MethodName)) hown (mvT hZ (ow hw 90)) (mvT hZ (ow hw 91)) (notFace_of_selects (args := #[]) (mvT hZ (ow hw 93))) (mvT hZ (ow hw 93)) (mvT hZ (ow hw 92)) (by decide) (backOf (W := 0) (sap l Z a0 hw [] b296 ((x0_ &&& (255 : Int32)).toUInt32.toUInt16.toUInt32.toInt32) z t_300 k_301 (2 : Int32) [(.int 0), (.int 0)] (0 : Int32) (T299.heap) n0 O S_String_COMPACT_STRINGS hz E_b296 F_b296_ASB_value F_b296_ASB_coder F_b296_ASB_count V_t_300 E_t_300 g_b296 g_t_300 ne_b296_t_300 (own_c255 _) hokl (own_h8a hcl (own_lb0 ))) hZ (ow hw 94) (ow hw 7) (by decide) (by decide)) q353a q353c (g := (mkF m 124 #[.val (.ref a), .val (.ref b296), .val (.ref a), .val (.int 2), .val (.int 0), .val (.int x0_), .val (.int (x0_ &&& (255 : Int32))), .val (.int 1)] [(.int ((x0_ &&& (255 : Int32)).toUInt32.toUInt16.toUInt32.toInt32)), (.ref b296)])) rfl (by rw [hml]; rfl) (Steps.refl _) (argsL := [(.int ((x0_ &&& (255 : Int32)).toUInt32.toUInt16.toUInt32.toInt32))]) (rest := []) (lenOf pd_15 rfl) rfl (by show 2 * 0 + _ ≤ _; exact Nat.le_of_eq rfl) (hb hby d1_124) (fun _ _ => ⟨rfl, rfl, (by decide : 2 + 1 ≤ _), (by decide : 6 + 18 ≤ _)⟩)
   dsimp only [Pt.U, Pt.locs, Pt.cells, Pt.slots] at X353 l353 y353 z353 st353 hQ353
   subst l353 y353 z353
   obtain ⟨t2_354, k2_355, N2_356, vs2_357, rfl, N353q, Kq353, P353_0, P353_1, P353_2, P353_3, P353_4, P353_5, P353_6, P353_7, P353_8, P353_9, P353_10⟩ := hQ353
   refine own_go (fun _ k => st353.trans k) ?_
   have N353 := Fr.app N299 N353q
   have V_a := V_a.keep Kq353 (ninS ne_a_b296 (ninS ne_a_t_300 nin0))
   have E_b296 := E_b296.keep Kq353
   clear F_b296_ASB_value
   clear F_b296_ASB_coder
   clear F_b296_ASB_count
   clear V_t_300
   have E_t_300 := E_t_300.keep Kq353
   have O := O.keep Kq353 (allS g_b296 (allS g_t_300 all0))
   have K358 := K302.trans Kq353 (allS (Or.inr sz_b296) (allS (Or.inr sz_t_300) all0))
   have E_b296 := P353_3
   have F_b296_ASB_value := P353_4
   have F_b296_ASB_coder := P353_5
   have F_b296_ASB_count := P353_6
   have V_t2_354 := P353_7
   have E_t2_354 := P353_8
   have sz_t2_354 : h0.size ≤ t2_354 := P353_0.elim (fun q => by rw [q]; exact sz_t_300) (fun q => Nat.le_trans K302.1 q)
   have ne_a_t2_354 : a ≠ t2_354 := P353_0.elim (fun q => by rw [q]; exact ne_a_t_300) (fun q => Nat.ne_of_lt (Nat.lt_of_lt_of_le lt_a352.lt q))
   show own_Fin p e below (T353.setTop (mkF m 127 #[.val (.ref a), .val (.ref b296), .val (.ref a), .val (.int 2), .val (.int 0), .val (.int x0_), .val (.int (x0_ &&& (255 : Int32))), .val (.int 1)] [(.ref b296)])) _
   refine own_go (fun _ k => XS.pop X353.here hx rfl (hb hby d1_127) rfl rfl (XS.goto X353.here hx rfl (pc0 := 128) (pc' := 161) rfl (hb hby d1_128) (by decide) (by decide) (XS.iinc X353.here hx rfl (hb hby d1_161) rfl (l' := #[.val (.ref a), .val (.ref b296), .val (.ref a), .val (.int 2), .val (.int 1), .val (.int x0_), .val (.int (x0_ &&& (255 : Int32))), .val (.int 1)]) rfl (XS.goto X353.here hx rfl (pc0 := 164) (pc' := 18) rfl (hb hby d1_164) (by decide) (by decide) (XS.iload X353.here hx rfl (hb hby d1_18) rfl (XS.iloadN X353.here hx rfl (hb hby d1_20) rfl k)))))) ?_
   show own_Fin p e below (T353.setTop (mkF m 21 #[.val (.ref a), .val (.ref b296), .val (.ref a), .val (.int 2), .val (.int 1), .val (.int x0_), .val (.int (x0_ &&& (255 : Int32))), .val (.int 1)] [(.int 2), (.int 1)])) _
   exact lp1 _ _ _ t2_354 k2_355 _ _ _ _ _ _ (X353.more (by decide) (by decide)) rfl N353 O K358 V_a E_b296 F_b296_ASB_value F_b296_ASB_coder F_b296_ASB_count V_t2_354 E_t2_354 (One.val rfl) (One.val rfl) (One.val rfl) P353_1 sz_t2_354 ne_a_t2_354 P353_2 P353_9 (own_jn0T hsU htkl P353_10) (own_jc0T hsU hcl (own_lb0 ))
  ·rw [own_bi0 hsU] at hf; subst hf
   show own_Fin p e below (T299.setTop (mkF m 115 #[.val (.ref a), .val (.ref b296), .val (.ref a), .val (.int 2), .val (.int 0), .val (.int x0_), .val (.int (x0_ &&& (255 : Int32))), .val (.int 0)] [])) _
   refine own_go (fun _ k => XS.iload X299.here hx rfl (hb hby d1_115) rfl (XS.ifYes X299.here hx rfl (pc0 := 117) (pc' := 131) rfl (hb hby d1_117) rfl ((if0 _ _).trans (teq (by decide : (0 : Int32) = (0 : Int32))).1) (by decide) (by decide) (XS.aloadN X299.here hx rfl (hb hby d1_131) rfl rfl (XS.bipush X299.here hx rfl (hb hby d1_132) k)))) ?_
   show own_Fin p e below (T299.setTop (mkF m 134 #[.val (.ref a), .val (.ref b296), .val (.ref a), .val (.int 2), .val (.int 0), .val (.int x0_), .val (.int (x0_ &&& (255 : Int32))), .val (.int 0)] [(.int 37), (.ref b296)])) _
   have lt_a359 := V_a
   obtain ⟨cq360, kq360, q360a, q360b, q360c⟩ := isOf hZ rfl E_b296
   obtain ⟨_, _, ⟨T360, L360, k360, n360⟩, -, X360, ⟨Lc360, hQ360, l360, y360, z360⟩, st360⟩ := X299.virtualBack hx (y := (⟨"java/lang/StringBuilder", "append", "(C)Ljava/lang/StringBuilder;"⟩ : MethodName)) (z := (⟨"java/lang/StringBuilder", "append", "(C)Ljava/lang/StringBuilder;"⟩ : MethodName)) hown (mvT hZ (ow hw 90)) (mvT hZ (ow hw 91)) (notFace_of_selects (args := #[]) (mvT hZ (ow hw 93))) (mvT hZ (ow hw 93)) (mvT hZ (ow hw 92)) (by decide) (backOf (W := 0) (sap l Z a0 hw [] b296 (37 : Int32) z t_300 k_301 (2 : Int32) [(.int 0), (.int 0)] (0 : Int32) (T299.heap) n0 O S_String_COMPACT_STRINGS hz E_b296 F_b296_ASB_value F_b296_ASB_coder F_b296_ASB_count V_t_300 E_t_300 g_b296 g_t_300 ne_b296_t_300 (by decide) hokl (own_h8a hcl (own_lb0 ))) hZ (ow hw 94) (ow hw 7) (by decide) (by decide)) q360a q360c (g := (mkF m 134 #[.val (.ref a), .val (.ref b296), .val (.ref a), .val (.int 2), .val (.int 0), .val (.int x0_), .val (.int (x0_ &&& (255 : Int32))), .val (.int 0)] [(.int 37), (.ref b296)])) rfl (by rw [hml]; rfl) (Steps.refl _) (argsL := [(.int 37)]) (rest := []) (lenOf pd_15 rfl) rfl (by show 2 * 0 + _ ≤ _; exact Nat.le_of_eq rfl) (hb hby d1_134) (fun _ _ => ⟨rfl, rfl, (by decide : 2 + 1 ≤ _), (by decide : 6 + 18 ≤ _)⟩)
   dsimp only [Pt.U, Pt.locs, Pt.cells, Pt.slots] at X360 l360 y360 z360 st360 hQ360
   subst l360 y360 z360
   obtain ⟨t2_361, k2_362, N2_363, vs2_364, rfl, N360q, Kq360, P360_0, P360_1, P360_2, P360_3, P360_4, P360_5, P360_6, P360_7, P360_8, P360_9, P360_10⟩ := hQ360
   refine own_go (fun _ k => st360.trans k) ?_
   have N360 := Fr.app N299 N360q
   have V_a := V_a.keep Kq360 (ninS ne_a_b296 (ninS ne_a_t_300 nin0))
   have E_b296 := E_b296.keep Kq360
   clear F_b296_ASB_value
   clear F_b296_ASB_coder
   clear F_b296_ASB_count
   clear V_t_300
   have E_t_300 := E_t_300.keep Kq360
   have O := O.keep Kq360 (allS g_b296 (allS g_t_300 all0))
   have K365 := K302.trans Kq360 (allS (Or.inr sz_b296) (allS (Or.inr sz_t_300) all0))
   have E_b296 := P360_3
   have F_b296_ASB_value := P360_4
   have F_b296_ASB_coder := P360_5
   have F_b296_ASB_count := P360_6
   have V_t2_361 := P360_7
   have E_t2_361 := P360_8
   have sz_t2_361 : h0.size ≤ t2_361 := P360_0.elim (fun q => by rw [q]; exact sz_t_300) (fun q => Nat.le_trans K302.1 q)
   have ne_a_t2_361 : a ≠ t2_361 := P360_0.elim (fun q => by rw [q]; exact ne_a_t_300) (fun q => Nat.ne_of_lt (Nat.lt_of_lt_of_le lt_a359.lt q))
   show own_Fin p e below (T360.setTop (mkF m 137 #[.val (.ref a), .val (.ref b296), .val (.ref a), .val (.int 2), .val (.int 0), .val (.int x0_), .val (.int (x0_ &&& (255 : Int32))), .val (.int 0)] [(.ref b296)])) _
   obtain ⟨T366, X366, e366, st366⟩ := getS2 X360 hx hZ hown (host := "") (Or.inl (ow hw 109)) Via.refl rfl (S_Uris_HEX.ext O.2) (g := (mkF m 137 #[.val (.ref a), .val (.ref b296), .val (.ref a), .val (.int 2), .val (.int 0), .val (.int x0_), .val (.int (x0_ &&& (255 : Int32))), .val (.int 0)] [(.ref b296)])) rfl (hb hby d1_137)
   refine own_go (fun _ k => st366 _ k) ?_
   show own_Fin p e below (T366.setTop (mkF m 140 #[.val (.ref a), .val (.ref b296), .val (.ref a), .val (.int 2), .val (.int 0), .val (.int x0_), .val (.int (x0_ &&& (255 : Int32))), .val (.int 0)] [(.ref hxa), (.ref b296)])) _
   refine own_go (fun _ k => XS.iload X366.here hx rfl (hb hby d1_140) rfl (XS.iconst X366.here hx rfl (hb hby d1_142) (XS.ishr X366.here hx rfl (hb hby d1_143) rfl k))) ?_
   show own_Fin p e below (T366.setTop (mkF m 144 #[.val (.ref a), .val (.ref b296), .val (.ref a), .val (.int 2), .val (.int 0), .val (.int x0_), .val (.int (x0_ &&& (255 : Int32))), .val (.int 0)] [(.int ((x0_ &&& (255 : Int32)) >>> ((4 : Int32) &&& 31))), (.ref hxa), (.ref b296)])) _
   obtain ⟨cl367, A367, q367, S367, M367, H367, G367⟩ := id (V_hxa.ext O.2)
   have hin367 : ¬ (((x0_ &&& (255 : Int32)) >>> ((4 : Int32) &&& 31)) < 0 ∨ cl367.slots.size ≤ (((x0_ &&& (255 : Int32)) >>> ((4 : Int32) &&& 31))).toNatClampNeg) := inb_of S367 (own_in16 _)
   have hat367 : cl367.slots[(((x0_ &&& (255 : Int32)) >>> ((4 : Int32) &&& 31))).toNatClampNeg]? = some (.int (own_hv ((x0_ &&& (255 : Int32)) >>> ((4 : Int32) &&& 31)))) := Has.at H367 hin367 (own_hget _)
   refine own_go (fun _ k => X366.caload hx (j := ((x0_ &&& (255 : Int32)) >>> ((4 : Int32) &&& 31))) (v := (.int (own_hv ((x0_ &&& (255 : Int32)) >>> ((4 : Int32) &&& 31))))) (own_eqE e366 A367.1) (State.isArrayOf_alike hZ.alike A367.2.1) A367.2.2 hin367 hat367 (g := (mkF m 144 #[.val (.ref a), .val (.ref b296), .val (.ref a), .val (.int 2), .val (.int 0), .val (.int x0_), .val (.int (x0_ &&& (255 : Int32))), .val (.int 0)] [(.int ((x0_ &&& (255 : Int32)) >>> ((4 : Int32) &&& 31))), (.ref hxa), (.ref b296)])) rfl rfl (hb hby d1_144) _ k) ?_
   show own_Fin p e below (T366.setTop (mkF m 145 #[.val (.ref a), .val (.ref b296), .val (.ref a), .val (.int 2), .val (.int 0), .val (.int x0_), .val (.int (x0_ &&& (255 : Int32))), .val (.int 0)] [(.int (own_hv ((x0_ &&& (255 : Int32)) >>> ((4 : Int32) &&& 31)))), (.ref b296)])) _
   have lt_a368 := V_a
   obtain ⟨cq369, kq369, q369a, q369b, q369c⟩ := isOf hZ e366 E_b296
   obtain ⟨_, _, ⟨T369, L369, k369, n369⟩, -, X369, ⟨Lc369, hQ369, l369, y369, z369⟩, st369⟩ := X366.virtualBack hx (y := (⟨"java/lang/StringBuilder", "append", "(C)Ljava/lang/StringBuilder;"⟩ : MethodName)) (z := (⟨"java/lang/StringBuilder", "append", "(C)Ljava/lang/StringBuilder;"⟩ : MethodName)) hown (mvT hZ (ow hw 90)) (mvT hZ (ow hw 91)) (notFace_of_selects (args := #[]) (mvT hZ (ow hw 93))) (mvT hZ (ow hw 93)) (mvT hZ (ow hw 92)) (by decide) (backOf (W := 0) (sap l Z a0 hw [] b296 (own_hv ((x0_ &&& (255 : Int32)) >>> ((4 : Int32) &&& 31))) z t2_361 k2_362 N2_363 vs2_364 ((0 : Int32) + (1 : Int32)) (T360.heap) n0 O S_String_COMPACT_STRINGS hz E_b296 F_b296_ASB_value F_b296_ASB_coder F_b296_ASB_count V_t2_361 E_t2_361 g_b296 P360_1 P360_2 (own_hv255 _) P360_9 (own_h8b hcl (own_lb0 ))) hZ (ow hw 94) (ow hw 7) (by decide) (by decide)) q369a q369c (g := (mkF m 145 #[.val (.ref a), .val (.ref b296), .val (.ref a), .val (.int 2), .val (.int 0), .val (.int x0_), .val (.int (x0_ &&& (255 : Int32))), .val (.int 0)] [(.int (own_hv ((x0_ &&& (255 : Int32)) >>> ((4 : Int32) &&& 31)))), (.ref b296)])) rfl (by rw [hml]; rfl) (Steps.refl _) (argsL := [(.int (own_hv ((x0_ &&& (255 : Int32)) >>> ((4 : Int32) &&& 31))))]) (rest := []) (lenOf pd_15 rfl) rfl (by show 2 * 0 + _ ≤ _; exact Nat.le_of_eq rfl) (hb hby d1_145) (fun _ _ => ⟨rfl, e366, (by decide : 3 + 1 ≤ _), (by decide : 24 + 18 ≤ _)⟩)
   dsimp only [Pt.U, Pt.locs, Pt.cells, Pt.slots] at X369 l369 y369 z369 st369 hQ369
   subst l369 y369 z369
   obtain ⟨t2_370, k2_371, N2_372, vs2_373, rfl, N369q, Kq369, P369_0, P369_1, P369_2, P369_3, P369_4, P369_5, P369_6, P369_7, P369_8, P369_9, P369_10⟩ := hQ369
   refine own_go (fun _ k => st369.trans k) ?_
   have N369 := Fr.app N360 N369q
   have V_a := V_a.keep Kq369 (ninS ne_a_b296 (ninS ne_a_t2_361 nin0))
   have E_b296 := E_b296.keep Kq369
   clear F_b296_ASB_value
   clear F_b296_ASB_coder
   clear F_b296_ASB_count
   clear V_t2_361
   have E_t2_361 := E_t2_361.keep Kq369
   have O := O.keep Kq369 (allS g_b296 (allS P360_1 all0))
   have K374 := K365.trans Kq369 (allS (Or.inr sz_b296) (allS (Or.inr sz_t2_361) all0))
   have E_b296 := P369_3
   have F_b296_ASB_value := P369_4
   have F_b296_ASB_coder := P369_5
   have F_b296_ASB_count := P369_6
   have V_t2_370 := P369_7
   have E_t2_370 := P369_8
   have sz_t2_370 : h0.size ≤ t2_370 := P369_0.elim (fun q => by rw [q]; exact sz_t2_361) (fun q => Nat.le_trans K365.1 q)
   have ne_a_t2_370 : a ≠ t2_370 := P369_0.elim (fun q => by rw [q]; exact ne_a_t2_361) (fun q => Nat.ne_of_lt (Nat.lt_of_lt_of_le lt_a368.lt q))
   show own_Fin p e below (T369.setTop (mkF m 148 #[.val (.ref a), .val (.ref b296), .val (.ref a), .val (.int 2), .val (.int 0), .val (.int x0_), .val (.int (x0_ &&& (255 : Int32))), .val (.int 0)] [(.ref b296)])) _
   obtain ⟨T375, X375, e375, st375⟩ := getS2 X369 hx hZ hown (host := "") (Or.inl (ow hw 109)) Via.refl rfl (S_Uris_HEX.ext O.2) (g := (mkF m 148 #[.val (.ref a), .val (.ref b296), .val (.ref a), .val (.int 2), .val (.int 0), .val (.int x0_), .val (.int (x0_ &&& (255 : Int32))), .val (.int 0)] [(.ref b296)])) rfl (hb hby d1_148)
   refine own_go (fun _ k => st375 _ k) ?_
   show own_Fin p e below (T375.setTop (mkF m 151 #[.val (.ref a), .val (.ref b296), .val (.ref a), .val (.int 2), .val (.int 0), .val (.int x0_), .val (.int (x0_ &&& (255 : Int32))), .val (.int 0)] [(.ref hxa), (.ref b296)])) _
   refine own_go (fun _ k => XS.iload X375.here hx rfl (hb hby d1_151) rfl (XS.bipush X375.here hx rfl (hb hby d1_153) (XS.iand X375.here hx rfl (hb hby d1_155) rfl k))) ?_
   show own_Fin p e below (T375.setTop (mkF m 156 #[.val (.ref a), .val (.ref b296), .val (.ref a), .val (.int 2), .val (.int 0), .val (.int x0_), .val (.int (x0_ &&& (255 : Int32))), .val (.int 0)] [(.int ((x0_ &&& (255 : Int32)) &&& (15 : Int32))), (.ref hxa), (.ref b296)])) _
   obtain ⟨cl376, A376, q376, S376, M376, H376, G376⟩ := id (V_hxa.ext O.2)
   have hin376 : ¬ (((x0_ &&& (255 : Int32)) &&& (15 : Int32)) < 0 ∨ cl376.slots.size ≤ (((x0_ &&& (255 : Int32)) &&& (15 : Int32))).toNatClampNeg) := inb_of S376 (own_lo16 _)
   have hat376 : cl376.slots[(((x0_ &&& (255 : Int32)) &&& (15 : Int32))).toNatClampNeg]? = some (.int (own_hv ((x0_ &&& (255 : Int32)) &&& (15 : Int32)))) := Has.at H376 hin376 (own_hget _)
   refine own_go (fun _ k => X375.caload hx (j := ((x0_ &&& (255 : Int32)) &&& (15 : Int32))) (v := (.int (own_hv ((x0_ &&& (255 : Int32)) &&& (15 : Int32))))) (own_eqE e375 A376.1) (State.isArrayOf_alike hZ.alike A376.2.1) A376.2.2 hin376 hat376 (g := (mkF m 156 #[.val (.ref a), .val (.ref b296), .val (.ref a), .val (.int 2), .val (.int 0), .val (.int x0_), .val (.int (x0_ &&& (255 : Int32))), .val (.int 0)] [(.int ((x0_ &&& (255 : Int32)) &&& (15 : Int32))), (.ref hxa), (.ref b296)])) rfl rfl (hb hby d1_156) _ k) ?_
   show own_Fin p e below (T375.setTop (mkF m 157 #[.val (.ref a), .val (.ref b296), .val (.ref a), .val (.int 2), .val (.int 0), .val (.int x0_), .val (.int (x0_ &&& (255 : Int32))), .val (.int 0)] [(.int (own_hv ((x0_ &&& (255 : Int32)) &&& (15 : Int32)))), (.ref b296)])) _
   have lt_a377 := V_a
   obtain ⟨cq378, kq378, q378a, q378b, q378c⟩ := isOf hZ e375 E_b296
   obtain ⟨_, _, ⟨T378, L378, k378, n378⟩, -, X378, ⟨Lc378, hQ378, l378, y378, z378⟩, st378⟩ := X375.virtualBack hx (y := (⟨"java/lang/StringBuilder", "append", "(C)Ljava/lang/StringBuilder;"⟩ : MethodName)) (z := (⟨"java/lang/StringBuilder", "append", "(C)Ljava/lang/StringBuilder;"⟩ : MethodName)) hown (mvT hZ (ow hw 90)) (mvT hZ (ow hw 91)) (notFace_of_selects (args := #[]) (mvT hZ (ow hw 93))) (mvT hZ (ow hw 93)) (mvT hZ (ow hw 92)) (by decide) (backOf (W := 0) (sap l Z a0 hw [] b296 (own_hv ((x0_ &&& (255 : Int32)) &&& (15 : Int32))) z t2_370 k2_371 N2_372 vs2_373 (((0 : Int32) + (1 : Int32)) + (1 : Int32)) (T369.heap) n0 O S_String_COMPACT_STRINGS hz E_b296 F_b296_ASB_value F_b296_ASB_coder F_b296_ASB_count V_t2_370 E_t2_370 g_b296 P369_1 P369_2 (own_hv255 _) P369_9 (own_h8c hcl (own_lb0 ))) hZ (ow hw 94) (ow hw 7) (by decide) (by decide)) q378a q378c (g := (mkF m 157 #[.val (.ref a), .val (.ref b296), .val (.ref a), .val (.int 2), .val (.int 0), .val (.int x0_), .val (.int (x0_ &&& (255 : Int32))), .val (.int 0)] [(.int (own_hv ((x0_ &&& (255 : Int32)) &&& (15 : Int32)))), (.ref b296)])) rfl (by rw [hml]; rfl) (Steps.refl _) (argsL := [(.int (own_hv ((x0_ &&& (255 : Int32)) &&& (15 : Int32))))]) (rest := []) (lenOf pd_15 rfl) rfl (by show 2 * 0 + _ ≤ _; exact Nat.le_of_eq rfl) (hb hby d1_157) (fun _ _ => ⟨rfl, e375, (by decide : 4 + 1 ≤ _), (by decide : 42 + 18 ≤ _)⟩)
   dsimp only [Pt.U, Pt.locs, Pt.cells, Pt.slots] at X378 l378 y378 z378 st378 hQ378
   subst l378 y378 z378
   obtain ⟨t2_379, k2_380, N2_381, vs2_382, rfl, N378q, Kq378, P378_0, P378_1, P378_2, P378_3, P378_4, P378_5, P378_6, P378_7, P378_8, P378_9, P378_10⟩ := hQ378
   refine own_go (fun _ k => st378.trans k) ?_
   have N378 := Fr.app N369 N378q
   have V_a := V_a.keep Kq378 (ninS ne_a_b296 (ninS ne_a_t2_370 nin0))
   have E_b296 := E_b296.keep Kq378
   clear F_b296_ASB_value
   clear F_b296_ASB_coder
   clear F_b296_ASB_count
   clear V_t2_370
   have E_t2_370 := E_t2_370.keep Kq378
   have O := O.keep Kq378 (allS g_b296 (allS P369_1 all0))
   have K383 := K374.trans Kq378 (allS (Or.inr sz_b296) (allS (Or.inr sz_t2_370) all0))
   have E_b296 := P378_3
   have F_b296_ASB_value := P378_4
   have F_b296_ASB_coder := P378_5
   have F_b296_ASB_count := P378_6
   have V_t2_379 := P378_7
   have E_t2_379 := P378_8
   have sz_t2_379 : h0.size ≤ t2_379 := P378_0.elim (fun q => by rw [q]; exact sz_t2_370) (fun q => Nat.le_trans K374.1 q)
   have ne_a_t2_379 : a ≠ t2_379 := P378_0.elim (fun q => by rw [q]; exact ne_a_t2_370) (fun q => Nat.ne_of_lt (Nat.lt_of_lt_of_le lt_a377.lt q))
   show own_Fin p e below (T378.setTop (mkF m 160 #[.val (.ref a), .val (.ref b296), .val (.ref a), .val (.int 2), .val (.int 0), .val (.int x0_), .val (.int (x0_ &&& (255 : Int32))), .val (.int 0)] [(.ref b296)])) _
   refine own_go (fun _ k => XS.pop X378.here hx rfl (hb hby d1_160) rfl rfl (XS.iinc X378.here hx rfl (hb hby d1_161) rfl (l' := #[.val (.ref a), .val (.ref b296), .val (.ref a), .val (.int 2), .val (.int 1), .val (.int x0_), .val (.int (x0_ &&& (255 : Int32))), .val (.int 0)]) rfl (XS.goto X378.here hx rfl (pc0 := 164) (pc' := 18) rfl (hb hby d1_164) (by decide) (by decide) (XS.iload X378.here hx rfl (hb hby d1_18) rfl (XS.iloadN X378.here hx rfl (hb hby d1_20) rfl k))))) ?_
   show own_Fin p e below (T378.setTop (mkF m 21 #[.val (.ref a), .val (.ref b296), .val (.ref a), .val (.int 2), .val (.int 1), .val (.int x0_), .val (.int (x0_ &&& (255 : Int32))), .val (.int 0)] [(.int 2), (.int 1)])) _
   exact lp1 _ _ _ t2_379 k2_380 _ _ _ _ _ _ X378 rfl N378 O K383 V_a E_b296 F_b296_ASB_value F_b296_ASB_coder F_b296_ASB_count V_t2_379 E_t2_379 (One.val rfl) (One.val rfl) (One.val rfl) P378_1 sz_t2_379 ne_a_t2_379 P378_2 P378_9 (own_jn0F hsU htkl P360_10 P369_10 P378_10) (own_jc0F hsU hcl (own_lb0 ))
theorem ef_en3 (m : MethodId) (x0 : Addr) : entryFrame m #[(.ref x0)] 8 = mkF m 0 #[.val (.ref x0), .unset, .unset, .unset, .unset, .unset, .unset, .unset] [] := by first | (simp [entryFrame, mkF, argsToLocals, Value.category]; done) | rfl
def Qen3 (Z : State) (a : Addr) (z : Int32) (ka : ClassId) (x0_ : Int32) (x1_ : Int32) (x2_ : Int32) (hxa : Addr) (kh : ClassId) (h0 : Heap) (n0 : Nat) (v : Option Value) (h : Heap) (L : List Loc) : Prop := ∃ (s_ : Addr) (t2_ : Addr) (k2_ : ClassId), v = some (.ref s_) ∧ Fr n0 L ∧ Keep h0 h [] ∧ h0.size ≤ s_ ∧ h0.size ≤ t2_ ∧ Exa Z h s_ "java/lang/String" ∧ Fld Z h s_ "java/lang/String" "coder" "B" (.int 0) ∧ Fld Z h s_ "java/lang/String" "value" "[B" (.ref t2_) ∧ Arv Z h t2_ k2_ .byte (Int32.ofNat (own_enc x0_ ++ own_enc x1_ ++ own_enc x2_).length) (own_enc x0_ ++ own_enc x1_ ++ own_enc x2_) (.int 0)
set_option maxRecDepth 65536 in
set_option maxHeartbeats 40000000 in
theorem en3 (l : Launch) (Z : State) (a0 : Array Value) (hw : ∀ d ∈ tables_1, d.before a0 Z = true) (ws : List Jvm.Cond) (a : Addr) (z : Int32) (ka : ClassId) (x0_ : Int32) (x1_ : Int32) (x2_ : Int32) (hxa : Addr) (kh : ClassId) (h0 : Heap) (n0 : Nat) (O : Old Z n0 h0) (S_String_COMPACT_STRINGS : Sta Z Z.heap "java/lang/String" "COMPACT_STRINGS" "Z" (.int z)) (hz : ¬ (z = (0 : Int32))) (V_a : Arv Z h0 a ka .byte (3 : Int32) [(.int x0_), (.int x1_), (.int x2_)] (.int 0)) (S_Uris_HEX : Sta Z Z.heap "com/example/espalier/espalier/Uris" "HEX" "[C" (.ref hxa)) (V_hxa : Arv Z Z.heap hxa kh .char (16 : Int32) (own_hl.map Value.int) (.int 0)) :
    MetFree l (⟨"com/example/espalier/espalier/Uris", "encode", "([B)Ljava/lang/String;"⟩ : MethodName) (head1 (Jvm.Cond.code (⟨"com/example/espalier/espalier/Uris", "encode", "([B)Ljava/lang/String;"⟩ : MethodName) prog_29_method_2_code 8 (some (.object "java/lang/String")) :: ws) ({ frames := 6, cells := 13, slots := 182, locals := 91 } : Room)) (fun a' U' => a' = #[(.ref a)] ∧ Z.Warmed39 U'.vm ∧ U'.heap = h0) (fun _ _ _ _ _ => True) (fun _ U' o' W' => ∃ v' L', o' = .returned v' ∧ Qen3 Z a z ka x0_ x1_ x2_ hxa kh h0 n0 v' W'.heap L' ∧ FrameEnd U' o' W' L' ({ frames := 6, cells := 13, slots := 182, locals := 91 } : Room).cells ({ frames := 6, cells := 13, slots := 182, locals := 91 } : Room).slots) := by
  refine MetFree.of_bodySF (plainFor_of_name pn_6) hisR ?_
  intro p e s m args below meth c s₁ Bd hml0 hP hK
  obtain ⟨rfl, hZ, hh⟩ := hP
  have hx := Bd.exec
  have hby := Bd.bytes
  have hml : c.maxLocals = 8 := hml0
  have hown : s.vm.findClass "com/example/espalier/espalier/Uris" = some m.cls := findClass_of_methodNamed Bd.named
  have hnm := (name_of_methodNamed Bd.named Bd.method).1
  have X0 : Stand p l e ({ frames := 6, cells := 13, slots := 182, locals := 91 } : Room) s m #[(.ref a)] below meth c s₁ [] 0 0 := Stand.of_body Bd
  have e0 : s₁.heap = h0 := by rw [← hh, Bd.state]; rfl
  have N0 := Fr.nil n0
  have K0 := Keep.refl h0 []
  refine own_start (ef_en3 m a) (Q := fun o' t' => ∃ v' L', o' = .returned v' ∧ Qen3 Z a z ka x0_ x1_ x2_ hxa kh h0 n0 v' t'.heap L' ∧ FrameEnd s o' t' L' ({ frames := 6, cells := 13, slots := 182, locals := 91 } : Room).cells ({ frames := 6, cells := 13, slots := 182, locals := 91 } : Room).slots) ?_
  show own_Fin p e below (s₁.setTop (mkF m 0 #[.val (.ref a), .unset, .unset, .unset, .unset, .unset, .unset, .unset] [])) _
  have chk : ∀ (Tc : State) (Lc : List Loc) (cc sc : Nat) (Xc : Stand p l e ({ frames := 6, cells := 13, slots := 182, locals := 91 } : Room) s m #[(.ref a)] below meth c Tc Lc cc sc) (s0c s1c s2c s3c s4c s5c s7c : Slot) (bc : Int32), (∀ f : Int32, f = own_bi (own_unres bc) → own_Fin p e below (Tc.setTop (mkF m 113 #[s0c, s1c, s2c, s3c, s4c, s5c, .val (.int bc), s7c] [(.int f)])) (fun o' t' => ∃ v' L', o' = .returned v' ∧ Qen3 Z a z ka x0_ x1_ x2_ hxa kh h0 n0 v' t'.heap L' ∧ FrameEnd s o' t' L' ({ frames := 6, cells := 13, slots := 182, locals := 91 } : Room).cells ({ frames := 6, cells := 13, slots := 182, locals := 91 } : Room).slots)) → own_Fin p e below (Tc.setTop (mkF m 38 #[s0c, s1c, s2c, s3c, s4c, s5c, .val (.int bc), s7c] [])) (fun o' t' => ∃ v' L', o' = .returned v' ∧ Qen3 Z a z ka x0_ x1_ x2_ hxa kh h0 n0 v' t'.heap L' ∧ FrameEnd s o' t' L' ({ frames := 6, cells := 13, slots := 182, locals := 91 } : Room).cells ({ frames := 6, cells := 13, slots := 182, locals := 91 } : Room).slots) := by
   intro Tc Lc cc sc Xc s0c s1c s2c s3c s4c s5c s7c bc kf
   have jr80 : ¬ (¬ bc < (97 : Int32) ∧ ¬ (122 : Int32) < bc) → ¬ (¬ bc < (65 : Int32) ∧ ¬ (90 : Int32) < bc) → ¬ (¬ bc < (48 : Int32) ∧ ¬ (57 : Int32) < bc) → own_Fin p e below (Tc.setTop (mkF m 80 #[s0c, s1c, s2c, s3c, s4c, s5c, .val (.int bc), s7c] [])) (fun o' t' => ∃ v' L', o' = .returned v' ∧ Qen3 Z a z ka x0_ x1_ x2_ hxa kh h0 n0 v' t'.heap L' ∧ FrameEnd s o' t' L' ({ frames := 6, cells := 13, slots := 182, locals := 91 } : Room).cells ({ frames := 6, cells := 13, slots := 182, locals := 91 } : Room).slots) := by
    intro hs_r0 hs_r1 hs_r2
    show own_Fin p e below (Tc.setTop (mkF m 80 #[s0c, s1c, s2c, s3c, s4c, s5c, .val (.int bc), s7c] [])) _
    refine own_go (fun _ k => XS.iload Xc.here hx rfl (hb hby d1_80) rfl (XS.bipush Xc.here hx rfl (hb hby d1_82) k)) ?_
    show own_Fin p e below (Tc.setTop (mkF m 84 #[s0c, s1c, s2c, s3c, s4c, s5c, .val (.int bc), s7c] [(.int 45), (.int bc)])) _
    by_cases hc84_384 : bc = (45 : Int32)
    ·refine own_go (fun _ k => XS.icmpYes Xc.here hx rfl (pc0 := 84) (pc' := 108) rfl (hb hby d1_84) rfl (teq hc84_384).1 (by decide) (by decide) (XS.iconst Xc.here hx rfl (hb hby d1_108) (XS.goto Xc.here hx rfl (pc0 := 109) (pc' := 113) rfl (hb hby d1_109) (by decide) (by decide) k))) ?_
     show own_Fin p e below (Tc.setTop (mkF m 113 #[s0c, s1c, s2c, s3c, s4c, s5c, .val (.int bc), s7c] [(.int 1)])) _
     exact kf (1 : Int32) (by simp [own_bi, own_unres, hs_r0, hs_r1, hs_r2, hc84_384])
    ·refine own_go (fun _ k => XS.icmpNo Xc.here hx rfl (hb hby d1_84) rfl (feq hc84_384).1 (XS.iload Xc.here hx rfl (hb hby d1_87) rfl (XS.bipush Xc.here hx rfl (hb hby d1_89) k))) ?_
     show own_Fin p e below (Tc.setTop (mkF m 91 #[s0c, s1c, s2c, s3c, s4c, s5c, .val (.int bc), s7c] [(.int 46), (.int bc)])) _
     by_cases hc91_385 : bc = (46 : Int32)
     ·refine own_go (fun _ k => XS.icmpYes Xc.here hx rfl (pc0 := 91) (pc' := 108) rfl (hb hby d1_91) rfl (teq hc91_385).1 (by decide) (by decide) (XS.iconst Xc.here hx rfl (hb hby d1_108) (XS.goto Xc.here hx rfl (pc0 := 109) (pc' := 113) rfl (hb hby d1_109) (by decide) (by decide) k))) ?_
      show own_Fin p e below (Tc.setTop (mkF m 113 #[s0c, s1c, s2c, s3c, s4c, s5c, .val (.int bc), s7c] [(.int 1)])) _
      exact kf (1 : Int32) (by simp [own_bi, own_unres, hs_r0, hs_r1, hs_r2, hc84_384, hc91_385])
     ·refine own_go (fun _ k => XS.icmpNo Xc.here hx rfl (hb hby d1_91) rfl (feq hc91_385).1 (XS.iload Xc.here hx rfl (hb hby d1_94) rfl (XS.bipush Xc.here hx rfl (hb hby d1_96) k))) ?_
      show own_Fin p e below (Tc.setTop (mkF m 98 #[s0c, s1c, s2c, s3c, s4c, s5c, .val (.int bc), s7c] [(.int 95), (.int bc)])) _
      by_cases hc98_386 : bc = (95 : Int32)
      ·refine own_go (fun _ k => XS.icmpYes Xc.here hx rfl (pc0 := 98) (pc' := 108) rfl (hb hby d1_98) rfl (teq hc98_386).1 (by decide) (by decide) (XS.iconst Xc.here hx rfl (hb hby d1_108) (XS.goto Xc.here hx rfl (pc0 := 109) (pc' := 113) rfl (hb hby d1_109) (by decide) (by decide) k))) ?_
       show own_Fin p e below (Tc.setTop (mkF m 113 #[s0c, s1c, s2c, s3c, s4c, s5c, .val (.int bc), s7c] [(.int 1)])) _
       exact kf (1 : Int32) (by simp [own_bi, own_unres, hs_r0, hs_r1, hs_r2, hc84_384, hc91_385, hc98_386])
      ·refine own_go (fun _ k => XS.icmpNo Xc.here hx rfl (hb hby d1_98) rfl (feq hc98_386).1 (XS.iload Xc.here hx rfl (hb hby d1_101) rfl (XS.bipush Xc.here hx rfl (hb hby d1_103) k))) ?_
       show own_Fin p e below (Tc.setTop (mkF m 105 #[s0c, s1c, s2c, s3c, s4c, s5c, .val (.int bc), s7c] [(.int 126), (.int bc)])) _
       by_cases hc105_387 : bc = (126 : Int32)
       ·refine own_go (fun _ k => XS.icmpNo Xc.here hx rfl (hb hby d1_105) rfl (teq hc105_387).2 (XS.iconst Xc.here hx rfl (hb hby d1_108) (XS.goto Xc.here hx rfl (pc0 := 109) (pc' := 113) rfl (hb hby d1_109) (by decide) (by decide) k))) ?_
        show own_Fin p e below (Tc.setTop (mkF m 113 #[s0c, s1c, s2c, s3c, s4c, s5c, .val (.int bc), s7c] [(.int 1)])) _
        exact kf (1 : Int32) (by simp [own_bi, own_unres, hs_r0, hs_r1, hs_r2, hc84_384, hc91_385, hc98_386, hc105_387])
       ·refine own_go (fun _ k => XS.icmpYes Xc.here hx rfl (pc0 := 105) (pc' := 112) rfl (hb hby d1_105) rfl (feq hc105_387).2 (by decide) (by decide) (XS.iconst Xc.here hx rfl (hb hby d1_112) k)) ?_
        show own_Fin p e below (Tc.setTop (mkF m 113 #[s0c, s1c, s2c, s3c, s4c, s5c, .val (.int bc), s7c] [(.int 0)])) _
        exact kf (0 : Int32) (own_bi0 (fun h => by rcases h with h | h | h | h | h | h | h <;> contradiction)).symm
   have jr66 : ¬ (¬ bc < (97 : Int32) ∧ ¬ (122 : Int32) < bc) → ¬ (¬ bc < (65 : Int32) ∧ ¬ (90 : Int32) < bc) → own_Fin p e below (Tc.setTop (mkF m 66 #[s0c, s1c, s2c, s3c, s4c, s5c, .val (.int bc), s7c] [])) (fun o' t' => ∃ v' L', o' = .returned v' ∧ Qen3 Z a z ka x0_ x1_ x2_ hxa kh h0 n0 v' t'.heap L' ∧ FrameEnd s o' t' L' ({ frames := 6, cells := 13, slots := 182, locals := 91 } : Room).cells ({ frames := 6, cells := 13, slots := 182, locals := 91 } : Room).slots) := by
    intro hs_r0 hs_r1
    show own_Fin p e below (Tc.setTop (mkF m 66 #[s0c, s1c, s2c, s3c, s4c, s5c, .val (.int bc), s7c] [])) _
    refine own_go (fun _ k => XS.iload Xc.here hx rfl (hb hby d1_66) rfl (XS.bipush Xc.here hx rfl (hb hby d1_68) k)) ?_
    show own_Fin p e below (Tc.setTop (mkF m 70 #[s0c, s1c, s2c, s3c, s4c, s5c, .val (.int bc), s7c] [(.int 48), (.int bc)])) _
    by_cases hc70_388 : bc < (48 : Int32)
    ·refine own_go (fun _ k => XS.icmpYes Xc.here hx rfl (pc0 := 70) (pc' := 80) rfl (hb hby d1_70) rfl (tlt hc70_388).1 (by decide) (by decide) k) ?_
     show own_Fin p e below (Tc.setTop (mkF m 80 #[s0c, s1c, s2c, s3c, s4c, s5c, .val (.int bc), s7c] [])) _
     exact jr80 hs_r0 hs_r1 (fun h => absurd hc70_388 h.1)
    ·refine own_go (fun _ k => XS.icmpNo Xc.here hx rfl (hb hby d1_70) rfl (flt hc70_388).1 (XS.iload Xc.here hx rfl (hb hby d1_73) rfl (XS.bipush Xc.here hx rfl (hb hby d1_75) k))) ?_
     show own_Fin p e below (Tc.setTop (mkF m 77 #[s0c, s1c, s2c, s3c, s4c, s5c, .val (.int bc), s7c] [(.int 57), (.int bc)])) _
     by_cases hc77_389 : (57 : Int32) < bc
     ·refine own_go (fun _ k => XS.icmpNo Xc.here hx rfl (hb hby d1_77) rfl (tlt hc77_389).2.2.2 k) ?_
      show own_Fin p e below (Tc.setTop (mkF m 80 #[s0c, s1c, s2c, s3c, s4c, s5c, .val (.int bc), s7c] [])) _
      exact jr80 hs_r0 hs_r1 (fun h => absurd hc77_389 h.2)
     ·refine own_go (fun _ k => XS.icmpYes Xc.here hx rfl (pc0 := 77) (pc' := 108) rfl (hb hby d1_77) rfl (flt hc77_389).2.2.2 (by decide) (by decide) (XS.iconst Xc.here hx rfl (hb hby d1_108) (XS.goto Xc.here hx rfl (pc0 := 109) (pc' := 113) rfl (hb hby d1_109) (by decide) (by decide) k))) ?_
      show own_Fin p e below (Tc.setTop (mkF m 113 #[s0c, s1c, s2c, s3c, s4c, s5c, .val (.int bc), s7c] [(.int 1)])) _
      exact kf (1 : Int32) (by simp [own_bi, own_unres, hs_r0, hs_r1, hc70_388, hc77_389])
   have jr52 : ¬ (¬ bc < (97 : Int32) ∧ ¬ (122 : Int32) < bc) → own_Fin p e below (Tc.setTop (mkF m 52 #[s0c, s1c, s2c, s3c, s4c, s5c, .val (.int bc), s7c] [])) (fun o' t' => ∃ v' L', o' = .returned v' ∧ Qen3 Z a z ka x0_ x1_ x2_ hxa kh h0 n0 v' t'.heap L' ∧ FrameEnd s o' t' L' ({ frames := 6, cells := 13, slots := 182, locals := 91 } : Room).cells ({ frames := 6, cells := 13, slots := 182, locals := 91 } : Room).slots) := by
    intro hs_r0
    show own_Fin p e below (Tc.setTop (mkF m 52 #[s0c, s1c, s2c, s3c, s4c, s5c, .val (.int bc), s7c] [])) _
    refine own_go (fun _ k => XS.iload Xc.here hx rfl (hb hby d1_52) rfl (XS.bipush Xc.here hx rfl (hb hby d1_54) k)) ?_
    show own_Fin p e below (Tc.setTop (mkF m 56 #[s0c, s1c, s2c, s3c, s4c, s5c, .val (.int bc), s7c] [(.int 65), (.int bc)])) _
    by_cases hc56_390 : bc < (65 : Int32)
    ·refine own_go (fun _ k => XS.icmpYes Xc.here hx rfl (pc0 := 56) (pc' := 66) rfl (hb hby d1_56) rfl (tlt hc56_390).1 (by decide) (by decide) k) ?_
     show own_Fin p e below (Tc.setTop (mkF m 66 #[s0c, s1c, s2c, s3c, s4c, s5c, .val (.int bc), s7c] [])) _
     exact jr66 hs_r0 (fun h => absurd hc56_390 h.1)
    ·refine own_go (fun _ k => XS.icmpNo Xc.here hx rfl (hb hby d1_56) rfl (flt hc56_390).1 (XS.iload Xc.here hx rfl (hb hby d1_59) rfl (XS.bipush Xc.here hx rfl (hb hby d1_61) k))) ?_
     show own_Fin p e below (Tc.setTop (mkF m 63 #[s0c, s1c, s2c, s3c, s4c, s5c, .val (.int bc), s7c] [(.int 90), (.int bc)])) _
     by_cases hc63_391 : (90 : Int32) < bc
     ·refine own_go (fun _ k => XS.icmpNo Xc.here hx rfl (hb hby d1_63) rfl (tlt hc63_391).2.2.2 k) ?_
      show own_Fin p e below (Tc.setTop (mkF m 66 #[s0c, s1c, s2c, s3c, s4c, s5c, .val (.int bc), s7c] [])) _
      exact jr66 hs_r0 (fun h => absurd hc63_391 h.2)
     ·refine own_go (fun _ k => XS.icmpYes Xc.here hx rfl (pc0 := 63) (pc' := 108) rfl (hb hby d1_63) rfl (flt hc63_391).2.2.2 (by decide) (by decide) (XS.iconst Xc.here hx rfl (hb hby d1_108) (XS.goto Xc.here hx rfl (pc0 := 109) (pc' := 113) rfl (hb hby d1_109) (by decide) (by decide) k))) ?_
      show own_Fin p e below (Tc.setTop (mkF m 113 #[s0c, s1c, s2c, s3c, s4c, s5c, .val (.int bc), s7c] [(.int 1)])) _
      exact kf (1 : Int32) (by simp [own_bi, own_unres, hs_r0, hc56_390, hc63_391])
   show own_Fin p e below (Tc.setTop (mkF m 38 #[s0c, s1c, s2c, s3c, s4c, s5c, .val (.int bc), s7c] [])) _
   refine own_go (fun _ k => XS.iload Xc.here hx rfl (hb hby d1_38) rfl (XS.bipush Xc.here hx rfl (hb hby d1_40) k)) ?_
   show own_Fin p e below (Tc.setTop (mkF m 42 #[s0c, s1c, s2c, s3c, s4c, s5c, .val (.int bc), s7c] [(.int 97), (.int bc)])) _
   by_cases hc42_392 : bc < (97 : Int32)
   ·refine own_go (fun _ k => XS.icmpYes Xc.here hx rfl (pc0 := 42) (pc' := 52) rfl (hb hby d1_42) rfl (tlt hc42_392).1 (by decide) (by decide) k) ?_
    show own_Fin p e below (Tc.setTop (mkF m 52 #[s0c, s1c, s2c, s3c, s4c, s5c, .val (.int bc), s7c] [])) _
    exact jr52 (fun h => absurd hc42_392 h.1)
   ·refine own_go (fun _ k => XS.icmpNo Xc.here hx rfl (hb hby d1_42) rfl (flt hc42_392).1 (XS.iload Xc.here hx rfl (hb hby d1_45) rfl (XS.bipush Xc.here hx rfl (hb hby d1_47) k))) ?_
    show own_Fin p e below (Tc.setTop (mkF m 49 #[s0c, s1c, s2c, s3c, s4c, s5c, .val (.int bc), s7c] [(.int 122), (.int bc)])) _
    by_cases hc49_393 : (122 : Int32) < bc
    ·refine own_go (fun _ k => XS.icmpNo Xc.here hx rfl (hb hby d1_49) rfl (tlt hc49_393).2.2.2 k) ?_
     show own_Fin p e below (Tc.setTop (mkF m 52 #[s0c, s1c, s2c, s3c, s4c, s5c, .val (.int bc), s7c] [])) _
     exact jr52 (fun h => absurd hc49_393 h.2)
    ·refine own_go (fun _ k => XS.icmpYes Xc.here hx rfl (pc0 := 49) (pc' := 108) rfl (hb hby d1_49) rfl (flt hc49_393).2.2.2 (by decide) (by decide) (XS.iconst Xc.here hx rfl (hb hby d1_108) (XS.goto Xc.here hx rfl (pc0 := 109) (pc' := 113) rfl (hb hby d1_109) (by decide) (by decide) k))) ?_
     show own_Fin p e below (Tc.setTop (mkF m 113 #[s0c, s1c, s2c, s3c, s4c, s5c, .val (.int bc), s7c] [(.int 1)])) _
     exact kf (1 : Int32) (by simp [own_bi, own_unres, hc42_392, hc49_393])
  show own_Fin p e below (s₁.setTop (mkF m 0 #[.val (.ref a), .unset, .unset, .unset, .unset, .unset, .unset, .unset] [])) _
  obtain ⟨T394, h394, X394, e394, E394, A394, D394, -, st394⟩ := newO X0 hx hZ hown (ow hw 5) (ow hw 6) (ow hw 7) e0 (g := (mkF m 0 #[.val (.ref a), .unset, .unset, .unset, .unset, .unset, .unset, .unset] [])) rfl (hb hby d1_0) (by decide) (by decide)
  obtain ⟨b394, g394⟩ : ∃ z, z = h0.size := ⟨_, rfl⟩
  rw [← g394] at A394 D394 st394
  refine own_go (fun _ k => st394 _ k) ?_
  have ne_a_b394 : a ≠ b394 := Nat.ne_of_lt (Nat.lt_of_lt_of_le V_a.lt (Nat.le_of_eq g394.symm))
  have g_b394 : n0 ≤ b394 := Nat.le_trans (own_osz O) (Nat.le_of_eq g394.symm)
  have sz_b394 : h0.size ≤ b394 := Nat.le_trans K0.1 (Nat.le_of_eq g394.symm)
  have V_a := V_a.ext E394
  have O := O.ext E394
  have K395 := K0.ext E394
  have E_b394 := A394
  have F_b394_ASB_value : Fld Z h394 b394 "java/lang/AbstractStringBuilder" "value" "[B" .null := D394 (Or.inl (ow hw 23)) (ty := (.array .byte)) (by decide)
  have F_b394_ASB_coder : Fld Z h394 b394 "java/lang/AbstractStringBuilder" "coder" "B" (.int 0) := D394 (Or.inl (ow hw 25)) (ty := .byte) (by decide)
  have F_b394_ASB_count : Fld Z h394 b394 "java/lang/AbstractStringBuilder" "count" "I" (.int 0) := D394 (Or.inl (ow hw 56)) (ty := .int) (by decide)
  show own_Fin p e below (T394.setTop (mkF m 3 #[.val (.ref a), .unset, .unset, .unset, .unset, .unset, .unset, .unset] [(.ref b394)])) _
  refine own_go (fun _ k => XS.dup X394.here hx rfl (hb hby d1_3) rfl rfl (XS.aloadN X394.here hx rfl (hb hby d1_4) rfl rfl k)) ?_
  show own_Fin p e below (T394.setTop (mkF m 5 #[.val (.ref a), .unset, .unset, .unset, .unset, .unset, .unset, .unset] [(.ref a), (.ref b394), (.ref b394)])) _
  obtain ⟨cl396, A396, -, S396, M396, -, -⟩ := id V_a
  refine own_go (fun _ k => X394.arraylength hx (own_eqE e394 A396.1) (State.isArrayOf_alike hZ.alike A396.2.1) (g := (mkF m 5 #[.val (.ref a), .unset, .unset, .unset, .unset, .unset, .unset, .unset] [(.ref a), (.ref b394), (.ref b394)])) rfl rfl (hb hby d1_5) _ (by rw [len_of S396 M396]; exact k)) ?_
  show own_Fin p e below (T394.setTop (mkF m 6 #[.val (.ref a), .unset, .unset, .unset, .unset, .unset, .unset, .unset] [(.int 3), (.ref b394), (.ref b394)])) _
  obtain ⟨_, _, ⟨T397, L397, k397, n397⟩, -, X397, ⟨Lc397, hQ397, l397, y397, z397⟩, st397⟩ := X394.specialBack hx (y := (⟨"java/lang/StringBuilder", "<init>", "(I)V"⟩ : MethodName)) rfl hown (mvT hZ (ow hw 8)) (mvT hZ (ow hw 9)) (mvT hZ (ow hw 10)) (by decide) (backOf (W := 1) (si3 l Z a0 hw [] b394 z h394 n0 O S_String_COMPACT_STRINGS hz E_b394 F_b394_ASB_value F_b394_ASB_coder F_b394_ASB_count g_b394) hZ (ow hw 10) (ow hw 7) (by decide) (by decide)) (g := (mkF m 6 #[.val (.ref a), .unset, .unset, .unset, .unset, .unset, .unset, .unset] [(.int 3), (.ref b394), (.ref b394)])) rfl (by rw [hml]; rfl) (Steps.refl _) (a := b394) (argsL := [(.int 3)]) (rest := [(.ref b394)]) (lenOf pd_0 rfl) rfl (by show 2 * 0 + _ ≤ _; exact Nat.le_of_eq rfl) (hb hby d1_6) (fun _ _ => ⟨rfl, e394, (by decide : 1 + 1 ≤ _), (by decide : 4 + 3 ≤ _)⟩)
  dsimp only [Pt.U, Pt.locs, Pt.cells, Pt.slots] at X397 l397 y397 z397 st397 hQ397
  subst l397 y397 z397
  obtain ⟨t_398, k_399, rfl, N397q, Kq397, P397_0, P397_1, P397_2, P397_3, P397_4, P397_5, P397_6⟩ := hQ397
  refine own_go (fun _ k => st397.trans k) ?_
  have N397 := Fr.app N0 N397q
  have ne_a_t_398 : a ≠ t_398 := Nat.ne_of_lt (Nat.lt_of_lt_of_le V_a.lt P397_0)
  have ne_b394_t_398 : b394 ≠ t_398 := Nat.ne_of_lt (Nat.lt_of_lt_of_le E_b394.lt P397_0)
  have g_t_398 : n0 ≤ t_398 := Nat.le_trans (own_osz O) P397_0
  have sz_t_398 : h0.size ≤ t_398 := Nat.le_trans K395.1 P397_0
  have V_a := V_a.keep Kq397 (ninS ne_a_b394 nin0)
  have E_b394 := E_b394.keep Kq397
  clear F_b394_ASB_value
  clear F_b394_ASB_coder
  clear F_b394_ASB_count
  have O := O.keep Kq397 (allS g_b394 all0)
  have K400 := K395.trans Kq397 (allS (Or.inr sz_b394) all0)
  have E_b394 := P397_1
  have F_b394_ASB_value := P397_2
  have F_b394_ASB_coder := P397_3
  have F_b394_ASB_count := P397_4
  have V_t_398 := P397_5
  have E_t_398 := P397_6
  show own_Fin p e below (T397.setTop (mkF m 9 #[.val (.ref a), .unset, .unset, .unset, .unset, .unset, .unset, .unset] [(.ref b394)])) _
  refine own_go (fun _ k => XS.astoreN X397.here hx rfl (hb hby d1_9) rfl rfl (l' := #[.val (.ref a), .val (.ref b394), .unset, .unset, .unset, .unset, .unset, .unset]) rfl (XS.aloadN X397.here hx rfl (hb hby d1_10) rfl rfl (XS.astoreN X397.here hx rfl (hb hby d1_11) rfl rfl (l' := #[.val (.ref a), .val (.ref b394), .val (.ref a), .unset, .unset, .unset, .unset, .unset]) rfl (XS.aloadN X397.here hx rfl (hb hby d1_12) rfl rfl k)))) ?_
  show own_Fin p e below (T397.setTop (mkF m 13 #[.val (.ref a), .val (.ref b394), .val (.ref a), .unset, .unset, .unset, .unset, .unset] [(.ref a)])) _
  obtain ⟨cl401, A401, -, S401, M401, -, -⟩ := id V_a
  refine own_go (fun _ k => X397.arraylength hx (own_eqE rfl A401.1) (State.isArrayOf_alike hZ.alike A401.2.1) (g := (mkF m 13 #[.val (.ref a), .val (.ref b394), .val (.ref a), .unset, .unset, .unset, .unset, .unset] [(.ref a)])) rfl rfl (hb hby d1_13) _ (by rw [len_of S401 M401]; exact k)) ?_
  show own_Fin p e below (T397.setTop (mkF m 14 #[.val (.ref a), .val (.ref b394), .val (.ref a), .unset, .unset, .unset, .unset, .unset] [(.int 3)])) _
  refine own_go (fun _ k => XS.istoreN X397.here hx rfl (hb hby d1_14) rfl (l' := #[.val (.ref a), .val (.ref b394), .val (.ref a), .val (.int 3), .unset, .unset, .unset, .unset]) rfl (XS.iconst X397.here hx rfl (hb hby d1_15) (XS.istore X397.here hx rfl (hb hby d1_16) rfl (l' := #[.val (.ref a), .val (.ref b394), .val (.ref a), .val (.int 3), .val (.int 0), .unset, .unset, .unset]) rfl (XS.iload X397.here hx rfl (hb hby d1_18) rfl (XS.iloadN X397.here hx rfl (hb hby d1_20) rfl k))))) ?_
  show own_Fin p e below (T397.setTop (mkF m 21 #[.val (.ref a), .val (.ref b394), .val (.ref a), .val (.int 3), .val (.int 0), .unset, .unset, .unset] [(.int 3), (.int 0)])) _
  skip
  have lp3 : ∀ (T402 : State) (L402 : List Loc) (h402 : Heap) (tl : Addr) (kl : ClassId) (Nl : Int32) (vl : List Value) (cl : Int32) (s5l : Slot) (s6l : Slot) (s7l : Slot), Stand p l e ({ frames := 6, cells := 13, slots := 182, locals := 91 } : Room) s m #[(.ref a)] below meth c T402 L402 11 169 → T402.heap = h402 → Fr n0 L402 → Old Z n0 h402 → Keep h0 h402 [] → Arv Z h402 a ka .byte (3 : Int32) [(.int x0_), (.int x1_), (.int x2_)] (.int 0) → Exa Z h402 b394 "java/lang/StringBuilder" → Fld Z h402 b394 "java/lang/AbstractStringBuilder" "value" "[B" (.ref tl) → Fld Z h402 b394 "java/lang/AbstractStringBuilder" "coder" "B" (.int 0) → Fld Z h402 b394 "java/lang/AbstractStringBuilder" "count" "I" (.int cl) → Arv Z h402 tl kl .byte Nl vl (.int 0) → Exa Z h402 tl "[B" → One s5l → One s6l → One s7l → n0 ≤ tl → h0.size ≤ tl → a ≠ tl → b394 ≠ tl → own_ok Nl vl cl → vl.take cl.toNatClampNeg = (own_enc x0_ ++ own_enc x1_ ++ own_enc x2_) → cl = Int32.ofNat (own_enc x0_ ++ own_enc x1_ ++ own_enc x2_).length → own_Fin p e below (T402.setTop (mkF m 21 #[.val (.ref a), .val (.ref b394), .val (.ref a), .val (.int 3), .val (.int 3), s5l, s6l, s7l] [(.int 3), (.int 3)])) (fun o' t' => ∃ v' L', o' = .returned v' ∧ Qen3 Z a z ka x0_ x1_ x2_ hxa kh h0 n0 v' t'.heap L' ∧ FrameEnd s o' t' L' ({ frames := 6, cells := 13, slots := 182, locals := 91 } : Room).cells ({ frames := 6, cells := 13, slots := 182, locals := 91 } : Room).slots) := by
   intro T402 L402 h402 tl kl Nl vl cl s5l s6l s7l X402 e402 N402 O K402 V_a E_b394 F_b394_ASB_value F_b394_ASB_coder F_b394_ASB_count V_tl E_tl o5l o6l o7l g_tl sz_tl ne_a_tl ne_b_tl hokl htkl hcl
   show own_Fin p e below (T402.setTop (mkF m 21 #[.val (.ref a), .val (.ref b394), .val (.ref a), .val (.int 3), .val (.int 3), s5l, s6l, s7l] [(.int 3), (.int 3)])) _
   refine own_go (fun _ k => XS.icmpYes X402.here hx rfl (pc0 := 21) (pc' := 167) rfl (hb hby d1_21) rfl (flt (by decide : ¬ ((3 : Int32) < (3 : Int32)))).2.1 (by decide) (by decide) (XS.aloadN X402.here hx rfl (hb hby d1_167) rfl rfl k)) ?_
   show own_Fin p e below (T402.setTop (mkF m 168 #[.val (.ref a), .val (.ref b394), .val (.ref a), .val (.int 3), .val (.int 3), s5l, s6l, s7l] [(.ref b394)])) _
   by_cases hse : cl = Nl
   ·show own_Fin p e below (T402.setTop (mkF m 168 #[.val (.ref a), .val (.ref b394), .val (.ref a), .val (.int 3), .val (.int 3), s5l, s6l, s7l] [(.ref b394)])) _
    obtain ⟨cq403, kq403, q403a, q403b, q403c⟩ := isOf hZ e402 E_b394
    obtain ⟨_, _, ⟨T403, L403, k403, n403⟩, -, X403, ⟨Lc403, hQ403, l403, y403, z403⟩, st403⟩ := X402.virtualBack hx (y := (⟨"java/lang/StringBuilder", "toString", "()Ljava/lang/String;"⟩ : MethodName)) (z := (⟨"java/lang/StringBuilder", "toString", "()Ljava/lang/String;"⟩ : MethodName)) hown (mvT hZ (ow hw 26)) (mvT hZ (ow hw 27)) (notFace_of_selects (args := #[]) (mvT hZ (ow hw 29))) (mvT hZ (ow hw 29)) (mvT hZ (ow hw 28)) (by decide) (backOf (W := 0) (tsE l Z a0 hw [] b394 z tl kl Nl vl cl h402 n0 O S_String_COMPACT_STRINGS hz E_b394 F_b394_ASB_value F_b394_ASB_coder F_b394_ASB_count V_tl E_tl (own_nn hokl.1) (own_t1 hokl) (own_t2 hokl) (own_t3 hcl (own_lb3 _ _ _)) hse (own_t4 hokl hse)) hZ (ow hw 30) (ow hw 7) (by decide) (by decide)) q403a q403c (g := (mkF m 168 #[.val (.ref a), .val (.ref b394), .val (.ref a), .val (.int 3), .val (.int 3), s5l, s6l, s7l] [(.ref b394)])) rfl (by rw [hml]; rfl) (Steps.refl _) (argsL := []) (rest := []) (lenOf pd_14 rfl) rfl (by show 2 * 0 + _ ≤ _; exact Nat.le_of_eq rfl) (hb hby d1_168) (fun _ _ => ⟨rfl, e402, (by decide : 11 + 2 ≤ _), (by decide : 169 + 13 ≤ _)⟩)
    dsimp only [Pt.U, Pt.locs, Pt.cells, Pt.slots] at X403 l403 y403 z403 st403 hQ403
    subst l403 y403 z403
    obtain ⟨s_404, t2_405, k2_406, rfl, N403q, Kq403, P403_0, P403_1, P403_2, P403_3, P403_4, P403_5, P403_6⟩ := hQ403
    refine own_go (fun _ k => st403.trans k) ?_
    have N403 := Fr.app N402 N403q
    have ne_a_s_404 : a ≠ s_404 := Nat.ne_of_lt (Nat.lt_of_lt_of_le V_a.lt P403_0)
    have ne_b394_s_404 : b394 ≠ s_404 := Nat.ne_of_lt (Nat.lt_of_lt_of_le E_b394.lt P403_0)
    have ne_tl_s_404 : tl ≠ s_404 := Nat.ne_of_lt (Nat.lt_of_lt_of_le V_tl.lt P403_0)
    have g_s_404 : n0 ≤ s_404 := Nat.le_trans (own_osz O) P403_0
    have sz_s_404 : h0.size ≤ s_404 := Nat.le_trans K402.1 P403_0
    have ne_a_t2_405 : a ≠ t2_405 := Nat.ne_of_lt (Nat.lt_of_lt_of_le V_a.lt P403_2)
    have ne_b394_t2_405 : b394 ≠ t2_405 := Nat.ne_of_lt (Nat.lt_of_lt_of_le E_b394.lt P403_2)
    have ne_tl_t2_405 : tl ≠ t2_405 := Nat.ne_of_lt (Nat.lt_of_lt_of_le V_tl.lt P403_2)
    have g_t2_405 : n0 ≤ t2_405 := Nat.le_trans (own_osz O) P403_2
    have sz_t2_405 : h0.size ≤ t2_405 := Nat.le_trans K402.1 P403_2
    have V_a := V_a.keep Kq403 nin0
    have E_b394 := E_b394.keep Kq403
    have F_b394_ASB_value := F_b394_ASB_value.keep Kq403 nin0
    have F_b394_ASB_coder := F_b394_ASB_coder.keep Kq403 nin0
    have F_b394_ASB_count := F_b394_ASB_count.keep Kq403 nin0
    have V_tl := V_tl.keep Kq403 nin0
    have E_tl := E_tl.keep Kq403
    have O := O.keep Kq403 all0
    have K407 := K402.trans Kq403 all0
    have E_s_404 := P403_3
    have F_s_404_String_coder := P403_4
    have F_s_404_String_value := P403_5
    have V_t2_405 := P403_6
    show own_Fin p e below (T403.setTop (mkF m 171 #[.val (.ref a), .val (.ref b394), .val (.ref a), .val (.int 3), .val (.int 3), s5l, s6l, s7l] [(.ref s_404)])) _
    obtain ⟨fs, hr, hrun, hended, hW, hsame⟩ := X403.leave (v := some (.ref s_404)) (fun h => by rw [Bd.returns] at h; cases h)
    refine ⟨_, _, ?_, hrun, hended, _, _, rfl, ?_, ⟨_, rfl⟩, hW, hsame.mono (by decide) (by decide)⟩
    ·exact X403.areturnOut hx rfl Bd.returns rfl (hb hby d1_171) hr
    ·show Qen3 Z a z ka x0_ x1_ x2_ hxa kh h0 n0 _ T403.heap _
     exact ⟨s_404, t2_405, k2_406, rfl, N403, K407, sz_s_404, sz_t2_405, E_s_404, F_s_404_String_coder, F_s_404_String_value, (by rw [htkl, hcl] at V_t2_405; exact V_t2_405)⟩
   ·show own_Fin p e below (T402.setTop (mkF m 168 #[.val (.ref a), .val (.ref b394), .val (.ref a), .val (.int 3), .val (.int 3), s5l, s6l, s7l] [(.ref b394)])) _
    obtain ⟨cq409, kq409, q409a, q409b, q409c⟩ := isOf hZ e402 E_b394
    obtain ⟨_, _, ⟨T409, L409, k409, n409⟩, -, X409, ⟨Lc409, hQ409, l409, y409, z409⟩, st409⟩ := X402.virtualBack hx (y := (⟨"java/lang/StringBuilder", "toString", "()Ljava/lang/String;"⟩ : MethodName)) (z := (⟨"java/lang/StringBuilder", "toString", "()Ljava/lang/String;"⟩ : MethodName)) hown (mvT hZ (ow hw 26)) (mvT hZ (ow hw 27)) (notFace_of_selects (args := #[]) (mvT hZ (ow hw 29))) (mvT hZ (ow hw 29)) (mvT hZ (ow hw 28)) (by decide) (backOf (W := 0) (tsL l Z a0 hw [] b394 z tl kl Nl vl cl h402 n0 O S_String_COMPACT_STRINGS hz E_b394 F_b394_ASB_value F_b394_ASB_coder F_b394_ASB_count V_tl E_tl (own_nn hokl.1) (own_t1 hokl) (own_t2 hokl) (own_t3 hcl (own_lb3 _ _ _)) (own_inn hokl hse).2 hse) hZ (ow hw 30) (ow hw 7) (by decide) (by decide)) q409a q409c (g := (mkF m 168 #[.val (.ref a), .val (.ref b394), .val (.ref a), .val (.int 3), .val (.int 3), s5l, s6l, s7l] [(.ref b394)])) rfl (by rw [hml]; rfl) (Steps.refl _) (argsL := []) (rest := []) (lenOf pd_14 rfl) rfl (by show 2 * 0 + _ ≤ _; exact Nat.le_of_eq rfl) (hb hby d1_168) (fun _ _ => ⟨rfl, e402, (by decide : 11 + 2 ≤ _), (by decide : 169 + 13 ≤ _)⟩)
    dsimp only [Pt.U, Pt.locs, Pt.cells, Pt.slots] at X409 l409 y409 z409 st409 hQ409
    subst l409 y409 z409
    obtain ⟨s_410, t2_411, k2_412, rfl, N409q, Kq409, P409_0, P409_1, P409_2, P409_3, P409_4, P409_5, P409_6⟩ := hQ409
    refine own_go (fun _ k => st409.trans k) ?_
    have N409 := Fr.app N402 N409q
    have ne_a_s_410 : a ≠ s_410 := Nat.ne_of_lt (Nat.lt_of_lt_of_le V_a.lt P409_0)
    have ne_b394_s_410 : b394 ≠ s_410 := Nat.ne_of_lt (Nat.lt_of_lt_of_le E_b394.lt P409_0)
    have ne_tl_s_410 : tl ≠ s_410 := Nat.ne_of_lt (Nat.lt_of_lt_of_le V_tl.lt P409_0)
    have g_s_410 : n0 ≤ s_410 := Nat.le_trans (own_osz O) P409_0
    have sz_s_410 : h0.size ≤ s_410 := Nat.le_trans K402.1 P409_0
    have ne_a_t2_411 : a ≠ t2_411 := Nat.ne_of_lt (Nat.lt_of_lt_of_le V_a.lt P409_2)
    have ne_b394_t2_411 : b394 ≠ t2_411 := Nat.ne_of_lt (Nat.lt_of_lt_of_le E_b394.lt P409_2)
    have ne_tl_t2_411 : tl ≠ t2_411 := Nat.ne_of_lt (Nat.lt_of_lt_of_le V_tl.lt P409_2)
    have g_t2_411 : n0 ≤ t2_411 := Nat.le_trans (own_osz O) P409_2
    have sz_t2_411 : h0.size ≤ t2_411 := Nat.le_trans K402.1 P409_2
    have V_a := V_a.keep Kq409 nin0
    have E_b394 := E_b394.keep Kq409
    have F_b394_ASB_value := F_b394_ASB_value.keep Kq409 nin0
    have F_b394_ASB_coder := F_b394_ASB_coder.keep Kq409 nin0
    have F_b394_ASB_count := F_b394_ASB_count.keep Kq409 nin0
    have V_tl := V_tl.keep Kq409 nin0
    have E_tl := E_tl.keep Kq409
    have O := O.keep Kq409 all0
    have K413 := K402.trans Kq409 all0
    have E_s_410 := P409_3
    have F_s_410_String_coder := P409_4
    have F_s_410_String_value := P409_5
    have V_t2_411 := P409_6
    show own_Fin p e below (T409.setTop (mkF m 171 #[.val (.ref a), .val (.ref b394), .val (.ref a), .val (.int 3), .val (.int 3), s5l, s6l, s7l] [(.ref s_410)])) _
    obtain ⟨fs, hr, hrun, hended, hW, hsame⟩ := X409.leave (v := some (.ref s_410)) (fun h => by rw [Bd.returns] at h; cases h)
    refine ⟨_, _, ?_, hrun, hended, _, _, rfl, ?_, ⟨_, rfl⟩, hW, hsame.mono (by decide) (by decide)⟩
    ·exact X409.areturnOut hx rfl Bd.returns rfl (hb hby d1_171) hr
    ·show Qen3 Z a z ka x0_ x1_ x2_ hxa kh h0 n0 _ T409.heap _
     exact ⟨s_410, t2_411, k2_412, rfl, N409, K413, sz_s_410, sz_t2_411, E_s_410, F_s_410_String_coder, F_s_410_String_value, (by rw [htkl, hcl] at V_t2_411; exact V_t2_411)⟩
  have lp2 : ∀ (T415 : State) (L415 : List Loc) (h415 : Heap) (tl : Addr) (kl : ClassId) (Nl : Int32) (vl : List Value) (cl : Int32) (s5l : Slot) (s6l : Slot) (s7l : Slot), Stand p l e ({ frames := 6, cells := 13, slots := 182, locals := 91 } : Room) s m #[(.ref a)] below meth c T415 L415 8 115 → T415.heap = h415 → Fr n0 L415 → Old Z n0 h415 → Keep h0 h415 [] → Arv Z h415 a ka .byte (3 : Int32) [(.int x0_), (.int x1_), (.int x2_)] (.int 0) → Exa Z h415 b394 "java/lang/StringBuilder" → Fld Z h415 b394 "java/lang/AbstractStringBuilder" "value" "[B" (.ref tl) → Fld Z h415 b394 "java/lang/AbstractStringBuilder" "coder" "B" (.int 0) → Fld Z h415 b394 "java/lang/AbstractStringBuilder" "count" "I" (.int cl) → Arv Z h415 tl kl .byte Nl vl (.int 0) → Exa Z h415 tl "[B" → One s5l → One s6l → One s7l → n0 ≤ tl → h0.size ≤ tl → a ≠ tl → b394 ≠ tl → own_ok Nl vl cl → vl.take cl.toNatClampNeg = (own_enc x0_ ++ own_enc x1_) → cl = Int32.ofNat (own_enc x0_ ++ own_enc x1_).length → own_Fin p e below (T415.setTop (mkF m 21 #[.val (.ref a), .val (.ref b394), .val (.ref a), .val (.int 3), .val (.int 2), s5l, s6l, s7l] [(.int 3), (.int 2)])) (fun o' t' => ∃ v' L', o' = .returned v' ∧ Qen3 Z a z ka x0_ x1_ x2_ hxa kh h0 n0 v' t'.heap L' ∧ FrameEnd s o' t' L' ({ frames := 6, cells := 13, slots := 182, locals := 91 } : Room).cells ({ frames := 6, cells := 13, slots := 182, locals := 91 } : Room).slots) := by
   intro T415 L415 h415 tl kl Nl vl cl s5l s6l s7l X415 e415 N415 O K415 V_a E_b394 F_b394_ASB_value F_b394_ASB_coder F_b394_ASB_count V_tl E_tl o5l o6l o7l g_tl sz_tl ne_a_tl ne_b_tl hokl htkl hcl
   show own_Fin p e below (T415.setTop (mkF m 21 #[.val (.ref a), .val (.ref b394), .val (.ref a), .val (.int 3), .val (.int 2), s5l, s6l, s7l] [(.int 3), (.int 2)])) _
   refine own_go (fun _ k => XS.icmpNo X415.here hx rfl (hb hby d1_21) rfl (tlt (by decide : (2 : Int32) < (3 : Int32))).2.1 (XS.aloadN X415.here hx rfl (hb hby d1_24) rfl rfl (XS.iload X415.here hx rfl (hb hby d1_25) rfl k))) ?_
   show own_Fin p e below (T415.setTop (mkF m 27 #[.val (.ref a), .val (.ref b394), .val (.ref a), .val (.int 3), .val (.int 2), s5l, s6l, s7l] [(.int 2), (.ref a)])) _
   obtain ⟨cl416, A416, q416, S416, M416, H416, G416⟩ := id V_a
   have hin416 : ¬ ((2 : Int32) < 0 ∨ cl416.slots.size ≤ ((2 : Int32)).toNatClampNeg) := inb_of S416 ⟨by decide, by decide⟩
   have hat416 : cl416.slots[((2 : Int32)).toNatClampNeg]? = some (.int x2_) := Has.at H416 hin416 rfl
   refine own_go (fun _ k => X415.baloadBytes hx (j := (2 : Int32)) (v := (.int x2_)) (own_eqE e415 A416.1) (State.isArrayOf_alike hZ.alike A416.2.1) A416.2.2 hin416 hat416 (g := (mkF m 27 #[.val (.ref a), .val (.ref b394), .val (.ref a), .val (.int 3), .val (.int 2), s5l, s6l, s7l] [(.int 2), (.ref a)])) rfl rfl (hb hby d1_27) _ k) ?_
   show own_Fin p e below (T415.setTop (mkF m 28 #[.val (.ref a), .val (.ref b394), .val (.ref a), .val (.int 3), .val (.int 2), s5l, s6l, s7l] [(.int x2_)])) _
   refine own_go (fun _ k => XS.istore X415.here hx rfl (hb hby d1_28) rfl (l' := #[.val (.ref a), .val (.ref b394), .val (.ref a), .val (.int 3), .val (.int 2), .val (.int x2_), s6l, s7l]) (own_st2 rfl o5l rfl rfl) (XS.iload X415.here hx rfl (hb hby d1_30) rfl (XS.sipush X415.here hx rfl (hb hby d1_32) (XS.iand X415.here hx rfl (hb hby d1_35) rfl (XS.istore X415.here hx rfl (hb hby d1_36) rfl (l' := #[.val (.ref a), .val (.ref b394), .val (.ref a), .val (.int 3), .val (.int 2), .val (.int x2_), .val (.int (x2_ &&& (255 : Int32))), s7l]) (own_st2 rfl o6l rfl rfl) k))))) ?_
   show own_Fin p e below (T415.setTop (mkF m 38 #[.val (.ref a), .val (.ref b394), .val (.ref a), .val (.int 3), .val (.int 2), .val (.int x2_), .val (.int (x2_ &&& (255 : Int32))), s7l] [])) _
   refine chk _ _ _ _ X415 _ _ _ _ _ _ _ _ ?_
   intro f hf
   show own_Fin p e below (T415.setTop (mkF m 113 #[.val (.ref a), .val (.ref b394), .val (.ref a), .val (.int 3), .val (.int 2), .val (.int x2_), .val (.int (x2_ &&& (255 : Int32))), s7l] [(.int f)])) _
   refine own_go (fun _ k => XS.istore X415.here hx rfl (hb hby d1_113) rfl (l' := #[.val (.ref a), .val (.ref b394), .val (.ref a), .val (.int 3), .val (.int 2), .val (.int x2_), .val (.int (x2_ &&& (255 : Int32))), .val (.int f)]) (own_st2 rfl o7l rfl rfl) k) ?_
   show own_Fin p e below (T415.setTop (mkF m 115 #[.val (.ref a), .val (.ref b394), .val (.ref a), .val (.int 3), .val (.int 2), .val (.int x2_), .val (.int (x2_ &&& (255 : Int32))), .val (.int f)] [])) _
   by_cases hsU : own_unres (x2_ &&& (255 : Int32))
   ·rw [own_bi1 hsU] at hf; subst hf
    show own_Fin p e below (T415.setTop (mkF m 115 #[.val (.ref a), .val (.ref b394), .val (.ref a), .val (.int 3), .val (.int 2), .val (.int x2_), .val (.int (x2_ &&& (255 : Int32))), .val (.int 1)] [])) _
    refine own_go (fun _ k => XS.iload X415.here hx rfl (hb hby d1_115) rfl (XS.ifNo X415.here hx rfl (hb hby d1_117) rfl ((if0 _ _).trans (feq (by decide : ¬ ((1 : Int32) = (0 : Int32)))).1) (XS.aloadN X415.here hx rfl (hb hby d1_120) rfl rfl (XS.iload X415.here hx rfl (hb hby d1_121) rfl (XS.i2c X415.here hx rfl (hb hby d1_123) rfl k))))) ?_
    show own_Fin p e below (T415.setTop (mkF m 124 #[.val (.ref a), .val (.ref b394), .val (.ref a), .val (.int 3), .val (.int 2), .val (.int x2_), .val (.int (x2_ &&& (255 : Int32))), .val (.int 1)] [(.int ((x2_ &&& (255 : Int32)).toUInt32.toUInt16.toUInt32.toInt32)), (.ref b394)])) _
    have lt_a417 := V_a
    obtain ⟨cq418, kq418, q418a, q418b, q418c⟩ := isOf hZ e415 E_b394
    obtain ⟨_, _, ⟨T418, L418, k418, n418⟩, -, X418, ⟨Lc418, hQ418, l418, y418, z418⟩, st418⟩ := X415.virtualBack hx (y := (⟨"java/lang/StringBuilder", "append", "(C)Ljava/lang/StringBuilder;"⟩ : MethodName)) (z := (⟨"java/lang/StringBuilder", "append", "(C)Ljava/lang/StringBuilder;"⟩ : MethodName)) hown (mvT hZ (ow hw 90)) (mvT hZ (ow hw 91)) (notFace_of_selects (args := #[]) (mvT hZ (ow hw 93))) (mvT hZ (ow hw 93)) (mvT hZ (ow hw 92)) (by decide) (backOf (W := 0) (sap l Z a0 hw [] b394 ((x2_ &&& (255 : Int32)).toUInt32.toUInt16.toUInt32.toInt32) z tl kl Nl vl cl h415 n0 O S_String_COMPACT_STRINGS hz E_b394 F_b394_ASB_value F_b394_ASB_coder F_b394_ASB_count V_tl E_tl g_b394 g_tl ne_b_tl (own_c255 _) hokl (own_h8a hcl (own_lb2 _ _))) hZ (ow hw 94) (ow hw 7) (by decide) (by decide)) q418a q418c (g := (mkF m 124 #[.val (.ref a), .val (.ref b394), .val (.ref a), .val (.int 3), .val (.int 2), .val (.int x2_), .val (.int (x2_ &&& (255 : Int32))), .val (.int 1)] [(.int ((x2_ &&& (255 : Int32)).toUInt32.toUInt16.toUInt32.toInt32)), (.ref b394)])) rfl (by rw [hml]; rfl) (Steps.refl _) (argsL := [(.int ((x2_ &&& (255 : Int32)).toUInt32.toUInt16.toUInt32.toInt32))]) (rest := []) (lenOf pd_15 rfl) rfl (by show 2 * 0 + _ ≤ _; exact Nat.le_of_eq rfl) (hb hby d1_124) (fun _ _ => ⟨rfl, e415, (by decide : 8 + 1 ≤ _), (by decide : 115 + 18 ≤ _)⟩)
    dsimp only [Pt.U, Pt.locs, Pt.cells, Pt.slots] at X418 l418 y418 z418 st418 hQ418
    subst l418 y418 z418
    obtain ⟨t2_419, k2_420, N2_421, vs2_422, rfl, N418q, Kq418, P418_0, P418_1, P418_2, P418_3, P418_4, P418_5, P418_6, P418_7, P418_8, P418_9, P418_10⟩ := hQ418
    refine own_go (fun _ k => st418.trans k) ?_
    have N418 := Fr.app N415 N418q
    have V_a := V_a.keep Kq418 (ninS ne_a_b394 (ninS ne_a_tl nin0))
    have E_b394 := E_b394.keep Kq418
    clear F_b394_ASB_value
    clear F_b394_ASB_coder
    clear F_b394_ASB_count
    clear V_tl
    have E_tl := E_tl.keep Kq418
    have O := O.keep Kq418 (allS g_b394 (allS g_tl all0))
    have K423 := K415.trans Kq418 (allS (Or.inr sz_b394) (allS (Or.inr sz_tl) all0))
    have E_b394 := P418_3
    have F_b394_ASB_value := P418_4
    have F_b394_ASB_coder := P418_5
    have F_b394_ASB_count := P418_6
    have V_t2_419 := P418_7
    have E_t2_419 := P418_8
    have sz_t2_419 : h0.size ≤ t2_419 := P418_0.elim (fun q => by rw [q]; exact sz_tl) (fun q => Nat.le_trans K415.1 q)
    have ne_a_t2_419 : a ≠ t2_419 := P418_0.elim (fun q => by rw [q]; exact ne_a_tl) (fun q => Nat.ne_of_lt (Nat.lt_of_lt_of_le lt_a417.lt q))
    show own_Fin p e below (T418.setTop (mkF m 127 #[.val (.ref a), .val (.ref b394), .val (.ref a), .val (.int 3), .val (.int 2), .val (.int x2_), .val (.int (x2_ &&& (255 : Int32))), .val (.int 1)] [(.ref b394)])) _
    refine own_go (fun _ k => XS.pop X418.here hx rfl (hb hby d1_127) rfl rfl (XS.goto X418.here hx rfl (pc0 := 128) (pc' := 161) rfl (hb hby d1_128) (by decide) (by decide) (XS.iinc X418.here hx rfl (hb hby d1_161) rfl (l' := #[.val (.ref a), .val (.ref b394), .val (.ref a), .val (.int 3), .val (.int 3), .val (.int x2_), .val (.int (x2_ &&& (255 : Int32))), .val (.int 1)]) rfl (XS.goto X418.here hx rfl (pc0 := 164) (pc' := 18) rfl (hb hby d1_164) (by decide) (by decide) (XS.iload X418.here hx rfl (hb hby d1_18) rfl (XS.iloadN X418.here hx rfl (hb hby d1_20) rfl k)))))) ?_
    show own_Fin p e below (T418.setTop (mkF m 21 #[.val (.ref a), .val (.ref b394), .val (.ref a), .val (.int 3), .val (.int 3), .val (.int x2_), .val (.int (x2_ &&& (255 : Int32))), .val (.int 1)] [(.int 3), (.int 3)])) _
    exact lp3 _ _ _ t2_419 k2_420 _ _ _ _ _ _ (X418.more (by decide) (by decide)) rfl N418 O K423 V_a E_b394 F_b394_ASB_value F_b394_ASB_coder F_b394_ASB_count V_t2_419 E_t2_419 (One.val rfl) (One.val rfl) (One.val rfl) P418_1 sz_t2_419 ne_a_t2_419 P418_2 P418_9 (own_jn1T hsU htkl P418_10) (own_jc1T hsU hcl (own_lb2 _ _))
   ·rw [own_bi0 hsU] at hf; subst hf
    show own_Fin p e below (T415.setTop (mkF m 115 #[.val (.ref a), .val (.ref b394), .val (.ref a), .val (.int 3), .val (.int 2), .val (.int x2_), .val (.int (x2_ &&& (255 : Int32))), .val (.int 0)] [])) _
    refine own_go (fun _ k => XS.iload X415.here hx rfl (hb hby d1_115) rfl (XS.ifYes X415.here hx rfl (pc0 := 117) (pc' := 131) rfl (hb hby d1_117) rfl ((if0 _ _).trans (teq (by decide : (0 : Int32) = (0 : Int32))).1) (by decide) (by decide) (XS.aloadN X415.here hx rfl (hb hby d1_131) rfl rfl (XS.bipush X415.here hx rfl (hb hby d1_132) k)))) ?_
    show own_Fin p e below (T415.setTop (mkF m 134 #[.val (.ref a), .val (.ref b394), .val (.ref a), .val (.int 3), .val (.int 2), .val (.int x2_), .val (.int (x2_ &&& (255 : Int32))), .val (.int 0)] [(.int 37), (.ref b394)])) _
    have lt_a424 := V_a
    obtain ⟨cq425, kq425, q425a, q425b, q425c⟩ := isOf hZ e415 E_b394
    obtain ⟨_, _, ⟨T425, L425, k425, n425⟩, -, X425, ⟨Lc425, hQ425, l425, y425, z425⟩, st425⟩ := X415.virtualBack hx (y := (⟨"java/lang/StringBuilder", "append", "(C)Ljava/lang/StringBuilder;"⟩ : MethodName)) (z := (⟨"java/lang/StringBuilder", "append", "(C)Ljava/lang/StringBuilder;"⟩ : MethodName)) hown (mvT hZ (ow hw 90)) (mvT hZ (ow hw 91)) (notFace_of_selects (args := #[]) (mvT hZ (ow hw 93))) (mvT hZ (ow hw 93)) (mvT hZ (ow hw 92)) (by decide) (backOf (W := 0) (sap l Z a0 hw [] b394 (37 : Int32) z tl kl Nl vl cl h415 n0 O S_String_COMPACT_STRINGS hz E_b394 F_b394_ASB_value F_b394_ASB_coder F_b394_ASB_count V_tl E_tl g_b394 g_tl ne_b_tl (by decide) hokl (own_h8a hcl (own_lb2 _ _))) hZ (ow hw 94) (ow hw 7) (by decide) (by decide)) q425a q425c (g := (mkF m 134 #[.val (.ref a), .val (.ref b394), .val (.ref a), .val (.int 3), .val (.int 2), .val (.int x2_), .val (.int (x2_ &&& (255 : Int32))), .val (.int 0)] [(.int 37), (.ref b394)])) rfl (by rw [hml]; rfl) (Steps.refl _) (argsL := [(.int 37)]) (rest := []) (lenOf pd_15 rfl) rfl (by show 2 * 0 + _ ≤ _; exact Nat.le_of_eq rfl) (hb hby d1_134) (fun _ _ => ⟨rfl, e415, (by decide : 8 + 1 ≤ _), (by decide : 115 + 18 ≤ _)⟩)
    dsimp only [Pt.U, Pt.locs, Pt.cells, Pt.slots] at X425 l425 y425 z425 st425 hQ425
    subst l425 y425 z425
    obtain ⟨t2_426, k2_427, N2_428, vs2_429, rfl, N425q, Kq425, P425_0, P425_1, P425_2, P425_3, P425_4, P425_5, P425_6, P425_7, P425_8, P425_9, P425_10⟩ := hQ425
    refine own_go (fun _ k => st425.trans k) ?_
    have N425 := Fr.app N415 N425q
    have V_a := V_a.keep Kq425 (ninS ne_a_b394 (ninS ne_a_tl nin0))
    have E_b394 := E_b394.keep Kq425
    clear F_b394_ASB_value
    clear F_b394_ASB_coder
    clear F_b394_ASB_count
    clear V_tl
    have E_tl := E_tl.keep Kq425
    have O := O.keep Kq425 (allS g_b394 (allS g_tl all0))
    have K430 := K415.trans Kq425 (allS (Or.inr sz_b394) (allS (Or.inr sz_tl) all0))
    have E_b394 := P425_3
    have F_b394_ASB_value := P425_4
    have F_b394_ASB_coder := P425_5
    have F_b394_ASB_count := P425_6
    have V_t2_426 := P425_7
    have E_t2_426 := P425_8
    have sz_t2_426 : h0.size ≤ t2_426 := P425_0.elim (fun q => by rw [q]; exact sz_tl) (fun q => Nat.le_trans K415.1 q)
    have ne_a_t2_426 : a ≠ t2_426 := P425_0.elim (fun q => by rw [q]; exact ne_a_tl) (fun q => Nat.ne_of_lt (Nat.lt_of_lt_of_le lt_a424.lt q))
    show own_Fin p e below (T425.setTop (mkF m 137 #[.val (.ref a), .val (.ref b394), .val (.ref a), .val (.int 3), .val (.int 2), .val (.int x2_), .val (.int (x2_ &&& (255 : Int32))), .val (.int 0)] [(.ref b394)])) _
    obtain ⟨T431, X431, e431, st431⟩ := getS2 X425 hx hZ hown (host := "") (Or.inl (ow hw 109)) Via.refl rfl (S_Uris_HEX.ext O.2) (g := (mkF m 137 #[.val (.ref a), .val (.ref b394), .val (.ref a), .val (.int 3), .val (.int 2), .val (.int x2_), .val (.int (x2_ &&& (255 : Int32))), .val (.int 0)] [(.ref b394)])) rfl (hb hby d1_137)
    refine own_go (fun _ k => st431 _ k) ?_
    show own_Fin p e below (T431.setTop (mkF m 140 #[.val (.ref a), .val (.ref b394), .val (.ref a), .val (.int 3), .val (.int 2), .val (.int x2_), .val (.int (x2_ &&& (255 : Int32))), .val (.int 0)] [(.ref hxa), (.ref b394)])) _
    refine own_go (fun _ k => XS.iload X431.here hx rfl (hb hby d1_140) rfl (XS.iconst X431.here hx rfl (hb hby d1_142) (XS.ishr X431.here hx rfl (hb hby d1_143) rfl k))) ?_
    show own_Fin p e below (T431.setTop (mkF m 144 #[.val (.ref a), .val (.ref b394), .val (.ref a), .val (.int 3), .val (.int 2), .val (.int x2_), .val (.int (x2_ &&& (255 : Int32))), .val (.int 0)] [(.int ((x2_ &&& (255 : Int32)) >>> ((4 : Int32) &&& 31))), (.ref hxa), (.ref b394)])) _
    obtain ⟨cl432, A432, q432, S432, M432, H432, G432⟩ := id (V_hxa.ext O.2)
    have hin432 : ¬ (((x2_ &&& (255 : Int32)) >>> ((4 : Int32) &&& 31)) < 0 ∨ cl432.slots.size ≤ (((x2_ &&& (255 : Int32)) >>> ((4 : Int32) &&& 31))).toNatClampNeg) := inb_of S432 (own_in16 _)
    have hat432 : cl432.slots[(((x2_ &&& (255 : Int32)) >>> ((4 : Int32) &&& 31))).toNatClampNeg]? = some (.int (own_hv ((x2_ &&& (255 : Int32)) >>> ((4 : Int32) &&& 31)))) := Has.at H432 hin432 (own_hget _)
    refine own_go (fun _ k => X431.caload hx (j := ((x2_ &&& (255 : Int32)) >>> ((4 : Int32) &&& 31))) (v := (.int (own_hv ((x2_ &&& (255 : Int32)) >>> ((4 : Int32) &&& 31))))) (own_eqE e431 A432.1) (State.isArrayOf_alike hZ.alike A432.2.1) A432.2.2 hin432 hat432 (g := (mkF m 144 #[.val (.ref a), .val (.ref b394), .val (.ref a), .val (.int 3), .val (.int 2), .val (.int x2_), .val (.int (x2_ &&& (255 : Int32))), .val (.int 0)] [(.int ((x2_ &&& (255 : Int32)) >>> ((4 : Int32) &&& 31))), (.ref hxa), (.ref b394)])) rfl rfl (hb hby d1_144) _ k) ?_
    show own_Fin p e below (T431.setTop (mkF m 145 #[.val (.ref a), .val (.ref b394), .val (.ref a), .val (.int 3), .val (.int 2), .val (.int x2_), .val (.int (x2_ &&& (255 : Int32))), .val (.int 0)] [(.int (own_hv ((x2_ &&& (255 : Int32)) >>> ((4 : Int32) &&& 31)))), (.ref b394)])) _
    have lt_a433 := V_a
    obtain ⟨cq434, kq434, q434a, q434b, q434c⟩ := isOf hZ e431 E_b394
    obtain ⟨_, _, ⟨T434, L434, k434, n434⟩, -, X434, ⟨Lc434, hQ434, l434, y434, z434⟩, st434⟩ := X431.virtualBack hx (y := (⟨"java/lang/StringBuilder", "append", "(C)Ljava/lang/StringBuilder;"⟩ : MethodName)) (z := (⟨"java/lang/StringBuilder", "append", "(C)Ljava/lang/StringBuilder;"⟩ : MethodName)) hown (mvT hZ (ow hw 90)) (mvT hZ (ow hw 91)) (notFace_of_selects (args := #[]) (mvT hZ (ow hw 93))) (mvT hZ (ow hw 93)) (mvT hZ (ow hw 92)) (by decide) (backOf (W := 0) (sap l Z a0 hw [] b394 (own_hv ((x2_ &&& (255 : Int32)) >>> ((4 : Int32) &&& 31))) z t2_426 k2_427 N2_428 vs2_429 (cl + (1 : Int32)) (T425.heap) n0 O S_String_COMPACT_STRINGS hz E_b394 F_b394_ASB_value F_b394_ASB_coder F_b394_ASB_count V_t2_426 E_t2_426 g_b394 P425_1 P425_2 (own_hv255 _) P425_9 (own_h8b hcl (own_lb2 _ _))) hZ (ow hw 94) (ow hw 7) (by decide) (by decide)) q434a q434c (g := (mkF m 145 #[.val (.ref a), .val (.ref b394), .val (.ref a), .val (.int 3), .val (.int 2), .val (.int x2_), .val (.int (x2_ &&& (255 : Int32))), .val (.int 0)] [(.int (own_hv ((x2_ &&& (255 : Int32)) >>> ((4 : Int32) &&& 31)))), (.ref b394)])) rfl (by rw [hml]; rfl) (Steps.refl _) (argsL := [(.int (own_hv ((x2_ &&& (255 : Int32)) >>> ((4 : Int32) &&& 31))))]) (rest := []) (lenOf pd_15 rfl) rfl (by show 2 * 0 + _ ≤ _; exact Nat.le_of_eq rfl) (hb hby d1_145) (fun _ _ => ⟨rfl, e431, (by decide : 9 + 1 ≤ _), (by decide : 133 + 18 ≤ _)⟩)
    dsimp only [Pt.U, Pt.locs, Pt.cells, Pt.slots] at X434 l434 y434 z434 st434 hQ434
    subst l434 y434 z434
    obtain ⟨t2_435, k2_436, N2_437, vs2_438, rfl, N434q, Kq434, P434_0, P434_1, P434_2, P434_3, P434_4, P434_5, P434_6, P434_7, P434_8, P434_9, P434_10⟩ := hQ434
    refine own_go (fun _ k => st434.trans k) ?_
    have N434 := Fr.app N425 N434q
    have V_a := V_a.keep Kq434 (ninS ne_a_b394 (ninS ne_a_t2_426 nin0))
    have E_b394 := E_b394.keep Kq434
    clear F_b394_ASB_value
    clear F_b394_ASB_coder
    clear F_b394_ASB_count
    clear V_t2_426
    have E_t2_426 := E_t2_426.keep Kq434
    have O := O.keep Kq434 (allS g_b394 (allS P425_1 all0))
    have K439 := K430.trans Kq434 (allS (Or.inr sz_b394) (allS (Or.inr sz_t2_426) all0))
    have E_b394 := P434_3
    have F_b394_ASB_value := P434_4
    have F_b394_ASB_coder := P434_5
    have F_b394_ASB_count := P434_6
    have V_t2_435 := P434_7
    have E_t2_435 := P434_8
    have sz_t2_435 : h0.size ≤ t2_435 := P434_0.elim (fun q => by rw [q]; exact sz_t2_426) (fun q => Nat.le_trans K430.1 q)
    have ne_a_t2_435 : a ≠ t2_435 := P434_0.elim (fun q => by rw [q]; exact ne_a_t2_426) (fun q => Nat.ne_of_lt (Nat.lt_of_lt_of_le lt_a433.lt q))
    show own_Fin p e below (T434.setTop (mkF m 148 #[.val (.ref a), .val (.ref b394), .val (.ref a), .val (.int 3), .val (.int 2), .val (.int x2_), .val (.int (x2_ &&& (255 : Int32))), .val (.int 0)] [(.ref b394)])) _
    obtain ⟨T440, X440, e440, st440⟩ := getS2 X434 hx hZ hown (host := "") (Or.inl (ow hw 109)) Via.refl rfl (S_Uris_HEX.ext O.2) (g := (mkF m 148 #[.val (.ref a), .val (.ref b394), .val (.ref a), .val (.int 3), .val (.int 2), .val (.int x2_), .val (.int (x2_ &&& (255 : Int32))), .val (.int 0)] [(.ref b394)])) rfl (hb hby d1_148)
    refine own_go (fun _ k => st440 _ k) ?_
    show own_Fin p e below (T440.setTop (mkF m 151 #[.val (.ref a), .val (.ref b394), .val (.ref a), .val (.int 3), .val (.int 2), .val (.int x2_), .val (.int (x2_ &&& (255 : Int32))), .val (.int 0)] [(.ref hxa), (.ref b394)])) _
    refine own_go (fun _ k => XS.iload X440.here hx rfl (hb hby d1_151) rfl (XS.bipush X440.here hx rfl (hb hby d1_153) (XS.iand X440.here hx rfl (hb hby d1_155) rfl k))) ?_
    show own_Fin p e below (T440.setTop (mkF m 156 #[.val (.ref a), .val (.ref b394), .val (.ref a), .val (.int 3), .val (.int 2), .val (.int x2_), .val (.int (x2_ &&& (255 : Int32))), .val (.int 0)] [(.int ((x2_ &&& (255 : Int32)) &&& (15 : Int32))), (.ref hxa), (.ref b394)])) _
    obtain ⟨cl441, A441, q441, S441, M441, H441, G441⟩ := id (V_hxa.ext O.2)
    have hin441 : ¬ (((x2_ &&& (255 : Int32)) &&& (15 : Int32)) < 0 ∨ cl441.slots.size ≤ (((x2_ &&& (255 : Int32)) &&& (15 : Int32))).toNatClampNeg) := inb_of S441 (own_lo16 _)
    have hat441 : cl441.slots[(((x2_ &&& (255 : Int32)) &&& (15 : Int32))).toNatClampNeg]? = some (.int (own_hv ((x2_ &&& (255 : Int32)) &&& (15 : Int32)))) := Has.at H441 hin441 (own_hget _)
    refine own_go (fun _ k => X440.caload hx (j := ((x2_ &&& (255 : Int32)) &&& (15 : Int32))) (v := (.int (own_hv ((x2_ &&& (255 : Int32)) &&& (15 : Int32))))) (own_eqE e440 A441.1) (State.isArrayOf_alike hZ.alike A441.2.1) A441.2.2 hin441 hat441 (g := (mkF m 156 #[.val (.ref a), .val (.ref b394), .val (.ref a), .val (.int 3), .val (.int 2), .val (.int x2_), .val (.int (x2_ &&& (255 : Int32))), .val (.int 0)] [(.int ((x2_ &&& (255 : Int32)) &&& (15 : Int32))), (.ref hxa), (.ref b394)])) rfl rfl (hb hby d1_156) _ k) ?_
    show own_Fin p e below (T440.setTop (mkF m 157 #[.val (.ref a), .val (.ref b394), .val (.ref a), .val (.int 3), .val (.int 2), .val (.int x2_), .val (.int (x2_ &&& (255 : Int32))), .val (.int 0)] [(.int (own_hv ((x2_ &&& (255 : Int32)) &&& (15 : Int32)))), (.ref b394)])) _
    have lt_a442 := V_a
    obtain ⟨cq443, kq443, q443a, q443b, q443c⟩ := isOf hZ e440 E_b394
    obtain ⟨_, _, ⟨T443, L443, k443, n443⟩, -, X443, ⟨Lc443, hQ443, l443, y443, z443⟩, st443⟩ := X440.virtualBack hx (y := (⟨"java/lang/StringBuilder", "append", "(C)Ljava/lang/StringBuilder;"⟩ : MethodName)) (z := (⟨"java/lang/StringBuilder", "append", "(C)Ljava/lang/StringBuilder;"⟩ : MethodName)) hown (mvT hZ (ow hw 90)) (mvT hZ (ow hw 91)) (notFace_of_selects (args := #[]) (mvT hZ (ow hw 93))) (mvT hZ (ow hw 93)) (mvT hZ (ow hw 92)) (by decide) (backOf (W := 0) (sap l Z a0 hw [] b394 (own_hv ((x2_ &&& (255 : Int32)) &&& (15 : Int32))) z t2_435 k2_436 N2_437 vs2_438 ((cl + (1 : Int32)) + (1 : Int32)) (T434.heap) n0 O S_String_COMPACT_STRINGS hz E_b394 F_b394_ASB_value F_b394_ASB_coder F_b394_ASB_count V_t2_435 E_t2_435 g_b394 P434_1 P434_2 (own_hv255 _) P434_9 (own_h8c hcl (own_lb2 _ _))) hZ (ow hw 94) (ow hw 7) (by decide) (by decide)) q443a q443c (g := (mkF m 157 #[.val (.ref a), .val (.ref b394), .val (.ref a), .val (.int 3), .val (.int 2), .val (.int x2_), .val (.int (x2_ &&& (255 : Int32))), .val (.int 0)] [(.int (own_hv ((x2_ &&& (255 : Int32)) &&& (15 : Int32)))), (.ref b394)])) rfl (by rw [hml]; rfl) (Steps.refl _) (argsL := [(.int (own_hv ((x2_ &&& (255 : Int32)) &&& (15 : Int32))))]) (rest := []) (lenOf pd_15 rfl) rfl (by show 2 * 0 + _ ≤ _; exact Nat.le_of_eq rfl) (hb hby d1_157) (fun _ _ => ⟨rfl, e440, (by decide : 10 + 1 ≤ _), (by decide : 151 + 18 ≤ _)⟩)
    dsimp only [Pt.U, Pt.locs, Pt.cells, Pt.slots] at X443 l443 y443 z443 st443 hQ443
    subst l443 y443 z443
    obtain ⟨t2_444, k2_445, N2_446, vs2_447, rfl, N443q, Kq443, P443_0, P443_1, P443_2, P443_3, P443_4, P443_5, P443_6, P443_7, P443_8, P443_9, P443_10⟩ := hQ443
    refine own_go (fun _ k => st443.trans k) ?_
    have N443 := Fr.app N434 N443q
    have V_a := V_a.keep Kq443 (ninS ne_a_b394 (ninS ne_a_t2_435 nin0))
    have E_b394 := E_b394.keep Kq443
    clear F_b394_ASB_value
    clear F_b394_ASB_coder
    clear F_b394_ASB_count
    clear V_t2_435
    have E_t2_435 := E_t2_435.keep Kq443
    have O := O.keep Kq443 (allS g_b394 (allS P434_1 all0))
    have K448 := K439.trans Kq443 (allS (Or.inr sz_b394) (allS (Or.inr sz_t2_435) all0))
    have E_b394 := P443_3
    have F_b394_ASB_value := P443_4
    have F_b394_ASB_coder := P443_5
    have F_b394_ASB_count := P443_6
    have V_t2_444 := P443_7
    have E_t2_444 := P443_8
    have sz_t2_444 : h0.size ≤ t2_444 := P443_0.elim (fun q => by rw [q]; exact sz_t2_435) (fun q => Nat.le_trans K439.1 q)
    have ne_a_t2_444 : a ≠ t2_444 := P443_0.elim (fun q => by rw [q]; exact ne_a_t2_435) (fun q => Nat.ne_of_lt (Nat.lt_of_lt_of_le lt_a442.lt q))
    show own_Fin p e below (T443.setTop (mkF m 160 #[.val (.ref a), .val (.ref b394), .val (.ref a), .val (.int 3), .val (.int 2), .val (.int x2_), .val (.int (x2_ &&& (255 : Int32))), .val (.int 0)] [(.ref b394)])) _
    refine own_go (fun _ k => XS.pop X443.here hx rfl (hb hby d1_160) rfl rfl (XS.iinc X443.here hx rfl (hb hby d1_161) rfl (l' := #[.val (.ref a), .val (.ref b394), .val (.ref a), .val (.int 3), .val (.int 3), .val (.int x2_), .val (.int (x2_ &&& (255 : Int32))), .val (.int 0)]) rfl (XS.goto X443.here hx rfl (pc0 := 164) (pc' := 18) rfl (hb hby d1_164) (by decide) (by decide) (XS.iload X443.here hx rfl (hb hby d1_18) rfl (XS.iloadN X443.here hx rfl (hb hby d1_20) rfl k))))) ?_
    show own_Fin p e below (T443.setTop (mkF m 21 #[.val (.ref a), .val (.ref b394), .val (.ref a), .val (.int 3), .val (.int 3), .val (.int x2_), .val (.int (x2_ &&& (255 : Int32))), .val (.int 0)] [(.int 3), (.int 3)])) _
    exact lp3 _ _ _ t2_444 k2_445 _ _ _ _ _ _ X443 rfl N443 O K448 V_a E_b394 F_b394_ASB_value F_b394_ASB_coder F_b394_ASB_count V_t2_444 E_t2_444 (One.val rfl) (One.val rfl) (One.val rfl) P443_1 sz_t2_444 ne_a_t2_444 P443_2 P443_9 (own_jn1F hsU htkl P425_10 P434_10 P443_10) (own_jc1F hsU hcl (own_lb2 _ _))
  have lp1 : ∀ (T449 : State) (L449 : List Loc) (h449 : Heap) (tl : Addr) (kl : ClassId) (Nl : Int32) (vl : List Value) (cl : Int32) (s5l : Slot) (s6l : Slot) (s7l : Slot), Stand p l e ({ frames := 6, cells := 13, slots := 182, locals := 91 } : Room) s m #[(.ref a)] below meth c T449 L449 5 61 → T449.heap = h449 → Fr n0 L449 → Old Z n0 h449 → Keep h0 h449 [] → Arv Z h449 a ka .byte (3 : Int32) [(.int x0_), (.int x1_), (.int x2_)] (.int 0) → Exa Z h449 b394 "java/lang/StringBuilder" → Fld Z h449 b394 "java/lang/AbstractStringBuilder" "value" "[B" (.ref tl) → Fld Z h449 b394 "java/lang/AbstractStringBuilder" "coder" "B" (.int 0) → Fld Z h449 b394 "java/lang/AbstractStringBuilder" "count" "I" (.int cl) → Arv Z h449 tl kl .byte Nl vl (.int 0) → Exa Z h449 tl "[B" → One s5l → One s6l → One s7l → n0 ≤ tl → h0.size ≤ tl → a ≠ tl → b394 ≠ tl → own_ok Nl vl cl → vl.take cl.toNatClampNeg = (own_enc x0_) → cl = Int32.ofNat (own_enc x0_).length → own_Fin p e below (T449.setTop (mkF m 21 #[.val (.ref a), .val (.ref b394), .val (.ref a), .val (.int 3), .val (.int 1), s5l, s6l, s7l] [(.int 3), (.int 1)])) (fun o' t' => ∃ v' L', o' = .returned v' ∧ Qen3 Z a z ka x0_ x1_ x2_ hxa kh h0 n0 v' t'.heap L' ∧ FrameEnd s o' t' L' ({ frames := 6, cells := 13, slots := 182, locals := 91 } : Room).cells ({ frames := 6, cells := 13, slots := 182, locals := 91 } : Room).slots) := by
   intro T449 L449 h449 tl kl Nl vl cl s5l s6l s7l X449 e449 N449 O K449 V_a E_b394 F_b394_ASB_value F_b394_ASB_coder F_b394_ASB_count V_tl E_tl o5l o6l o7l g_tl sz_tl ne_a_tl ne_b_tl hokl htkl hcl
   show own_Fin p e below (T449.setTop (mkF m 21 #[.val (.ref a), .val (.ref b394), .val (.ref a), .val (.int 3), .val (.int 1), s5l, s6l, s7l] [(.int 3), (.int 1)])) _
   refine own_go (fun _ k => XS.icmpNo X449.here hx rfl (hb hby d1_21) rfl (tlt (by decide : (1 : Int32) < (3 : Int32))).2.1 (XS.aloadN X449.here hx rfl (hb hby d1_24) rfl rfl (XS.iload X449.here hx rfl (hb hby d1_25) rfl k))) ?_
   show own_Fin p e below (T449.setTop (mkF m 27 #[.val (.ref a), .val (.ref b394), .val (.ref a), .val (.int 3), .val (.int 1), s5l, s6l, s7l] [(.int 1), (.ref a)])) _
   obtain ⟨cl450, A450, q450, S450, M450, H450, G450⟩ := id V_a
   have hin450 : ¬ ((1 : Int32) < 0 ∨ cl450.slots.size ≤ ((1 : Int32)).toNatClampNeg) := inb_of S450 ⟨by decide, by decide⟩
   have hat450 : cl450.slots[((1 : Int32)).toNatClampNeg]? = some (.int x1_) := Has.at H450 hin450 rfl
   refine own_go (fun _ k => X449.baloadBytes hx (j := (1 : Int32)) (v := (.int x1_)) (own_eqE e449 A450.1) (State.isArrayOf_alike hZ.alike A450.2.1) A450.2.2 hin450 hat450 (g := (mkF m 27 #[.val (.ref a), .val (.ref b394), .val (.ref a), .val (.int 3), .val (.int 1), s5l, s6l, s7l] [(.int 1), (.ref a)])) rfl rfl (hb hby d1_27) _ k) ?_
   show own_Fin p e below (T449.setTop (mkF m 28 #[.val (.ref a), .val (.ref b394), .val (.ref a), .val (.int 3), .val (.int 1), s5l, s6l, s7l] [(.int x1_)])) _
   refine own_go (fun _ k => XS.istore X449.here hx rfl (hb hby d1_28) rfl (l' := #[.val (.ref a), .val (.ref b394), .val (.ref a), .val (.int 3), .val (.int 1), .val (.int x1_), s6l, s7l]) (own_st2 rfl o5l rfl rfl) (XS.iload X449.here hx rfl (hb hby d1_30) rfl (XS.sipush X449.here hx rfl (hb hby d1_32) (XS.iand X449.here hx rfl (hb hby d1_35) rfl (XS.istore X449.here hx rfl (hb hby d1_36) rfl (l' := #[.val (.ref a), .val (.ref b394), .val (.ref a), .val (.int 3), .val (.int 1), .val (.int x1_), .val (.int (x1_ &&& (255 : Int32))), s7l]) (own_st2 rfl o6l rfl rfl) k))))) ?_
   show own_Fin p e below (T449.setTop (mkF m 38 #[.val (.ref a), .val (.ref b394), .val (.ref a), .val (.int 3), .val (.int 1), .val (.int x1_), .val (.int (x1_ &&& (255 : Int32))), s7l] [])) _
   refine chk _ _ _ _ X449 _ _ _ _ _ _ _ _ ?_
   intro f hf
   show own_Fin p e below (T449.setTop (mkF m 113 #[.val (.ref a), .val (.ref b394), .val (.ref a), .val (.int 3), .val (.int 1), .val (.int x1_), .val (.int (x1_ &&& (255 : Int32))), s7l] [(.int f)])) _
   refine own_go (fun _ k => XS.istore X449.here hx rfl (hb hby d1_113) rfl (l' := #[.val (.ref a), .val (.ref b394), .val (.ref a), .val (.int 3), .val (.int 1), .val (.int x1_), .val (.int (x1_ &&& (255 : Int32))), .val (.int f)]) (own_st2 rfl o7l rfl rfl) k) ?_
   show own_Fin p e below (T449.setTop (mkF m 115 #[.val (.ref a), .val (.ref b394), .val (.ref a), .val (.int 3), .val (.int 1), .val (.int x1_), .val (.int (x1_ &&& (255 : Int32))), .val (.int f)] [])) _
   by_cases hsU : own_unres (x1_ &&& (255 : Int32))
   ·rw [own_bi1 hsU] at hf; subst hf
    show own_Fin p e below (T449.setTop (mkF m 115 #[.val (.ref a), .val (.ref b394), .val (.ref a), .val (.int 3), .val (.int 1), .val (.int x1_), .val (.int (x1_ &&& (255 : Int32))), .val (.int 1)] [])) _
    refine own_go (fun _ k => XS.iload X449.here hx rfl (hb hby d1_115) rfl (XS.ifNo X449.here hx rfl (hb hby d1_117) rfl ((if0 _ _).trans (feq (by decide : ¬ ((1 : Int32) = (0 : Int32)))).1) (XS.aloadN X449.here hx rfl (hb hby d1_120) rfl rfl (XS.iload X449.here hx rfl (hb hby d1_121) rfl (XS.i2c X449.here hx rfl (hb hby d1_123) rfl k))))) ?_
    show own_Fin p e below (T449.setTop (mkF m 124 #[.val (.ref a), .val (.ref b394), .val (.ref a), .val (.int 3), .val (.int 1), .val (.int x1_), .val (.int (x1_ &&& (255 : Int32))), .val (.int 1)] [(.int ((x1_ &&& (255 : Int32)).toUInt32.toUInt16.toUInt32.toInt32)), (.ref b394)])) _
    have lt_a451 := V_a
    obtain ⟨cq452, kq452, q452a, q452b, q452c⟩ := isOf hZ e449 E_b394
    obtain ⟨_, _, ⟨T452, L452, k452, n452⟩, -, X452, ⟨Lc452, hQ452, l452, y452, z452⟩, st452⟩ := X449.virtualBack hx (y := (⟨"java/lang/StringBuilder", "append", "(C)Ljava/lang/StringBuilder;"⟩ : MethodName)) (z := (⟨"java/lang/StringBuilder", "append", "(C)Ljava/lang/StringBuilder;"⟩ : MethodName)) hown (mvT hZ (ow hw 90)) (mvT hZ (ow hw 91)) (notFace_of_selects (args := #[]) (mvT hZ (ow hw 93))) (mvT hZ (ow hw 93)) (mvT hZ (ow hw 92)) (by decide) (backOf (W := 0) (sap l Z a0 hw [] b394 ((x1_ &&& (255 : Int32)).toUInt32.toUInt16.toUInt32.toInt32) z tl kl Nl vl cl h449 n0 O S_String_COMPACT_STRINGS hz E_b394 F_b394_ASB_value F_b394_ASB_coder F_b394_ASB_count V_tl E_tl g_b394 g_tl ne_b_tl (own_c255 _) hokl (own_h8a hcl (own_lb1 _))) hZ (ow hw 94) (ow hw 7) (by decide) (by decide)) q452a q452c (g := (mkF m 124 #[.val (.ref a), .val (.ref b394), .val (.ref a), .val (.int 3), .val (.int 1), .val (.int x1_), .val (.int (x1_ &&& (255 : Int32))), .val (.int 1)] [(.int ((x1_ &&& (255 : Int32)).toUInt32.toUInt16.toUInt32.toInt32)), (.ref b394)])) rfl (by rw [hml]; rfl) (Steps.refl _) (argsL := [(.int ((x1_ &&& (255 : Int32)).toUInt32.toUInt16.toUInt32.toInt32))]) (rest := []) (lenOf pd_15 rfl) rfl (by show 2 * 0 + _ ≤ _; exact Nat.le_of_eq rfl) (hb hby d1_124) (fun _ _ => ⟨rfl, e449, (by decide : 5 + 1 ≤ _), (by decide : 61 + 18 ≤ _)⟩)
    dsimp only [Pt.U, Pt.locs, Pt.cells, Pt.slots] at X452 l452 y452 z452 st452 hQ452
    subst l452 y452 z452
    obtain ⟨t2_453, k2_454, N2_455, vs2_456, rfl, N452q, Kq452, P452_0, P452_1, P452_2, P452_3, P452_4, P452_5, P452_6, P452_7, P452_8, P452_9, P452_10⟩ := hQ452
    refine own_go (fun _ k => st452.trans k) ?_
    have N452 := Fr.app N449 N452q
    have V_a := V_a.keep Kq452 (ninS ne_a_b394 (ninS ne_a_tl nin0))
    have E_b394 := E_b394.keep Kq452
    clear F_b394_ASB_value
    clear F_b394_ASB_coder
    clear F_b394_ASB_count
    clear V_tl
    have E_tl := E_tl.keep Kq452
    have O := O.keep Kq452 (allS g_b394 (allS g_tl all0))
    have K457 := K449.trans Kq452 (allS (Or.inr sz_b394) (allS (Or.inr sz_tl) all0))
    have E_b394 := P452_3
    have F_b394_ASB_value := P452_4
    have F_b394_ASB_coder := P452_5
    have F_b394_ASB_count := P452_6
    have V_t2_453 := P452_7
    have E_t2_453 := P452_8
    have sz_t2_453 : h0.size ≤ t2_453 := P452_0.elim (fun q => by rw [q]; exact sz_tl) (fun q => Nat.le_trans K449.1 q)
    have ne_a_t2_453 : a ≠ t2_453 := P452_0.elim (fun q => by rw [q]; exact ne_a_tl) (fun q => Nat.ne_of_lt (Nat.lt_of_lt_of_le lt_a451.lt q))
    show own_Fin p e below (T452.setTop (mkF m 127 #[.val (.ref a), .val (.ref b394), .val (.ref a), .val (.int 3), .val (.int 1), .val (.int x1_), .val (.int (x1_ &&& (255 : Int32))), .val (.int 1)] [(.ref b394)])) _
    refine own_go (fun _ k => XS.pop X452.here hx rfl (hb hby d1_127) rfl rfl (XS.goto X452.here hx rfl (pc0 := 128) (pc' := 161) rfl (hb hby d1_128) (by decide) (by decide) (XS.iinc X452.here hx rfl (hb hby d1_161) rfl (l' := #[.val (.ref a), .val (.ref b394), .val (.ref a), .val (.int 3), .val (.int 2), .val (.int x1_), .val (.int (x1_ &&& (255 : Int32))), .val (.int 1)]) rfl (XS.goto X452.here hx rfl (pc0 := 164) (pc' := 18) rfl (hb hby d1_164) (by decide) (by decide) (XS.iload X452.here hx rfl (hb hby d1_18) rfl (XS.iloadN X452.here hx rfl (hb hby d1_20) rfl k)))))) ?_
    show own_Fin p e below (T452.setTop (mkF m 21 #[.val (.ref a), .val (.ref b394), .val (.ref a), .val (.int 3), .val (.int 2), .val (.int x1_), .val (.int (x1_ &&& (255 : Int32))), .val (.int 1)] [(.int 3), (.int 2)])) _
    exact lp2 _ _ _ t2_453 k2_454 _ _ _ _ _ _ (X452.more (by decide) (by decide)) rfl N452 O K457 V_a E_b394 F_b394_ASB_value F_b394_ASB_coder F_b394_ASB_count V_t2_453 E_t2_453 (One.val rfl) (One.val rfl) (One.val rfl) P452_1 sz_t2_453 ne_a_t2_453 P452_2 P452_9 (own_jn1T hsU htkl P452_10) (own_jc1T hsU hcl (own_lb1 _))
   ·rw [own_bi0 hsU] at hf; subst hf
    show own_Fin p e below (T449.setTop (mkF m 115 #[.val (.ref a), .val (.ref b394), .val (.ref a), .val (.int 3), .val (.int 1), .val (.int x1_), .val (.int (x1_ &&& (255 : Int32))), .val (.int 0)] [])) _
    refine own_go (fun _ k => XS.iload X449.here hx rfl (hb hby d1_115) rfl (XS.ifYes X449.here hx rfl (pc0 := 117) (pc' := 131) rfl (hb hby d1_117) rfl ((if0 _ _).trans (teq (by decide : (0 : Int32) = (0 : Int32))).1) (by decide) (by decide) (XS.aloadN X449.here hx rfl (hb hby d1_131) rfl rfl (XS.bipush X449.here hx rfl (hb hby d1_132) k)))) ?_
    show own_Fin p e below (T449.setTop (mkF m 134 #[.val (.ref a), .val (.ref b394), .val (.ref a), .val (.int 3), .val (.int 1), .val (.int x1_), .val (.int (x1_ &&& (255 : Int32))), .val (.int 0)] [(.int 37), (.ref b394)])) _
    have lt_a458 := V_a
    obtain ⟨cq459, kq459, q459a, q459b, q459c⟩ := isOf hZ e449 E_b394
    obtain ⟨_, _, ⟨T459, L459, k459, n459⟩, -, X459, ⟨Lc459, hQ459, l459, y459, z459⟩, st459⟩ := X449.virtualBack hx (y := (⟨"java/lang/StringBuilder", "append", "(C)Ljava/lang/StringBuilder;"⟩ : MethodName)) (z := (⟨"java/lang/StringBuilder", "append", "(C)Ljava/lang/StringBuilder;"⟩ : MethodName)) hown (mvT hZ (ow hw 90)) (mvT hZ (ow hw 91)) (notFace_of_selects (args := #[]) (mvT hZ (ow hw 93))) (mvT hZ (ow hw 93)) (mvT hZ (ow hw 92)) (by decide) (backOf (W := 0) (sap l Z a0 hw [] b394 (37 : Int32) z tl kl Nl vl cl h449 n0 O S_String_COMPACT_STRINGS hz E_b394 F_b394_ASB_value F_b394_ASB_coder F_b394_ASB_count V_tl E_tl g_b394 g_tl ne_b_tl (by decide) hokl (own_h8a hcl (own_lb1 _))) hZ (ow hw 94) (ow hw 7) (by decide) (by decide)) q459a q459c (g := (mkF m 134 #[.val (.ref a), .val (.ref b394), .val (.ref a), .val (.int 3), .val (.int 1), .val (.int x1_), .val (.int (x1_ &&& (255 : Int32))), .val (.int 0)] [(.int 37), (.ref b394)])) rfl (by rw [hml]; rfl) (Steps.refl _) (argsL := [(.int 37)]) (rest := []) (lenOf pd_15 rfl) rfl (by show 2 * 0 + _ ≤ _; exact Nat.le_of_eq rfl) (hb hby d1_134) (fun _ _ => ⟨rfl, e449, (by decide : 5 + 1 ≤ _), (by decide : 61 + 18 ≤ _)⟩)
    dsimp only [Pt.U, Pt.locs, Pt.cells, Pt.slots] at X459 l459 y459 z459 st459 hQ459
    subst l459 y459 z459
    obtain ⟨t2_460, k2_461, N2_462, vs2_463, rfl, N459q, Kq459, P459_0, P459_1, P459_2, P459_3, P459_4, P459_5, P459_6, P459_7, P459_8, P459_9, P459_10⟩ := hQ459
    refine own_go (fun _ k => st459.trans k) ?_
    have N459 := Fr.app N449 N459q
    have V_a := V_a.keep Kq459 (ninS ne_a_b394 (ninS ne_a_tl nin0))
    have E_b394 := E_b394.keep Kq459
    clear F_b394_ASB_value
    clear F_b394_ASB_coder
    clear F_b394_ASB_count
    clear V_tl
    have E_tl := E_tl.keep Kq459
    have O := O.keep Kq459 (allS g_b394 (allS g_tl all0))
    have K464 := K449.trans Kq459 (allS (Or.inr sz_b394) (allS (Or.inr sz_tl) all0))
    have E_b394 := P459_3
    have F_b394_ASB_value := P459_4
    have F_b394_ASB_coder := P459_5
    have F_b394_ASB_count := P459_6
    have V_t2_460 := P459_7
    have E_t2_460 := P459_8
    have sz_t2_460 : h0.size ≤ t2_460 := P459_0.elim (fun q => by rw [q]; exact sz_tl) (fun q => Nat.le_trans K449.1 q)
    have ne_a_t2_460 : a ≠ t2_460 := P459_0.elim (fun q => by rw [q]; exact ne_a_tl) (fun q => Nat.ne_of_lt (Nat.lt_of_lt_of_le lt_a458.lt q))
    show own_Fin p e below (T459.setTop (mkF m 137 #[.val (.ref a), .val (.ref b394), .val (.ref a), .val (.int 3), .val (.int 1), .val (.int x1_), .val (.int (x1_ &&& (255 : Int32))), .val (.int 0)] [(.ref b394)])) _
    obtain ⟨T465, X465, e465, st465⟩ := getS2 X459 hx hZ hown (host := "") (Or.inl (ow hw 109)) Via.refl rfl (S_Uris_HEX.ext O.2) (g := (mkF m 137 #[.val (.ref a), .val (.ref b394), .val (.ref a), .val (.int 3), .val (.int 1), .val (.int x1_), .val (.int (x1_ &&& (255 : Int32))), .val (.int 0)] [(.ref b394)])) rfl (hb hby d1_137)
    refine own_go (fun _ k => st465 _ k) ?_
    show own_Fin p e below (T465.setTop (mkF m 140 #[.val (.ref a), .val (.ref b394), .val (.ref a), .val (.int 3), .val (.int 1), .val (.int x1_), .val (.int (x1_ &&& (255 : Int32))), .val (.int 0)] [(.ref hxa), (.ref b394)])) _
    refine own_go (fun _ k => XS.iload X465.here hx rfl (hb hby d1_140) rfl (XS.iconst X465.here hx rfl (hb hby d1_142) (XS.ishr X465.here hx rfl (hb hby d1_143) rfl k))) ?_
    show own_Fin p e below (T465.setTop (mkF m 144 #[.val (.ref a), .val (.ref b394), .val (.ref a), .val (.int 3), .val (.int 1), .val (.int x1_), .val (.int (x1_ &&& (255 : Int32))), .val (.int 0)] [(.int ((x1_ &&& (255 : Int32)) >>> ((4 : Int32) &&& 31))), (.ref hxa), (.ref b394)])) _
    obtain ⟨cl466, A466, q466, S466, M466, H466, G466⟩ := id (V_hxa.ext O.2)
    have hin466 : ¬ (((x1_ &&& (255 : Int32)) >>> ((4 : Int32) &&& 31)) < 0 ∨ cl466.slots.size ≤ (((x1_ &&& (255 : Int32)) >>> ((4 : Int32) &&& 31))).toNatClampNeg) := inb_of S466 (own_in16 _)
    have hat466 : cl466.slots[(((x1_ &&& (255 : Int32)) >>> ((4 : Int32) &&& 31))).toNatClampNeg]? = some (.int (own_hv ((x1_ &&& (255 : Int32)) >>> ((4 : Int32) &&& 31)))) := Has.at H466 hin466 (own_hget _)
    refine own_go (fun _ k => X465.caload hx (j := ((x1_ &&& (255 : Int32)) >>> ((4 : Int32) &&& 31))) (v := (.int (own_hv ((x1_ &&& (255 : Int32)) >>> ((4 : Int32) &&& 31))))) (own_eqE e465 A466.1) (State.isArrayOf_alike hZ.alike A466.2.1) A466.2.2 hin466 hat466 (g := (mkF m 144 #[.val (.ref a), .val (.ref b394), .val (.ref a), .val (.int 3), .val (.int 1), .val (.int x1_), .val (.int (x1_ &&& (255 : Int32))), .val (.int 0)] [(.int ((x1_ &&& (255 : Int32)) >>> ((4 : Int32) &&& 31))), (.ref hxa), (.ref b394)])) rfl rfl (hb hby d1_144) _ k) ?_
    show own_Fin p e below (T465.setTop (mkF m 145 #[.val (.ref a), .val (.ref b394), .val (.ref a), .val (.int 3), .val (.int 1), .val (.int x1_), .val (.int (x1_ &&& (255 : Int32))), .val (.int 0)] [(.int (own_hv ((x1_ &&& (255 : Int32)) >>> ((4 : Int32) &&& 31)))), (.ref b394)])) _
    have lt_a467 := V_a
    obtain ⟨cq468, kq468, q468a, q468b, q468c⟩ := isOf hZ e465 E_b394
    obtain ⟨_, _, ⟨T468, L468, k468, n468⟩, -, X468, ⟨Lc468, hQ468, l468, y468, z468⟩, st468⟩ := X465.virtualBack hx (y := (⟨"java/lang/StringBuilder", "append", "(C)Ljava/lang/StringBuilder;"⟩ : MethodName)) (z := (⟨"java/lang/StringBuilder", "append", "(C)Ljava/lang/StringBuilder;"⟩ : MethodName)) hown (mvT hZ (ow hw 90)) (mvT hZ (ow hw 91)) (notFace_of_selects (args := #[]) (mvT hZ (ow hw 93))) (mvT hZ (ow hw 93)) (mvT hZ (ow hw 92)) (by decide) (backOf (W := 0) (sap l Z a0 hw [] b394 (own_hv ((x1_ &&& (255 : Int32)) >>> ((4 : Int32) &&& 31))) z t2_460 k2_461 N2_462 vs2_463 (cl + (1 : Int32)) (T459.heap) n0 O S_String_COMPACT_STRINGS hz E_b394 F_b394_ASB_value F_b394_ASB_coder F_b394_ASB_count V_t2_460 E_t2_460 g_b394 P459_1 P459_2 (own_hv255 _) P459_9 (own_h8b hcl (own_lb1 _))) hZ (ow hw 94) (ow hw 7) (by decide) (by decide)) q468a q468c (g := (mkF m 145 #[.val (.ref a), .val (.ref b394), .val (.ref a), .val (.int 3), .val (.int 1), .val (.int x1_), .val (.int (x1_ &&& (255 : Int32))), .val (.int 0)] [(.int (own_hv ((x1_ &&& (255 : Int32)) >>> ((4 : Int32) &&& 31)))), (.ref b394)])) rfl (by rw [hml]; rfl) (Steps.refl _) (argsL := [(.int (own_hv ((x1_ &&& (255 : Int32)) >>> ((4 : Int32) &&& 31))))]) (rest := []) (lenOf pd_15 rfl) rfl (by show 2 * 0 + _ ≤ _; exact Nat.le_of_eq rfl) (hb hby d1_145) (fun _ _ => ⟨rfl, e465, (by decide : 6 + 1 ≤ _), (by decide : 79 + 18 ≤ _)⟩)
    dsimp only [Pt.U, Pt.locs, Pt.cells, Pt.slots] at X468 l468 y468 z468 st468 hQ468
    subst l468 y468 z468
    obtain ⟨t2_469, k2_470, N2_471, vs2_472, rfl, N468q, Kq468, P468_0, P468_1, P468_2, P468_3, P468_4, P468_5, P468_6, P468_7, P468_8, P468_9, P468_10⟩ := hQ468
    refine own_go (fun _ k => st468.trans k) ?_
    have N468 := Fr.app N459 N468q
    have V_a := V_a.keep Kq468 (ninS ne_a_b394 (ninS ne_a_t2_460 nin0))
    have E_b394 := E_b394.keep Kq468
    clear F_b394_ASB_value
    clear F_b394_ASB_coder
    clear F_b394_ASB_count
    clear V_t2_460
    have E_t2_460 := E_t2_460.keep Kq468
    have O := O.keep Kq468 (allS g_b394 (allS P459_1 all0))
    have K473 := K464.trans Kq468 (allS (Or.inr sz_b394) (allS (Or.inr sz_t2_460) all0))
    have E_b394 := P468_3
    have F_b394_ASB_value := P468_4
    have F_b394_ASB_coder := P468_5
    have F_b394_ASB_count := P468_6
    have V_t2_469 := P468_7
    have E_t2_469 := P468_8
    have sz_t2_469 : h0.size ≤ t2_469 := P468_0.elim (fun q => by rw [q]; exact sz_t2_460) (fun q => Nat.le_trans K464.1 q)
    have ne_a_t2_469 : a ≠ t2_469 := P468_0.elim (fun q => by rw [q]; exact ne_a_t2_460) (fun q => Nat.ne_of_lt (Nat.lt_of_lt_of_le lt_a467.lt q))
    show own_Fin p e below (T468.setTop (mkF m 148 #[.val (.ref a), .val (.ref b394), .val (.ref a), .val (.int 3), .val (.int 1), .val (.int x1_), .val (.int (x1_ &&& (255 : Int32))), .val (.int 0)] [(.ref b394)])) _
    obtain ⟨T474, X474, e474, st474⟩ := getS2 X468 hx hZ hown (host := "") (Or.inl (ow hw 109)) Via.refl rfl (S_Uris_HEX.ext O.2) (g := (mkF m 148 #[.val (.ref a), .val (.ref b394), .val (.ref a), .val (.int 3), .val (.int 1), .val (.int x1_), .val (.int (x1_ &&& (255 : Int32))), .val (.int 0)] [(.ref b394)])) rfl (hb hby d1_148)
    refine own_go (fun _ k => st474 _ k) ?_
    show own_Fin p e below (T474.setTop (mkF m 151 #[.val (.ref a), .val (.ref b394), .val (.ref a), .val (.int 3), .val (.int 1), .val (.int x1_), .val (.int (x1_ &&& (255 : Int32))), .val (.int 0)] [(.ref hxa), (.ref b394)])) _
    refine own_go (fun _ k => XS.iload X474.here hx rfl (hb hby d1_151) rfl (XS.bipush X474.here hx rfl (hb hby d1_153) (XS.iand X474.here hx rfl (hb hby d1_155) rfl k))) ?_
    show own_Fin p e below (T474.setTop (mkF m 156 #[.val (.ref a), .val (.ref b394), .val (.ref a), .val (.int 3), .val (.int 1), .val (.int x1_), .val (.int (x1_ &&& (255 : Int32))), .val (.int 0)] [(.int ((x1_ &&& (255 : Int32)) &&& (15 : Int32))), (.ref hxa), (.ref b394)])) _
    obtain ⟨cl475, A475, q475, S475, M475, H475, G475⟩ := id (V_hxa.ext O.2)
    have hin475 : ¬ (((x1_ &&& (255 : Int32)) &&& (15 : Int32)) < 0 ∨ cl475.slots.size ≤ (((x1_ &&& (255 : Int32)) &&& (15 : Int32))).toNatClampNeg) := inb_of S475 (own_lo16 _)
    have hat475 : cl475.slots[(((x1_ &&& (255 : Int32)) &&& (15 : Int32))).toNatClampNeg]? = some (.int (own_hv ((x1_ &&& (255 : Int32)) &&& (15 : Int32)))) := Has.at H475 hin475 (own_hget _)
    refine own_go (fun _ k => X474.caload hx (j := ((x1_ &&& (255 : Int32)) &&& (15 : Int32))) (v := (.int (own_hv ((x1_ &&& (255 : Int32)) &&& (15 : Int32))))) (own_eqE e474 A475.1) (State.isArrayOf_alike hZ.alike A475.2.1) A475.2.2 hin475 hat475 (g := (mkF m 156 #[.val (.ref a), .val (.ref b394), .val (.ref a), .val (.int 3), .val (.int 1), .val (.int x1_), .val (.int (x1_ &&& (255 : Int32))), .val (.int 0)] [(.int ((x1_ &&& (255 : Int32)) &&& (15 : Int32))), (.ref hxa), (.ref b394)])) rfl rfl (hb hby d1_156) _ k) ?_
    show own_Fin p e below (T474.setTop (mkF m 157 #[.val (.ref a), .val (.ref b394), .val (.ref a), .val (.int 3), .val (.int 1), .val (.int x1_), .val (.int (x1_ &&& (255 : Int32))), .val (.int 0)] [(.int (own_hv ((x1_ &&& (255 : Int32)) &&& (15 : Int32)))), (.ref b394)])) _
    have lt_a476 := V_a
    obtain ⟨cq477, kq477, q477a, q477b, q477c⟩ := isOf hZ e474 E_b394
    obtain ⟨_, _, ⟨T477, L477, k477, n477⟩, -, X477, ⟨Lc477, hQ477, l477, y477, z477⟩, st477⟩ := X474.virtualBack hx (y := (⟨"java/lang/StringBuilder", "append", "(C)Ljava/lang/StringBuilder;"⟩ : MethodName)) (z := (⟨"java/lang/StringBuilder", "append", "(C)Ljava/lang/StringBuilder;"⟩ : MethodName)) hown (mvT hZ (ow hw 90)) (mvT hZ (ow hw 91)) (notFace_of_selects (args := #[]) (mvT hZ (ow hw 93))) (mvT hZ (ow hw 93)) (mvT hZ (ow hw 92)) (by decide) (backOf (W := 0) (sap l Z a0 hw [] b394 (own_hv ((x1_ &&& (255 : Int32)) &&& (15 : Int32))) z t2_469 k2_470 N2_471 vs2_472 ((cl + (1 : Int32)) + (1 : Int32)) (T468.heap) n0 O S_String_COMPACT_STRINGS hz E_b394 F_b394_ASB_value F_b394_ASB_coder F_b394_ASB_count V_t2_469 E_t2_469 g_b394 P468_1 P468_2 (own_hv255 _) P468_9 (own_h8c hcl (own_lb1 _))) hZ (ow hw 94) (ow hw 7) (by decide) (by decide)) q477a q477c (g := (mkF m 157 #[.val (.ref a), .val (.ref b394), .val (.ref a), .val (.int 3), .val (.int 1), .val (.int x1_), .val (.int (x1_ &&& (255 : Int32))), .val (.int 0)] [(.int (own_hv ((x1_ &&& (255 : Int32)) &&& (15 : Int32)))), (.ref b394)])) rfl (by rw [hml]; rfl) (Steps.refl _) (argsL := [(.int (own_hv ((x1_ &&& (255 : Int32)) &&& (15 : Int32))))]) (rest := []) (lenOf pd_15 rfl) rfl (by show 2 * 0 + _ ≤ _; exact Nat.le_of_eq rfl) (hb hby d1_157) (fun _ _ => ⟨rfl, e474, (by decide : 7 + 1 ≤ _), (by decide : 97 + 18 ≤ _)⟩)
    dsimp only [Pt.U, Pt.locs, Pt.cells, Pt.slots] at X477 l477 y477 z477 st477 hQ477
    subst l477 y477 z477
    obtain ⟨t2_478, k2_479, N2_480, vs2_481, rfl, N477q, Kq477, P477_0, P477_1, P477_2, P477_3, P477_4, P477_5, P477_6, P477_7, P477_8, P477_9, P477_10⟩ := hQ477
    refine own_go (fun _ k => st477.trans k) ?_
    have N477 := Fr.app N468 N477q
    have V_a := V_a.keep Kq477 (ninS ne_a_b394 (ninS ne_a_t2_469 nin0))
    have E_b394 := E_b394.keep Kq477
    clear F_b394_ASB_value
    clear F_b394_ASB_coder
    clear F_b394_ASB_count
    clear V_t2_469
    have E_t2_469 := E_t2_469.keep Kq477
    have O := O.keep Kq477 (allS g_b394 (allS P468_1 all0))
    have K482 := K473.trans Kq477 (allS (Or.inr sz_b394) (allS (Or.inr sz_t2_469) all0))
    have E_b394 := P477_3
    have F_b394_ASB_value := P477_4
    have F_b394_ASB_coder := P477_5
    have F_b394_ASB_count := P477_6
    have V_t2_478 := P477_7
    have E_t2_478 := P477_8
    have sz_t2_478 : h0.size ≤ t2_478 := P477_0.elim (fun q => by rw [q]; exact sz_t2_469) (fun q => Nat.le_trans K473.1 q)
    have ne_a_t2_478 : a ≠ t2_478 := P477_0.elim (fun q => by rw [q]; exact ne_a_t2_469) (fun q => Nat.ne_of_lt (Nat.lt_of_lt_of_le lt_a476.lt q))
    show own_Fin p e below (T477.setTop (mkF m 160 #[.val (.ref a), .val (.ref b394), .val (.ref a), .val (.int 3), .val (.int 1), .val (.int x1_), .val (.int (x1_ &&& (255 : Int32))), .val (.int 0)] [(.ref b394)])) _
    refine own_go (fun _ k => XS.pop X477.here hx rfl (hb hby d1_160) rfl rfl (XS.iinc X477.here hx rfl (hb hby d1_161) rfl (l' := #[.val (.ref a), .val (.ref b394), .val (.ref a), .val (.int 3), .val (.int 2), .val (.int x1_), .val (.int (x1_ &&& (255 : Int32))), .val (.int 0)]) rfl (XS.goto X477.here hx rfl (pc0 := 164) (pc' := 18) rfl (hb hby d1_164) (by decide) (by decide) (XS.iload X477.here hx rfl (hb hby d1_18) rfl (XS.iloadN X477.here hx rfl (hb hby d1_20) rfl k))))) ?_
    show own_Fin p e below (T477.setTop (mkF m 21 #[.val (.ref a), .val (.ref b394), .val (.ref a), .val (.int 3), .val (.int 2), .val (.int x1_), .val (.int (x1_ &&& (255 : Int32))), .val (.int 0)] [(.int 3), (.int 2)])) _
    exact lp2 _ _ _ t2_478 k2_479 _ _ _ _ _ _ X477 rfl N477 O K482 V_a E_b394 F_b394_ASB_value F_b394_ASB_coder F_b394_ASB_count V_t2_478 E_t2_478 (One.val rfl) (One.val rfl) (One.val rfl) P477_1 sz_t2_478 ne_a_t2_478 P477_2 P477_9 (own_jn1F hsU htkl P459_10 P468_10 P477_10) (own_jc1F hsU hcl (own_lb1 _))
  have hokl : own_ok (3 : Int32) [(.int 0), (.int 0), (.int 0)] (0 : Int32) := ⟨by decide, by decide, by decide, rfl⟩
  have htkl : List.take (0 : Int32).toNatClampNeg [(.int 0), (.int 0), (.int 0)] = ([] : List Value) := rfl
  have hcl : (0 : Int32) = Int32.ofNat ([] : List Value).length := rfl
  show own_Fin p e below (T397.setTop (mkF m 21 #[.val (.ref a), .val (.ref b394), .val (.ref a), .val (.int 3), .val (.int 0), .unset, .unset, .unset] [(.int 3), (.int 0)])) _
  refine own_go (fun _ k => XS.icmpNo X397.here hx rfl (hb hby d1_21) rfl (tlt (by decide : (0 : Int32) < (3 : Int32))).2.1 (XS.aloadN X397.here hx rfl (hb hby d1_24) rfl rfl (XS.iload X397.here hx rfl (hb hby d1_25) rfl k))) ?_
  show own_Fin p e below (T397.setTop (mkF m 27 #[.val (.ref a), .val (.ref b394), .val (.ref a), .val (.int 3), .val (.int 0), .unset, .unset, .unset] [(.int 0), (.ref a)])) _
  obtain ⟨cl483, A483, q483, S483, M483, H483, G483⟩ := id V_a
  have hin483 : ¬ ((0 : Int32) < 0 ∨ cl483.slots.size ≤ ((0 : Int32)).toNatClampNeg) := inb_of S483 ⟨by decide, by decide⟩
  have hat483 : cl483.slots[((0 : Int32)).toNatClampNeg]? = some (.int x0_) := Has.at H483 hin483 rfl
  refine own_go (fun _ k => X397.baloadBytes hx (j := (0 : Int32)) (v := (.int x0_)) (own_eqE rfl A483.1) (State.isArrayOf_alike hZ.alike A483.2.1) A483.2.2 hin483 hat483 (g := (mkF m 27 #[.val (.ref a), .val (.ref b394), .val (.ref a), .val (.int 3), .val (.int 0), .unset, .unset, .unset] [(.int 0), (.ref a)])) rfl rfl (hb hby d1_27) _ k) ?_
  show own_Fin p e below (T397.setTop (mkF m 28 #[.val (.ref a), .val (.ref b394), .val (.ref a), .val (.int 3), .val (.int 0), .unset, .unset, .unset] [(.int x0_)])) _
  refine own_go (fun _ k => XS.istore X397.here hx rfl (hb hby d1_28) rfl (l' := #[.val (.ref a), .val (.ref b394), .val (.ref a), .val (.int 3), .val (.int 0), .val (.int x0_), .unset, .unset]) rfl (XS.iload X397.here hx rfl (hb hby d1_30) rfl (XS.sipush X397.here hx rfl (hb hby d1_32) (XS.iand X397.here hx rfl (hb hby d1_35) rfl (XS.istore X397.here hx rfl (hb hby d1_36) rfl (l' := #[.val (.ref a), .val (.ref b394), .val (.ref a), .val (.int 3), .val (.int 0), .val (.int x0_), .val (.int (x0_ &&& (255 : Int32))), .unset]) rfl k))))) ?_
  show own_Fin p e below (T397.setTop (mkF m 38 #[.val (.ref a), .val (.ref b394), .val (.ref a), .val (.int 3), .val (.int 0), .val (.int x0_), .val (.int (x0_ &&& (255 : Int32))), .unset] [])) _
  refine chk _ _ _ _ X397 _ _ _ _ _ _ _ _ ?_
  intro f hf
  show own_Fin p e below (T397.setTop (mkF m 113 #[.val (.ref a), .val (.ref b394), .val (.ref a), .val (.int 3), .val (.int 0), .val (.int x0_), .val (.int (x0_ &&& (255 : Int32))), .unset] [(.int f)])) _
  refine own_go (fun _ k => XS.istore X397.here hx rfl (hb hby d1_113) rfl (l' := #[.val (.ref a), .val (.ref b394), .val (.ref a), .val (.int 3), .val (.int 0), .val (.int x0_), .val (.int (x0_ &&& (255 : Int32))), .val (.int f)]) rfl k) ?_
  show own_Fin p e below (T397.setTop (mkF m 115 #[.val (.ref a), .val (.ref b394), .val (.ref a), .val (.int 3), .val (.int 0), .val (.int x0_), .val (.int (x0_ &&& (255 : Int32))), .val (.int f)] [])) _
  by_cases hsU : own_unres (x0_ &&& (255 : Int32))
  ·rw [own_bi1 hsU] at hf; subst hf
   show own_Fin p e below (T397.setTop (mkF m 115 #[.val (.ref a), .val (.ref b394), .val (.ref a), .val (.int 3), .val (.int 0), .val (.int x0_), .val (.int (x0_ &&& (255 : Int32))), .val (.int 1)] [])) _
   refine own_go (fun _ k => XS.iload X397.here hx rfl (hb hby d1_115) rfl (XS.ifNo X397.here hx rfl (hb hby d1_117) rfl ((if0 _ _).trans (feq (by decide : ¬ ((1 : Int32) = (0 : Int32)))).1) (XS.aloadN X397.here hx rfl (hb hby d1_120) rfl rfl (XS.iload X397.here hx rfl (hb hby d1_121) rfl (XS.i2c X397.here hx rfl (hb hby d1_123) rfl k))))) ?_
   show own_Fin p e below (T397.setTop (mkF m 124 #[.val (.ref a), .val (.ref b394), .val (.ref a), .val (.int 3), .val (.int 0), .val (.int x0_), .val (.int (x0_ &&& (255 : Int32))), .val (.int 1)] [(.int ((x0_ &&& (255 : Int32)).toUInt32.toUInt16.toUInt32.toInt32)), (.ref b394)])) _
   have lt_a484 := V_a
   obtain ⟨cq485, kq485, q485a, q485b, q485c⟩ := isOf hZ rfl E_b394
   obtain ⟨_, _, ⟨T485, L485, k485, n485⟩, -, X485, ⟨Lc485, hQ485, l485, y485, z485⟩, st485⟩ := X397.virtualBack hx (y := (⟨"java/lang/StringBuilder", "append", "(C)Ljava/lang/StringBuilder;"⟩ : MethodName)) (z := (⟨"java/lang/StringBuilder", "append", "(C)Ljava/lang/StringBuilder;"⟩ : MethodName)) hown (mvT hZ (ow hw 90)) (mvT hZ (ow hw 91)) (notFace_of_selects (args := #[]) (mvT hZ (ow hw 93))) (mvT hZ (ow hw 93)) (mvT hZ (ow hw 92)) (by decide) (backOf (W := 0) (sap l Z a0 hw [] b394 ((x0_ &&& (255 : Int32)).toUInt32.toUInt16.toUInt32.toInt32) z t_398 k_399 (3 : Int32) [(.int 0), (.int 0), (.int 0)] (0 : Int32) (T397.heap) n0 O S_String_COMPACT_STRINGS hz E_b394 F_b394_ASB_value F_b394_ASB_coder F_b394_ASB_count V_t_398 E_t_398 g_b394 g_t_398 ne_b394_t_398 (own_c255 _) hokl (own_h8a hcl (own_lb0 ))) hZ (ow hw 94) (ow hw 7) (by decide) (by decide)) q485a q485c (g := (mkF m 124 #[.val (.ref a), .val (.ref b394), .val (.ref a), .val (.int 3), .val (.int 0), .val (.int x0_), .val (.int (x0_ &&& (255 : Int32))), .val (.int 1)] [(.int ((x0_ &&& (255 : Int32)).toUInt32.toUInt16.toUInt32.toInt32)), (.ref b394)])) rfl (by rw [hml]; rfl) (Steps.refl _) (argsL := [(.int ((x0_ &&& (255 : Int32)).toUInt32.toUInt16.toUInt32.toInt32))]) (rest := []) (lenOf pd_15 rfl) rfl (by show 2 * 0 + _ ≤ _; exact Nat.le_of_eq rfl) (hb hby d1_124) (fun _ _ => ⟨rfl, rfl, (by decide : 2 + 1 ≤ _), (by decide : 7 + 18 ≤ _)⟩)
   dsimp only [Pt.U, Pt.locs, Pt.cells, Pt.slots] at X485 l485 y485 z485 st485 hQ485
   subst l485 y485 z485
   obtain ⟨t2_486, k2_487, N2_488, vs2_489, rfl, N485q, Kq485, P485_0, P485_1, P485_2, P485_3, P485_4, P485_5, P485_6, P485_7, P485_8, P485_9, P485_10⟩ := hQ485
   refine own_go (fun _ k => st485.trans k) ?_
   have N485 := Fr.app N397 N485q
   have V_a := V_a.keep Kq485 (ninS ne_a_b394 (ninS ne_a_t_398 nin0))
   have E_b394 := E_b394.keep Kq485
   clear F_b394_ASB_value
   clear F_b394_ASB_coder
   clear F_b394_ASB_count
   clear V_t_398
   have E_t_398 := E_t_398.keep Kq485
   have O := O.keep Kq485 (allS g_b394 (allS g_t_398 all0))
   have K490 := K400.trans Kq485 (allS (Or.inr sz_b394) (allS (Or.inr sz_t_398) all0))
   have E_b394 := P485_3
   have F_b394_ASB_value := P485_4
   have F_b394_ASB_coder := P485_5
   have F_b394_ASB_count := P485_6
   have V_t2_486 := P485_7
   have E_t2_486 := P485_8
   have sz_t2_486 : h0.size ≤ t2_486 := P485_0.elim (fun q => by rw [q]; exact sz_t_398) (fun q => Nat.le_trans K400.1 q)
   have ne_a_t2_486 : a ≠ t2_486 := P485_0.elim (fun q => by rw [q]; exact ne_a_t_398) (fun q => Nat.ne_of_lt (Nat.lt_of_lt_of_le lt_a484.lt q))
   show own_Fin p e below (T485.setTop (mkF m 127 #[.val (.ref a), .val (.ref b394), .val (.ref a), .val (.int 3), .val (.int 0), .val (.int x0_), .val (.int (x0_ &&& (255 : Int32))), .val (.int 1)] [(.ref b394)])) _
   refine own_go (fun _ k => XS.pop X485.here hx rfl (hb hby d1_127) rfl rfl (XS.goto X485.here hx rfl (pc0 := 128) (pc' := 161) rfl (hb hby d1_128) (by decide) (by decide) (XS.iinc X485.here hx rfl (hb hby d1_161) rfl (l' := #[.val (.ref a), .val (.ref b394), .val (.ref a), .val (.int 3), .val (.int 1), .val (.int x0_), .val (.int (x0_ &&& (255 : Int32))), .val (.int 1)]) rfl (XS.goto X485.here hx rfl (pc0 := 164) (pc' := 18) rfl (hb hby d1_164) (by decide) (by decide) (XS.iload X485.here hx rfl (hb hby d1_18) rfl (XS.iloadN X485.here hx rfl (hb hby d1_20) rfl k)))))) ?_
   show own_Fin p e below (T485.setTop (mkF m 21 #[.val (.ref a), .val (.ref b394), .val (.ref a), .val (.int 3), .val (.int 1), .val (.int x0_), .val (.int (x0_ &&& (255 : Int32))), .val (.int 1)] [(.int 3), (.int 1)])) _
   exact lp1 _ _ _ t2_486 k2_487 _ _ _ _ _ _ (X485.more (by decide) (by decide)) rfl N485 O K490 V_a E_b394 F_b394_ASB_value F_b394_ASB_coder F_b394_ASB_count V_t2_486 E_t2_486 (One.val rfl) (One.val rfl) (One.val rfl) P485_1 sz_t2_486 ne_a_t2_486 P485_2 P485_9 (own_jn0T hsU htkl P485_10) (own_jc0T hsU hcl (own_lb0 ))
  ·rw [own_bi0 hsU] at hf; subst hf
   show own_Fin p e below (T397.setTop (mkF m 115 #[.val (.ref a), .val (.ref b394), .val (.ref a), .val (.int 3), .val (.int 0), .val (.int x0_), .val (.int (x0_ &&& (255 : Int32))), .val (.int 0)] [])) _
   refine own_go (fun _ k => XS.iload X397.here hx rfl (hb hby d1_115) rfl (XS.ifYes X397.here hx rfl (pc0 := 117) (pc' := 131) rfl (hb hby d1_117) rfl ((if0 _ _).trans (teq (by decide : (0 : Int32) = (0 : Int32))).1) (by decide) (by decide) (XS.aloadN X397.here hx rfl (hb hby d1_131) rfl rfl (XS.bipush X397.here hx rfl (hb hby d1_132) k)))) ?_
   show own_Fin p e below (T397.setTop (mkF m 134 #[.val (.ref a), .val (.ref b394), .val (.ref a), .val (.int 3), .val (.int 0), .val (.int x0_), .val (.int (x0_ &&& (255 : Int32))), .val (.int 0)] [(.int 37), (.ref b394)])) _
   have lt_a491 := V_a
   obtain ⟨cq492, kq492, q492a, q492b, q492c⟩ := isOf hZ rfl E_b394
   obtain ⟨_, _, ⟨T492, L492, k492, n492⟩, -, X492, ⟨Lc492, hQ492, l492, y492, z492⟩, st492⟩ := X397.virtualBack hx (y := (⟨"java/lang/StringBuilder", "append", "(C)Ljava/lang/StringBuilder;"⟩ : MethodName)) (z := (⟨"java/lang/StringBuilder", "append", "(C)Ljava/lang/StringBuilder;"⟩ : MethodName)) hown (mvT hZ (ow hw 90)) (mvT hZ (ow hw 91)) (notFace_of_selects (args := #[]) (mvT hZ (ow hw 93))) (mvT hZ (ow hw 93)) (mvT hZ (ow hw 92)) (by decide) (backOf (W := 0) (sap l Z a0 hw [] b394 (37 : Int32) z t_398 k_399 (3 : Int32) [(.int 0), (.int 0), (.int 0)] (0 : Int32) (T397.heap) n0 O S_String_COMPACT_STRINGS hz E_b394 F_b394_ASB_value F_b394_ASB_coder F_b394_ASB_count V_t_398 E_t_398 g_b394 g_t_398 ne_b394_t_398 (by decide) hokl (own_h8a hcl (own_lb0 ))) hZ (ow hw 94) (ow hw 7) (by decide) (by decide)) q492a q492c (g := (mkF m 134 #[.val (.ref a), .val (.ref b394), .val (.ref a), .val (.int 3), .val (.int 0), .val (.int x0_), .val (.int (x0_ &&& (255 : Int32))), .val (.int 0)] [(.int 37), (.ref b394)])) rfl (by rw [hml]; rfl) (Steps.refl _) (argsL := [(.int 37)]) (rest := []) (lenOf pd_15 rfl) rfl (by show 2 * 0 + _ ≤ _; exact Nat.le_of_eq rfl) (hb hby d1_134) (fun _ _ => ⟨rfl, rfl, (by decide : 2 + 1 ≤ _), (by decide : 7 + 18 ≤ _)⟩)
   dsimp only [Pt.U, Pt.locs, Pt.cells, Pt.slots] at X492 l492 y492 z492 st492 hQ492
   subst l492 y492 z492
   obtain ⟨t2_493, k2_494, N2_495, vs2_496, rfl, N492q, Kq492, P492_0, P492_1, P492_2, P492_3, P492_4, P492_5, P492_6, P492_7, P492_8, P492_9, P492_10⟩ := hQ492
   refine own_go (fun _ k => st492.trans k) ?_
   have N492 := Fr.app N397 N492q
   have V_a := V_a.keep Kq492 (ninS ne_a_b394 (ninS ne_a_t_398 nin0))
   have E_b394 := E_b394.keep Kq492
   clear F_b394_ASB_value
   clear F_b394_ASB_coder
   clear F_b394_ASB_count
   clear V_t_398
   have E_t_398 := E_t_398.keep Kq492
   have O := O.keep Kq492 (allS g_b394 (allS g_t_398 all0))
   have K497 := K400.trans Kq492 (allS (Or.inr sz_b394) (allS (Or.inr sz_t_398) all0))
   have E_b394 := P492_3
   have F_b394_ASB_value := P492_4
   have F_b394_ASB_coder := P492_5
   have F_b394_ASB_count := P492_6
   have V_t2_493 := P492_7
   have E_t2_493 := P492_8
   have sz_t2_493 : h0.size ≤ t2_493 := P492_0.elim (fun q => by rw [q]; exact sz_t_398) (fun q => Nat.le_trans K400.1 q)
   have ne_a_t2_493 : a ≠ t2_493 := P492_0.elim (fun q => by rw [q]; exact ne_a_t_398) (fun q => Nat.ne_of_lt (Nat.lt_of_lt_of_le lt_a491.lt q))
   show own_Fin p e below (T492.setTop (mkF m 137 #[.val (.ref a), .val (.ref b394), .val (.ref a), .val (.int 3), .val (.int 0), .val (.int x0_), .val (.int (x0_ &&& (255 : Int32))), .val (.int 0)] [(.ref b394)])) _
   obtain ⟨T498, X498, e498, st498⟩ := getS2 X492 hx hZ hown (host := "") (Or.inl (ow hw 109)) Via.refl rfl (S_Uris_HEX.ext O.2) (g := (mkF m 137 #[.val (.ref a), .val (.ref b394), .val (.ref a), .val (.int 3), .val (.int 0), .val (.int x0_), .val (.int (x0_ &&& (255 : Int32))), .val (.int 0)] [(.ref b394)])) rfl (hb hby d1_137)
   refine own_go (fun _ k => st498 _ k) ?_
   show own_Fin p e below (T498.setTop (mkF m 140 #[.val (.ref a), .val (.ref b394), .val (.ref a), .val (.int 3), .val (.int 0), .val (.int x0_), .val (.int (x0_ &&& (255 : Int32))), .val (.int 0)] [(.ref hxa), (.ref b394)])) _
   refine own_go (fun _ k => XS.iload X498.here hx rfl (hb hby d1_140) rfl (XS.iconst X498.here hx rfl (hb hby d1_142) (XS.ishr X498.here hx rfl (hb hby d1_143) rfl k))) ?_
   show own_Fin p e below (T498.setTop (mkF m 144 #[.val (.ref a), .val (.ref b394), .val (.ref a), .val (.int 3), .val (.int 0), .val (.int x0_), .val (.int (x0_ &&& (255 : Int32))), .val (.int 0)] [(.int ((x0_ &&& (255 : Int32)) >>> ((4 : Int32) &&& 31))), (.ref hxa), (.ref b394)])) _
   obtain ⟨cl499, A499, q499, S499, M499, H499, G499⟩ := id (V_hxa.ext O.2)
   have hin499 : ¬ (((x0_ &&& (255 : Int32)) >>> ((4 : Int32) &&& 31)) < 0 ∨ cl499.slots.size ≤ (((x0_ &&& (255 : Int32)) >>> ((4 : Int32) &&& 31))).toNatClampNeg) := inb_of S499 (own_in16 _)
   have hat499 : cl499.slots[(((x0_ &&& (255 : Int32)) >>> ((4 : Int32) &&& 31))).toNatClampNeg]? = some (.int (own_hv ((x0_ &&& (255 : Int32)) >>> ((4 : Int32) &&& 31)))) := Has.at H499 hin499 (own_hget _)
   refine own_go (fun _ k => X498.caload hx (j := ((x0_ &&& (255 : Int32)) >>> ((4 : Int32) &&& 31))) (v := (.int (own_hv ((x0_ &&& (255 : Int32)) >>> ((4 : Int32) &&& 31))))) (own_eqE e498 A499.1) (State.isArrayOf_alike hZ.alike A499.2.1) A499.2.2 hin499 hat499 (g := (mkF m 144 #[.val (.ref a), .val (.ref b394), .val (.ref a), .val (.int 3), .val (.int 0), .val (.int x0_), .val (.int (x0_ &&& (255 : Int32))), .val (.int 0)] [(.int ((x0_ &&& (255 : Int32)) >>> ((4 : Int32) &&& 31))), (.ref hxa), (.ref b394)])) rfl rfl (hb hby d1_144) _ k) ?_
   show own_Fin p e below (T498.setTop (mkF m 145 #[.val (.ref a), .val (.ref b394), .val (.ref a), .val (.int 3), .val (.int 0), .val (.int x0_), .val (.int (x0_ &&& (255 : Int32))), .val (.int 0)] [(.int (own_hv ((x0_ &&& (255 : Int32)) >>> ((4 : Int32) &&& 31)))), (.ref b394)])) _
   have lt_a500 := V_a
   obtain ⟨cq501, kq501, q501a, q501b, q501c⟩ := isOf hZ e498 E_b394
   obtain ⟨_, _, ⟨T501, L501, k501, n501⟩, -, X501, ⟨Lc501, hQ501, l501, y501, z501⟩, st501⟩ := X498.virtualBack hx (y := (⟨"java/lang/StringBuilder", "append", "(C)Ljava/lang/StringBuilder;"⟩ : MethodName)) (z := (⟨"java/lang/StringBuilder", "append", "(C)Ljava/lang/StringBuilder;"⟩ : MethodName)) hown (mvT hZ (ow hw 90)) (mvT hZ (ow hw 91)) (notFace_of_selects (args := #[]) (mvT hZ (ow hw 93))) (mvT hZ (ow hw 93)) (mvT hZ (ow hw 92)) (by decide) (backOf (W := 0) (sap l Z a0 hw [] b394 (own_hv ((x0_ &&& (255 : Int32)) >>> ((4 : Int32) &&& 31))) z t2_493 k2_494 N2_495 vs2_496 ((0 : Int32) + (1 : Int32)) (T492.heap) n0 O S_String_COMPACT_STRINGS hz E_b394 F_b394_ASB_value F_b394_ASB_coder F_b394_ASB_count V_t2_493 E_t2_493 g_b394 P492_1 P492_2 (own_hv255 _) P492_9 (own_h8b hcl (own_lb0 ))) hZ (ow hw 94) (ow hw 7) (by decide) (by decide)) q501a q501c (g := (mkF m 145 #[.val (.ref a), .val (.ref b394), .val (.ref a), .val (.int 3), .val (.int 0), .val (.int x0_), .val (.int (x0_ &&& (255 : Int32))), .val (.int 0)] [(.int (own_hv ((x0_ &&& (255 : Int32)) >>> ((4 : Int32) &&& 31)))), (.ref b394)])) rfl (by rw [hml]; rfl) (Steps.refl _) (argsL := [(.int (own_hv ((x0_ &&& (255 : Int32)) >>> ((4 : Int32) &&& 31))))]) (rest := []) (lenOf pd_15 rfl) rfl (by show 2 * 0 + _ ≤ _; exact Nat.le_of_eq rfl) (hb hby d1_145) (fun _ _ => ⟨rfl, e498, (by decide : 3 + 1 ≤ _), (by decide : 25 + 18 ≤ _)⟩)
   dsimp only [Pt.U, Pt.locs, Pt.cells, Pt.slots] at X501 l501 y501 z501 st501 hQ501
   subst l501 y501 z501
   obtain ⟨t2_502, k2_503, N2_504, vs2_505, rfl, N501q, Kq501, P501_0, P501_1, P501_2, P501_3, P501_4, P501_5, P501_6, P501_7, P501_8, P501_9, P501_10⟩ := hQ501
   refine own_go (fun _ k => st501.trans k) ?_
   have N501 := Fr.app N492 N501q
   have V_a := V_a.keep Kq501 (ninS ne_a_b394 (ninS ne_a_t2_493 nin0))
   have E_b394 := E_b394.keep Kq501
   clear F_b394_ASB_value
   clear F_b394_ASB_coder
   clear F_b394_ASB_count
   clear V_t2_493
   have E_t2_493 := E_t2_493.keep Kq501
   have O := O.keep Kq501 (allS g_b394 (allS P492_1 all0))
   have K506 := K497.trans Kq501 (allS (Or.inr sz_b394) (allS (Or.inr sz_t2_493) all0))
   have E_b394 := P501_3
   have F_b394_ASB_value := P501_4
   have F_b394_ASB_coder := P501_5
   have F_b394_ASB_count := P501_6
   have V_t2_502 := P501_7
   have E_t2_502 := P501_8
   have sz_t2_502 : h0.size ≤ t2_502 := P501_0.elim (fun q => by rw [q]; exact sz_t2_493) (fun q => Nat.le_trans K497.1 q)
   have ne_a_t2_502 : a ≠ t2_502 := P501_0.elim (fun q => by rw [q]; exact ne_a_t2_493) (fun q => Nat.ne_of_lt (Nat.lt_of_lt_of_le lt_a500.lt q))
   show own_Fin p e below (T501.setTop (mkF m 148 #[.val (.ref a), .val (.ref b394), .val (.ref a), .val (.int 3), .val (.int 0), .val (.int x0_), .val (.int (x0_ &&& (255 : Int32))), .val (.int 0)] [(.ref b394)])) _
   obtain ⟨T507, X507, e507, st507⟩ := getS2 X501 hx hZ hown (host := "") (Or.inl (ow hw 109)) Via.refl rfl (S_Uris_HEX.ext O.2) (g := (mkF m 148 #[.val (.ref a), .val (.ref b394), .val (.ref a), .val (.int 3), .val (.int 0), .val (.int x0_), .val (.int (x0_ &&& (255 : Int32))), .val (.int 0)] [(.ref b394)])) rfl (hb hby d1_148)
   refine own_go (fun _ k => st507 _ k) ?_
   show own_Fin p e below (T507.setTop (mkF m 151 #[.val (.ref a), .val (.ref b394), .val (.ref a), .val (.int 3), .val (.int 0), .val (.int x0_), .val (.int (x0_ &&& (255 : Int32))), .val (.int 0)] [(.ref hxa), (.ref b394)])) _
   refine own_go (fun _ k => XS.iload X507.here hx rfl (hb hby d1_151) rfl (XS.bipush X507.here hx rfl (hb hby d1_153) (XS.iand X507.here hx rfl (hb hby d1_155) rfl k))) ?_
   show own_Fin p e below (T507.setTop (mkF m 156 #[.val (.ref a), .val (.ref b394), .val (.ref a), .val (.int 3), .val (.int 0), .val (.int x0_), .val (.int (x0_ &&& (255 : Int32))), .val (.int 0)] [(.int ((x0_ &&& (255 : Int32)) &&& (15 : Int32))), (.ref hxa), (.ref b394)])) _
   obtain ⟨cl508, A508, q508, S508, M508, H508, G508⟩ := id (V_hxa.ext O.2)
   have hin508 : ¬ (((x0_ &&& (255 : Int32)) &&& (15 : Int32)) < 0 ∨ cl508.slots.size ≤ (((x0_ &&& (255 : Int32)) &&& (15 : Int32))).toNatClampNeg) := inb_of S508 (own_lo16 _)
   have hat508 : cl508.slots[(((x0_ &&& (255 : Int32)) &&& (15 : Int32))).toNatClampNeg]? = some (.int (own_hv ((x0_ &&& (255 : Int32)) &&& (15 : Int32)))) := Has.at H508 hin508 (own_hget _)
   refine own_go (fun _ k => X507.caload hx (j := ((x0_ &&& (255 : Int32)) &&& (15 : Int32))) (v := (.int (own_hv ((x0_ &&& (255 : Int32)) &&& (15 : Int32))))) (own_eqE e507 A508.1) (State.isArrayOf_alike hZ.alike A508.2.1) A508.2.2 hin508 hat508 (g := (mkF m 156 #[.val (.ref a), .val (.ref b394), .val (.ref a), .val (.int 3), .val (.int 0), .val (.int x0_), .val (.int (x0_ &&& (255 : Int32))), .val (.int 0)] [(.int ((x0_ &&& (255 : Int32)) &&& (15 : Int32))), (.ref hxa), (.ref b394)])) rfl rfl (hb hby d1_156) _ k) ?_
   show own_Fin p e below (T507.setTop (mkF m 157 #[.val (.ref a), .val (.ref b394), .val (.ref a), .val (.int 3), .val (.int 0), .val (.int x0_), .val (.int (x0_ &&& (255 : Int32))), .val (.int 0)] [(.int (own_hv ((x0_ &&& (255 : Int32)) &&& (15 : Int32)))), (.ref b394)])) _
   have lt_a509 := V_a
   obtain ⟨cq510, kq510, q510a, q510b, q510c⟩ := isOf hZ e507 E_b394
   obtain ⟨_, _, ⟨T510, L510, k510, n510⟩, -, X510, ⟨Lc510, hQ510, l510, y510, z510⟩, st510⟩ := X507.virtualBack hx (y := (⟨"java/lang/StringBuilder", "append", "(C)Ljava/lang/StringBuilder;"⟩ : MethodName)) (z := (⟨"java/lang/StringBuilder", "append", "(C)Ljava/lang/StringBuilder;"⟩ : MethodName)) hown (mvT hZ (ow hw 90)) (mvT hZ (ow hw 91)) (notFace_of_selects (args := #[]) (mvT hZ (ow hw 93))) (mvT hZ (ow hw 93)) (mvT hZ (ow hw 92)) (by decide) (backOf (W := 0) (sap l Z a0 hw [] b394 (own_hv ((x0_ &&& (255 : Int32)) &&& (15 : Int32))) z t2_502 k2_503 N2_504 vs2_505 (((0 : Int32) + (1 : Int32)) + (1 : Int32)) (T501.heap) n0 O S_String_COMPACT_STRINGS hz E_b394 F_b394_ASB_value F_b394_ASB_coder F_b394_ASB_count V_t2_502 E_t2_502 g_b394 P501_1 P501_2 (own_hv255 _) P501_9 (own_h8c hcl (own_lb0 ))) hZ (ow hw 94) (ow hw 7) (by decide) (by decide)) q510a q510c (g := (mkF m 157 #[.val (.ref a), .val (.ref b394), .val (.ref a), .val (.int 3), .val (.int 0), .val (.int x0_), .val (.int (x0_ &&& (255 : Int32))), .val (.int 0)] [(.int (own_hv ((x0_ &&& (255 : Int32)) &&& (15 : Int32)))), (.ref b394)])) rfl (by rw [hml]; rfl) (Steps.refl _) (argsL := [(.int (own_hv ((x0_ &&& (255 : Int32)) &&& (15 : Int32))))]) (rest := []) (lenOf pd_15 rfl) rfl (by show 2 * 0 + _ ≤ _; exact Nat.le_of_eq rfl) (hb hby d1_157) (fun _ _ => ⟨rfl, e507, (by decide : 4 + 1 ≤ _), (by decide : 43 + 18 ≤ _)⟩)
   dsimp only [Pt.U, Pt.locs, Pt.cells, Pt.slots] at X510 l510 y510 z510 st510 hQ510
   subst l510 y510 z510
   obtain ⟨t2_511, k2_512, N2_513, vs2_514, rfl, N510q, Kq510, P510_0, P510_1, P510_2, P510_3, P510_4, P510_5, P510_6, P510_7, P510_8, P510_9, P510_10⟩ := hQ510
   refine own_go (fun _ k => st510.trans k) ?_
   have N510 := Fr.app N501 N510q
   have V_a := V_a.keep Kq510 (ninS ne_a_b394 (ninS ne_a_t2_502 nin0))
   have E_b394 := E_b394.keep Kq510
   clear F_b394_ASB_value
   clear F_b394_ASB_coder
   clear F_b394_ASB_count
   clear V_t2_502
   have E_t2_502 := E_t2_502.keep Kq510
   have O := O.keep Kq510 (allS g_b394 (allS P501_1 all0))
   have K515 := K506.trans Kq510 (allS (Or.inr sz_b394) (allS (Or.inr sz_t2_502) all0))
   have E_b394 := P510_3
   have F_b394_ASB_value := P510_4
   have F_b394_ASB_coder := P510_5
   have F_b394_ASB_count := P510_6
   have V_t2_511 := P510_7
   have E_t2_511 := P510_8
   have sz_t2_511 : h0.size ≤ t2_511 := P510_0.elim (fun q => by rw [q]; exact sz_t2_502) (fun q => Nat.le_trans K506.1 q)
   have ne_a_t2_511 : a ≠ t2_511 := P510_0.elim (fun q => by rw [q]; exact ne_a_t2_502) (fun q => Nat.ne_of_lt (Nat.lt_of_lt_of_le lt_a509.lt q))
   show own_Fin p e below (T510.setTop (mkF m 160 #[.val (.ref a), .val (.ref b394), .val (.ref a), .val (.int 3), .val (.int 0), .val (.int x0_), .val (.int (x0_ &&& (255 : Int32))), .val (.int 0)] [(.ref b394)])) _
   refine own_go (fun _ k => XS.pop X510.here hx rfl (hb hby d1_160) rfl rfl (XS.iinc X510.here hx rfl (hb hby d1_161) rfl (l' := #[.val (.ref a), .val (.ref b394), .val (.ref a), .val (.int 3), .val (.int 1), .val (.int x0_), .val (.int (x0_ &&& (255 : Int32))), .val (.int 0)]) rfl (XS.goto X510.here hx rfl (pc0 := 164) (pc' := 18) rfl (hb hby d1_164) (by decide) (by decide) (XS.iload X510.here hx rfl (hb hby d1_18) rfl (XS.iloadN X510.here hx rfl (hb hby d1_20) rfl k))))) ?_
   show own_Fin p e below (T510.setTop (mkF m 21 #[.val (.ref a), .val (.ref b394), .val (.ref a), .val (.int 3), .val (.int 1), .val (.int x0_), .val (.int (x0_ &&& (255 : Int32))), .val (.int 0)] [(.int 3), (.int 1)])) _
   exact lp1 _ _ _ t2_511 k2_512 _ _ _ _ _ _ X510 rfl N510 O K515 V_a E_b394 F_b394_ASB_value F_b394_ASB_coder F_b394_ASB_count V_t2_511 E_t2_511 (One.val rfl) (One.val rfl) (One.val rfl) P510_1 sz_t2_511 ne_a_t2_511 P510_2 P510_9 (own_jn0F hsU htkl P492_10 P501_10 P510_10) (own_jc0F hsU hcl (own_lb0 ))
theorem d27_42 : decode method_2_code 42 = .ok (.iload_n 0, 1) := by decide +kernel
theorem d27_43 : decode method_2_code 43 = .ok (.bipush 45, 2) := by decide +kernel
theorem d27_45 : decode method_2_code 45 = .ok (.if_icmp .eq 21, 3) := by decide +kernel
theorem d27_66 : decode method_2_code 66 = .ok (.iconst 1, 1) := by decide +kernel
theorem d27_67 : decode method_2_code 67 = .ok (.goto 4, 3) := by decide +kernel
theorem d27_71 : decode method_2_code 71 = .ok (.ireturn, 1) := by decide +kernel
theorem d27_48 : decode method_2_code 48 = .ok (.iload_n 0, 1) := by decide +kernel
theorem d27_49 : decode method_2_code 49 = .ok (.bipush 46, 2) := by decide +kernel
theorem d27_51 : decode method_2_code 51 = .ok (.if_icmp .eq 15, 3) := by decide +kernel
theorem d27_54 : decode method_2_code 54 = .ok (.iload_n 0, 1) := by decide +kernel
theorem d27_55 : decode method_2_code 55 = .ok (.bipush 95, 2) := by decide +kernel
theorem d27_57 : decode method_2_code 57 = .ok (.if_icmp .eq 9, 3) := by decide +kernel
theorem d27_60 : decode method_2_code 60 = .ok (.iload_n 0, 1) := by decide +kernel
theorem d27_61 : decode method_2_code 61 = .ok (.bipush 126, 2) := by decide +kernel
theorem d27_63 : decode method_2_code 63 = .ok (.if_icmp .ne 7, 3) := by decide +kernel
theorem d27_70 : decode method_2_code 70 = .ok (.iconst 0, 1) := by decide +kernel
theorem d27_28 : decode method_2_code 28 = .ok (.iload_n 0, 1) := by decide +kernel
theorem d27_29 : decode method_2_code 29 = .ok (.bipush 48, 2) := by decide +kernel
theorem d27_31 : decode method_2_code 31 = .ok (.if_icmp .lt 11, 3) := by decide +kernel
theorem d27_34 : decode method_2_code 34 = .ok (.iload_n 0, 1) := by decide +kernel
theorem d27_35 : decode method_2_code 35 = .ok (.bipush 57, 2) := by decide +kernel
theorem d27_37 : decode method_2_code 37 = .ok (.if_icmp .gt 5, 3) := by decide +kernel
theorem d27_40 : decode method_2_code 40 = .ok (.iconst 1, 1) := by decide +kernel
theorem d27_41 : decode method_2_code 41 = .ok (.ireturn, 1) := by decide +kernel
theorem d27_14 : decode method_2_code 14 = .ok (.iload_n 0, 1) := by decide +kernel
theorem d27_15 : decode method_2_code 15 = .ok (.bipush 65, 2) := by decide +kernel
theorem d27_17 : decode method_2_code 17 = .ok (.if_icmp .lt 11, 3) := by decide +kernel
theorem d27_20 : decode method_2_code 20 = .ok (.iload_n 0, 1) := by decide +kernel
theorem d27_21 : decode method_2_code 21 = .ok (.bipush 90, 2) := by decide +kernel
theorem d27_23 : decode method_2_code 23 = .ok (.if_icmp .gt 5, 3) := by decide +kernel
theorem d27_26 : decode method_2_code 26 = .ok (.iconst 1, 1) := by decide +kernel
theorem d27_27 : decode method_2_code 27 = .ok (.ireturn, 1) := by decide +kernel
theorem d27_0 : decode method_2_code 0 = .ok (.iload_n 0, 1) := by decide +kernel
theorem d27_1 : decode method_2_code 1 = .ok (.bipush 97, 2) := by decide +kernel
theorem d27_3 : decode method_2_code 3 = .ok (.if_icmp .lt 11, 3) := by decide +kernel
theorem d27_6 : decode method_2_code 6 = .ok (.iload_n 0, 1) := by decide +kernel
theorem d27_7 : decode method_2_code 7 = .ok (.bipush 122, 2) := by decide +kernel
theorem d27_9 : decode method_2_code 9 = .ok (.if_icmp .gt 5, 3) := by decide +kernel
theorem d27_12 : decode method_2_code 12 = .ok (.iconst 1, 1) := by decide +kernel
theorem d27_13 : decode method_2_code 13 = .ok (.ireturn, 1) := by decide +kernel
theorem pn_7 : plainName "com/example/espalier/espalier/UrisEncodePinLaw" = true := by first | (simp [plainName, overriddenIn]; done) | decide +kernel
theorem ef_rm27 (m : MethodId) (x0 : Int32) : entryFrame m #[(.int x0)] 1 = mkF m 0 #[.val (.int x0)] [] := by first | (simp [entryFrame, mkF, argsToLocals, Value.category]; done) | rfl
def Qrm27 (Z : State) (b : Int32) (h0 : Heap) (n0 : Nat) (v : Option Value) (h : Heap) (L : List Loc) : Prop := v = some (.int (own_bi (own_unres b))) ∧ Fr n0 L ∧ h = h0
set_option maxRecDepth 65536 in
set_option maxHeartbeats 40000000 in
theorem rm27 (l : Launch) (Z : State) (a0 : Array Value) (hw : ∀ d ∈ tables_1, d.before a0 Z = true) (ws : List Jvm.Cond) (b : Int32) (h0 : Heap) (n0 : Nat) :
    MetFree l (⟨"com/example/espalier/espalier/UrisEncodePinLaw", "unreserved", "(I)Z"⟩ : MethodName) (head1 (Jvm.Cond.code (⟨"com/example/espalier/espalier/UrisEncodePinLaw", "unreserved", "(I)Z"⟩ : MethodName) method_2_code 1 (some .boolean) :: ws) ({ frames := 0, cells := 0, slots := 0, locals := 0 } : Room)) (fun a' U' => a' = #[(.int b)] ∧ Z.Warmed39 U'.vm ∧ U'.heap = h0) (fun _ _ _ _ _ => True) (fun _ U' o' W' => ∃ v' L', o' = .returned v' ∧ Qrm27 Z b h0 n0 v' W'.heap L' ∧ FrameEnd U' o' W' L' ({ frames := 0, cells := 0, slots := 0, locals := 0 } : Room).cells ({ frames := 0, cells := 0, slots := 0, locals := 0 } : Room).slots) := by
  refine MetFree.of_bodySF (plainFor_of_name pn_7) hisR ?_
  intro p e s m args below meth c s₁ Bd hml0 hP hK
  obtain ⟨rfl, hZ, hh⟩ := hP
  have hx := Bd.exec
  have hby := Bd.bytes
  have hml : c.maxLocals = 1 := hml0
  have hown : s.vm.findClass "com/example/espalier/espalier/UrisEncodePinLaw" = some m.cls := findClass_of_methodNamed Bd.named
  have hnm := (name_of_methodNamed Bd.named Bd.method).1
  have X0 : Stand p l e ({ frames := 0, cells := 0, slots := 0, locals := 0 } : Room) s m #[(.int b)] below meth c s₁ [] 0 0 := Stand.of_body Bd
  have e0 : s₁.heap = h0 := by rw [← hh, Bd.state]; rfl
  have N0 := Fr.nil n0
  refine own_start (ef_rm27 m b) (Q := fun o' t' => ∃ v' L', o' = .returned v' ∧ Qrm27 Z b h0 n0 v' t'.heap L' ∧ FrameEnd s o' t' L' ({ frames := 0, cells := 0, slots := 0, locals := 0 } : Room).cells ({ frames := 0, cells := 0, slots := 0, locals := 0 } : Room).slots) ?_
  show own_Fin p e below (s₁.setTop (mkF m 0 #[.val (.int b)] [])) _
  have jr42 : ¬ (¬ b < (97 : Int32) ∧ ¬ (122 : Int32) < b) → ¬ (¬ b < (65 : Int32) ∧ ¬ (90 : Int32) < b) → ¬ (¬ b < (48 : Int32) ∧ ¬ (57 : Int32) < b) → own_Fin p e below (s₁.setTop (mkF m 42 #[.val (.int b)] [])) (fun o' t' => ∃ v' L', o' = .returned v' ∧ Qrm27 Z b h0 n0 v' t'.heap L' ∧ FrameEnd s o' t' L' ({ frames := 0, cells := 0, slots := 0, locals := 0 } : Room).cells ({ frames := 0, cells := 0, slots := 0, locals := 0 } : Room).slots) := by
   intro hs_r0 hs_r1 hs_r2
   show own_Fin p e below (s₁.setTop (mkF m 42 #[.val (.int b)] [])) _
   refine own_go (fun _ k => XS.iloadN X0.here hx rfl (hb hby d27_42) rfl (XS.bipush X0.here hx rfl (hb hby d27_43) k)) ?_
   show own_Fin p e below (s₁.setTop (mkF m 45 #[.val (.int b)] [(.int 45), (.int b)])) _
   by_cases hc45_516 : b = (45 : Int32)
   ·refine own_go (fun _ k => XS.icmpYes X0.here hx rfl (pc0 := 45) (pc' := 66) rfl (hb hby d27_45) rfl (teq hc45_516).1 (by decide) (by decide) (XS.iconst X0.here hx rfl (hb hby d27_66) (XS.goto X0.here hx rfl (pc0 := 67) (pc' := 71) rfl (hb hby d27_67) (by decide) (by decide) k))) ?_
    show own_Fin p e below (s₁.setTop (mkF m 71 #[.val (.int b)] [(.int 1)])) _
    obtain ⟨fs, hr, hrun, hended, hW, hsame⟩ := X0.leave (v := some (.int 1)) (fun h => by rw [Bd.returns] at h; cases h)
    refine ⟨_, _, ?_, hrun, hended, _, _, rfl, ?_, ⟨_, rfl⟩, hW, hsame.mono (by decide) (by decide)⟩
    ·exact retN X0 hx (t := .boolean) Bd.returns (by simp) (hb hby d27_71) hr
    ·show Qrm27 Z b h0 n0 _ s₁.heap _
     rw [e0]
     exact ⟨(by simp [own_bi, own_unres, hs_r0, hs_r1, hs_r2, hc45_516]), N0, rfl⟩
   ·refine own_go (fun _ k => XS.icmpNo X0.here hx rfl (hb hby d27_45) rfl (feq hc45_516).1 (XS.iloadN X0.here hx rfl (hb hby d27_48) rfl (XS.bipush X0.here hx rfl (hb hby d27_49) k))) ?_
    show own_Fin p e below (s₁.setTop (mkF m 51 #[.val (.int b)] [(.int 46), (.int b)])) _
    by_cases hc51_518 : b = (46 : Int32)
    ·refine own_go (fun _ k => XS.icmpYes X0.here hx rfl (pc0 := 51) (pc' := 66) rfl (hb hby d27_51) rfl (teq hc51_518).1 (by decide) (by decide) (XS.iconst X0.here hx rfl (hb hby d27_66) (XS.goto X0.here hx rfl (pc0 := 67) (pc' := 71) rfl (hb hby d27_67) (by decide) (by decide) k))) ?_
     show own_Fin p e below (s₁.setTop (mkF m 71 #[.val (.int b)] [(.int 1)])) _
     obtain ⟨fs, hr, hrun, hended, hW, hsame⟩ := X0.leave (v := some (.int 1)) (fun h => by rw [Bd.returns] at h; cases h)
     refine ⟨_, _, ?_, hrun, hended, _, _, rfl, ?_, ⟨_, rfl⟩, hW, hsame.mono (by decide) (by decide)⟩
     ·exact retN X0 hx (t := .boolean) Bd.returns (by simp) (hb hby d27_71) hr
     ·show Qrm27 Z b h0 n0 _ s₁.heap _
      rw [e0]
      exact ⟨(by simp [own_bi, own_unres, hs_r0, hs_r1, hs_r2, hc45_516, hc51_518]), N0, rfl⟩
    ·refine own_go (fun _ k => XS.icmpNo X0.here hx rfl (hb hby d27_51) rfl (feq hc51_518).1 (XS.iloadN X0.here hx rfl (hb hby d27_54) rfl (XS.bipush X0.here hx rfl (hb hby d27_55) k))) ?_
     show own_Fin p e below (s₁.setTop (mkF m 57 #[.val (.int b)] [(.int 95), (.int b)])) _
     by_cases hc57_520 : b = (95 : Int32)
     ·refine own_go (fun _ k => XS.icmpYes X0.here hx rfl (pc0 := 57) (pc' := 66) rfl (hb hby d27_57) rfl (teq hc57_520).1 (by decide) (by decide) (XS.iconst X0.here hx rfl (hb hby d27_66) (XS.goto X0.here hx rfl (pc0 := 67) (pc' := 71) rfl (hb hby d27_67) (by decide) (by decide) k))) ?_
      show own_Fin p e below (s₁.setTop (mkF m 71 #[.val (.int b)] [(.int 1)])) _
      obtain ⟨fs, hr, hrun, hended, hW, hsame⟩ := X0.leave (v := some (.int 1)) (fun h => by rw [Bd.returns] at h; cases h)
      refine ⟨_, _, ?_, hrun, hended, _, _, rfl, ?_, ⟨_, rfl⟩, hW, hsame.mono (by decide) (by decide)⟩
      ·exact retN X0 hx (t := .boolean) Bd.returns (by simp) (hb hby d27_71) hr
      ·show Qrm27 Z b h0 n0 _ s₁.heap _
       rw [e0]
       exact ⟨(by simp [own_bi, own_unres, hs_r0, hs_r1, hs_r2, hc45_516, hc51_518, hc57_520]), N0, rfl⟩
     ·refine own_go (fun _ k => XS.icmpNo X0.here hx rfl (hb hby d27_57) rfl (feq hc57_520).1 (XS.iloadN X0.here hx rfl (hb hby d27_60) rfl (XS.bipush X0.here hx rfl (hb hby d27_61) k))) ?_
      show own_Fin p e below (s₁.setTop (mkF m 63 #[.val (.int b)] [(.int 126), (.int b)])) _
      by_cases hc63_522 : b = (126 : Int32)
      ·refine own_go (fun _ k => XS.icmpNo X0.here hx rfl (hb hby d27_63) rfl (teq hc63_522).2 (XS.iconst X0.here hx rfl (hb hby d27_66) (XS.goto X0.here hx rfl (pc0 := 67) (pc' := 71) rfl (hb hby d27_67) (by decide) (by decide) k))) ?_
       show own_Fin p e below (s₁.setTop (mkF m 71 #[.val (.int b)] [(.int 1)])) _
       obtain ⟨fs, hr, hrun, hended, hW, hsame⟩ := X0.leave (v := some (.int 1)) (fun h => by rw [Bd.returns] at h; cases h)
       refine ⟨_, _, ?_, hrun, hended, _, _, rfl, ?_, ⟨_, rfl⟩, hW, hsame.mono (by decide) (by decide)⟩
       ·exact retN X0 hx (t := .boolean) Bd.returns (by simp) (hb hby d27_71) hr
       ·show Qrm27 Z b h0 n0 _ s₁.heap _
        rw [e0]
        exact ⟨(by simp [own_bi, own_unres, hs_r0, hs_r1, hs_r2, hc45_516, hc51_518, hc57_520, hc63_522]), N0, rfl⟩
      ·refine own_go (fun _ k => XS.icmpYes X0.here hx rfl (pc0 := 63) (pc' := 70) rfl (hb hby d27_63) rfl (feq hc63_522).2 (by decide) (by decide) (XS.iconst X0.here hx rfl (hb hby d27_70) k)) ?_
       show own_Fin p e below (s₁.setTop (mkF m 71 #[.val (.int b)] [(.int 0)])) _
       obtain ⟨fs, hr, hrun, hended, hW, hsame⟩ := X0.leave (v := some (.int 0)) (fun h => by rw [Bd.returns] at h; cases h)
       refine ⟨_, _, ?_, hrun, hended, _, _, rfl, ?_, ⟨_, rfl⟩, hW, hsame.mono (by decide) (by decide)⟩
       ·exact retN X0 hx (t := .boolean) Bd.returns (by simp) (hb hby d27_71) hr
       ·show Qrm27 Z b h0 n0 _ s₁.heap _
        rw [e0]
        exact ⟨(by rw [own_bi0 (fun h => by rcases h with h | h | h | h | h | h | h <;> contradiction)]), N0, rfl⟩
  have jr28 : ¬ (¬ b < (97 : Int32) ∧ ¬ (122 : Int32) < b) → ¬ (¬ b < (65 : Int32) ∧ ¬ (90 : Int32) < b) → own_Fin p e below (s₁.setTop (mkF m 28 #[.val (.int b)] [])) (fun o' t' => ∃ v' L', o' = .returned v' ∧ Qrm27 Z b h0 n0 v' t'.heap L' ∧ FrameEnd s o' t' L' ({ frames := 0, cells := 0, slots := 0, locals := 0 } : Room).cells ({ frames := 0, cells := 0, slots := 0, locals := 0 } : Room).slots) := by
   intro hs_r0 hs_r1
   show own_Fin p e below (s₁.setTop (mkF m 28 #[.val (.int b)] [])) _
   refine own_go (fun _ k => XS.iloadN X0.here hx rfl (hb hby d27_28) rfl (XS.bipush X0.here hx rfl (hb hby d27_29) k)) ?_
   show own_Fin p e below (s₁.setTop (mkF m 31 #[.val (.int b)] [(.int 48), (.int b)])) _
   by_cases hc31_525 : b < (48 : Int32)
   ·refine own_go (fun _ k => XS.icmpYes X0.here hx rfl (pc0 := 31) (pc' := 42) rfl (hb hby d27_31) rfl (tlt hc31_525).1 (by decide) (by decide) k) ?_
    show own_Fin p e below (s₁.setTop (mkF m 42 #[.val (.int b)] [])) _
    exact jr42 hs_r0 hs_r1 (fun h => absurd hc31_525 h.1)
   ·refine own_go (fun _ k => XS.icmpNo X0.here hx rfl (hb hby d27_31) rfl (flt hc31_525).1 (XS.iloadN X0.here hx rfl (hb hby d27_34) rfl (XS.bipush X0.here hx rfl (hb hby d27_35) k))) ?_
    show own_Fin p e below (s₁.setTop (mkF m 37 #[.val (.int b)] [(.int 57), (.int b)])) _
    by_cases hc37_526 : (57 : Int32) < b
    ·refine own_go (fun _ k => XS.icmpYes X0.here hx rfl (pc0 := 37) (pc' := 42) rfl (hb hby d27_37) rfl (tlt hc37_526).2.2.1 (by decide) (by decide) k) ?_
     show own_Fin p e below (s₁.setTop (mkF m 42 #[.val (.int b)] [])) _
     exact jr42 hs_r0 hs_r1 (fun h => absurd hc37_526 h.2)
    ·refine own_go (fun _ k => XS.icmpNo X0.here hx rfl (hb hby d27_37) rfl (flt hc37_526).2.2.1 (XS.iconst X0.here hx rfl (hb hby d27_40) k)) ?_
     show own_Fin p e below (s₁.setTop (mkF m 41 #[.val (.int b)] [(.int 1)])) _
     obtain ⟨fs, hr, hrun, hended, hW, hsame⟩ := X0.leave (v := some (.int 1)) (fun h => by rw [Bd.returns] at h; cases h)
     refine ⟨_, _, ?_, hrun, hended, _, _, rfl, ?_, ⟨_, rfl⟩, hW, hsame.mono (by decide) (by decide)⟩
     ·exact retN X0 hx (t := .boolean) Bd.returns (by simp) (hb hby d27_41) hr
     ·show Qrm27 Z b h0 n0 _ s₁.heap _
      rw [e0]
      exact ⟨(by simp [own_bi, own_unres, hs_r0, hs_r1, hc31_525, hc37_526]), N0, rfl⟩
  have jr14 : ¬ (¬ b < (97 : Int32) ∧ ¬ (122 : Int32) < b) → own_Fin p e below (s₁.setTop (mkF m 14 #[.val (.int b)] [])) (fun o' t' => ∃ v' L', o' = .returned v' ∧ Qrm27 Z b h0 n0 v' t'.heap L' ∧ FrameEnd s o' t' L' ({ frames := 0, cells := 0, slots := 0, locals := 0 } : Room).cells ({ frames := 0, cells := 0, slots := 0, locals := 0 } : Room).slots) := by
   intro hs_r0
   show own_Fin p e below (s₁.setTop (mkF m 14 #[.val (.int b)] [])) _
   refine own_go (fun _ k => XS.iloadN X0.here hx rfl (hb hby d27_14) rfl (XS.bipush X0.here hx rfl (hb hby d27_15) k)) ?_
   show own_Fin p e below (s₁.setTop (mkF m 17 #[.val (.int b)] [(.int 65), (.int b)])) _
   by_cases hc17_528 : b < (65 : Int32)
   ·refine own_go (fun _ k => XS.icmpYes X0.here hx rfl (pc0 := 17) (pc' := 28) rfl (hb hby d27_17) rfl (tlt hc17_528).1 (by decide) (by decide) k) ?_
    show own_Fin p e below (s₁.setTop (mkF m 28 #[.val (.int b)] [])) _
    exact jr28 hs_r0 (fun h => absurd hc17_528 h.1)
   ·refine own_go (fun _ k => XS.icmpNo X0.here hx rfl (hb hby d27_17) rfl (flt hc17_528).1 (XS.iloadN X0.here hx rfl (hb hby d27_20) rfl (XS.bipush X0.here hx rfl (hb hby d27_21) k))) ?_
    show own_Fin p e below (s₁.setTop (mkF m 23 #[.val (.int b)] [(.int 90), (.int b)])) _
    by_cases hc23_529 : (90 : Int32) < b
    ·refine own_go (fun _ k => XS.icmpYes X0.here hx rfl (pc0 := 23) (pc' := 28) rfl (hb hby d27_23) rfl (tlt hc23_529).2.2.1 (by decide) (by decide) k) ?_
     show own_Fin p e below (s₁.setTop (mkF m 28 #[.val (.int b)] [])) _
     exact jr28 hs_r0 (fun h => absurd hc23_529 h.2)
    ·refine own_go (fun _ k => XS.icmpNo X0.here hx rfl (hb hby d27_23) rfl (flt hc23_529).2.2.1 (XS.iconst X0.here hx rfl (hb hby d27_26) k)) ?_
     show own_Fin p e below (s₁.setTop (mkF m 27 #[.val (.int b)] [(.int 1)])) _
     obtain ⟨fs, hr, hrun, hended, hW, hsame⟩ := X0.leave (v := some (.int 1)) (fun h => by rw [Bd.returns] at h; cases h)
     refine ⟨_, _, ?_, hrun, hended, _, _, rfl, ?_, ⟨_, rfl⟩, hW, hsame.mono (by decide) (by decide)⟩
     ·exact retN X0 hx (t := .boolean) Bd.returns (by simp) (hb hby d27_27) hr
     ·show Qrm27 Z b h0 n0 _ s₁.heap _
      rw [e0]
      exact ⟨(by simp [own_bi, own_unres, hs_r0, hc17_528, hc23_529]), N0, rfl⟩
  show own_Fin p e below (s₁.setTop (mkF m 0 #[.val (.int b)] [])) _
  refine own_go (fun _ k => XS.iloadN X0.here hx rfl (hb hby d27_0) rfl (XS.bipush X0.here hx rfl (hb hby d27_1) k)) ?_
  show own_Fin p e below (s₁.setTop (mkF m 3 #[.val (.int b)] [(.int 97), (.int b)])) _
  by_cases hc3_531 : b < (97 : Int32)
  ·refine own_go (fun _ k => XS.icmpYes X0.here hx rfl (pc0 := 3) (pc' := 14) rfl (hb hby d27_3) rfl (tlt hc3_531).1 (by decide) (by decide) k) ?_
   show own_Fin p e below (s₁.setTop (mkF m 14 #[.val (.int b)] [])) _
   exact jr14 (fun h => absurd hc3_531 h.1)
  ·refine own_go (fun _ k => XS.icmpNo X0.here hx rfl (hb hby d27_3) rfl (flt hc3_531).1 (XS.iloadN X0.here hx rfl (hb hby d27_6) rfl (XS.bipush X0.here hx rfl (hb hby d27_7) k))) ?_
   show own_Fin p e below (s₁.setTop (mkF m 9 #[.val (.int b)] [(.int 122), (.int b)])) _
   by_cases hc9_532 : (122 : Int32) < b
   ·refine own_go (fun _ k => XS.icmpYes X0.here hx rfl (pc0 := 9) (pc' := 14) rfl (hb hby d27_9) rfl (tlt hc9_532).2.2.1 (by decide) (by decide) k) ?_
    show own_Fin p e below (s₁.setTop (mkF m 14 #[.val (.int b)] [])) _
    exact jr14 (fun h => absurd hc9_532 h.2)
   ·refine own_go (fun _ k => XS.icmpNo X0.here hx rfl (hb hby d27_9) rfl (flt hc9_532).2.2.1 (XS.iconst X0.here hx rfl (hb hby d27_12) k)) ?_
    show own_Fin p e below (s₁.setTop (mkF m 13 #[.val (.int b)] [(.int 1)])) _
    obtain ⟨fs, hr, hrun, hended, hW, hsame⟩ := X0.leave (v := some (.int 1)) (fun h => by rw [Bd.returns] at h; cases h)
    refine ⟨_, _, ?_, hrun, hended, _, _, rfl, ?_, ⟨_, rfl⟩, hW, hsame.mono (by decide) (by decide)⟩
    ·exact retN X0 hx (t := .boolean) Bd.returns (by simp) (hb hby d27_13) hr
    ·show Qrm27 Z b h0 n0 _ s₁.heap _
     rw [e0]
     exact ⟨(by simp [own_bi, own_unres, hc3_531, hc9_532]), N0, rfl⟩
def own_wd (b : Int32) : Int32 := if own_unres b then 1 else 3
theorem d26_0 : decode method_3_code 0 = .ok (.iload_n 0, 1) := by decide +kernel
theorem d26_1 : decode method_3_code 1 = .ok (.invokestatic 7, 3) := by decide +kernel
theorem pd_16 : parseMethodDescriptor "(I)Z" = some ⟨[.int], some .boolean⟩ := by decide +kernel
theorem d26_4 : decode method_3_code 4 = .ok (.ifCond .eq 7, 3) := by decide +kernel
theorem d26_7 : decode method_3_code 7 = .ok (.iconst 1, 1) := by decide +kernel
theorem d26_8 : decode method_3_code 8 = .ok (.goto 4, 3) := by decide +kernel
theorem d26_12 : decode method_3_code 12 = .ok (.ireturn, 1) := by decide +kernel
theorem d26_11 : decode method_3_code 11 = .ok (.iconst 3, 1) := by decide +kernel
theorem ef_rm26 (m : MethodId) (x0 : Int32) : entryFrame m #[(.int x0)] 1 = mkF m 0 #[.val (.int x0)] [] := by first | (simp [entryFrame, mkF, argsToLocals, Value.category]; done) | rfl
def Qrm26 (Z : State) (b : Int32) (h0 : Heap) (n0 : Nat) (v : Option Value) (h : Heap) (L : List Loc) : Prop := v = some (.int (own_wd b)) ∧ Fr n0 L ∧ h = h0
set_option maxRecDepth 65536 in
set_option maxHeartbeats 40000000 in
theorem rm26 (l : Launch) (Z : State) (a0 : Array Value) (hw : ∀ d ∈ tables_1, d.before a0 Z = true) (ws : List Jvm.Cond) (b : Int32) (h0 : Heap) (n0 : Nat) :
    MetFree l (⟨"com/example/espalier/espalier/UrisEncodePinLaw", "width", "(I)I"⟩ : MethodName) (head1 (Jvm.Cond.code (⟨"com/example/espalier/espalier/UrisEncodePinLaw", "width", "(I)I"⟩ : MethodName) method_3_code 1 (some .int) :: ws) ({ frames := 1, cells := 0, slots := 0, locals := 12 } : Room)) (fun a' U' => a' = #[(.int b)] ∧ Z.Warmed39 U'.vm ∧ U'.heap = h0) (fun _ _ _ _ _ => True) (fun _ U' o' W' => ∃ v' L', o' = .returned v' ∧ Qrm26 Z b h0 n0 v' W'.heap L' ∧ FrameEnd U' o' W' L' ({ frames := 1, cells := 0, slots := 0, locals := 12 } : Room).cells ({ frames := 1, cells := 0, slots := 0, locals := 12 } : Room).slots) := by
  refine MetFree.of_bodySF (plainFor_of_name pn_7) hisR ?_
  intro p e s m args below meth c s₁ Bd hml0 hP hK
  obtain ⟨rfl, hZ, hh⟩ := hP
  have hx := Bd.exec
  have hby := Bd.bytes
  have hml : c.maxLocals = 1 := hml0
  have hown : s.vm.findClass "com/example/espalier/espalier/UrisEncodePinLaw" = some m.cls := findClass_of_methodNamed Bd.named
  have hnm := (name_of_methodNamed Bd.named Bd.method).1
  have X0 : Stand p l e ({ frames := 1, cells := 0, slots := 0, locals := 12 } : Room) s m #[(.int b)] below meth c s₁ [] 0 0 := Stand.of_body Bd
  have e0 : s₁.heap = h0 := by rw [← hh, Bd.state]; rfl
  have N0 := Fr.nil n0
  refine own_start (ef_rm26 m b) (Q := fun o' t' => ∃ v' L', o' = .returned v' ∧ Qrm26 Z b h0 n0 v' t'.heap L' ∧ FrameEnd s o' t' L' ({ frames := 1, cells := 0, slots := 0, locals := 12 } : Room).cells ({ frames := 1, cells := 0, slots := 0, locals := 12 } : Room).slots) ?_
  show own_Fin p e below (s₁.setTop (mkF m 0 #[.val (.int b)] [])) _
  refine own_go (fun _ k => XS.iloadN X0.here hx rfl (hb hby d26_0) rfl k) ?_
  show own_Fin p e below (s₁.setTop (mkF m 1 #[.val (.int b)] [(.int b)])) _
  obtain ⟨_, _, ⟨T534, L534, k534, n534⟩, -, X534, ⟨Lc534, hQ534, l534, y534, z534⟩, st534⟩ := Jvm.LawKit.callS X0 hx (y := (⟨"com/example/espalier/espalier/UrisEncodePinLaw", "unreserved", "(I)Z"⟩ : MethodName)) hown (mvT hZ (ow hw 146)) (mvT hZ (ow hw 147)) (mvT hZ (ow hw 144)) (mvT hZ (ow hw 148)) (by decide) (backOf (W := 0) (rm27 l Z a0 hw [] b h0 n0 ) hZ (ow hw 148) (ow hw 144) (by decide) (by decide)) (g := (mkF m 1 #[.val (.int b)] [(.int b)])) rfl (by rw [hml]; rfl) (argsL := [(.int b)]) (rest := []) (lenOf pd_16 rfl) rfl (by show 2 * 0 + _ ≤ _; exact Nat.le_of_eq rfl) (hb hby d26_1) (fun _ _ => ⟨rfl, e0, (by decide : 0 + 0 ≤ _), (by decide : 0 + 0 ≤ _)⟩)
  dsimp only [Pt.U, Pt.locs, Pt.cells, Pt.slots] at X534 l534 y534 z534 st534 hQ534
  subst l534 y534 z534
  obtain ⟨rfl, N534q, e534⟩ := hQ534
  refine own_go (fun _ k => st534 _ k) ?_
  have N534 := Fr.app N0 N534q
  show own_Fin p e below (T534.setTop (mkF m 4 #[.val (.int b)] [(.int (own_bi (own_unres b)))])) _
  by_cases hc4_535 : own_unres b
  ·refine own_go (fun _ k => XS.ifNo X534.here hx rfl (hb hby d26_4) rfl ((if0 _ _).trans (feq (own_bn hc4_535)).1) (XS.iconst X534.here hx rfl (hb hby d26_7) (XS.goto X534.here hx rfl (pc0 := 8) (pc' := 12) rfl (hb hby d26_8) (by decide) (by decide) k))) ?_
   show own_Fin p e below (T534.setTop (mkF m 12 #[.val (.int b)] [(.int 1)])) _
   obtain ⟨fs, hr, hrun, hended, hW, hsame⟩ := X534.leave (v := some (.int 1)) (fun h => by rw [Bd.returns] at h; cases h)
   refine ⟨_, _, ?_, hrun, hended, _, _, rfl, ?_, ⟨_, rfl⟩, hW, hsame.mono (by decide) (by decide)⟩
   ·exact own_retI X534 hx Bd.returns (hb hby d26_12) hr
   ·show Qrm26 Z b h0 n0 _ T534.heap _
    rw [e534]
    exact ⟨(by simp [own_wd, hc4_535]), N534, rfl⟩
  ·refine own_go (fun _ k => XS.ifYes X534.here hx rfl (pc0 := 4) (pc' := 11) rfl (hb hby d26_4) rfl ((if0 _ _).trans (teq (own_bz hc4_535)).1) (by decide) (by decide) (XS.iconst X534.here hx rfl (hb hby d26_11) k)) ?_
   show own_Fin p e below (T534.setTop (mkF m 12 #[.val (.int b)] [(.int 3)])) _
   obtain ⟨fs, hr, hrun, hended, hW, hsame⟩ := X534.leave (v := some (.int 3)) (fun h => by rw [Bd.returns] at h; cases h)
   refine ⟨_, _, ?_, hrun, hended, _, _, rfl, ?_, ⟨_, rfl⟩, hW, hsame.mono (by decide) (by decide)⟩
   ·exact own_retI X534 hx Bd.returns (hb hby d26_12) hr
   ·show Qrm26 Z b h0 n0 _ T534.heap _
    rw [e534]
    exact ⟨(by simp [own_wd, hc4_535]), N534, rfl⟩
def own_hx (d : Int32) : Int32 := if d < (10 : Int32) then nar .char (((48 : Int32) + d).toUInt32.toUInt16.toUInt32.toInt32) else nar .char ((((65 : Int32) + d) - (10 : Int32)).toUInt32.toUInt16.toUInt32.toInt32)
def own_E (v : Int32) : Int32 := nar .char (nar .char ((v &&& (255 : Int32)).toUInt32.toUInt16.toUInt32.toInt32))
theorem d34_0 : decode method_4_code 0 = .ok (.iload_n 0, 1) := by decide +kernel
theorem d34_1 : decode method_4_code 1 = .ok (.bipush 10, 2) := by decide +kernel
theorem d34_3 : decode method_4_code 3 = .ok (.if_icmp .ge 9, 3) := by decide +kernel
theorem d34_6 : decode method_4_code 6 = .ok (.bipush 48, 2) := by decide +kernel
theorem d34_8 : decode method_4_code 8 = .ok (.iload_n 0, 1) := by decide +kernel
theorem d34_9 : decode method_4_code 9 = .ok (.iadd, 1) := by decide +kernel
theorem d34_10 : decode method_4_code 10 = .ok (.i2c, 1) := by decide +kernel
theorem d34_11 : decode method_4_code 11 = .ok (.ireturn, 1) := by decide +kernel
theorem d34_12 : decode method_4_code 12 = .ok (.bipush 65, 2) := by decide +kernel
theorem d34_14 : decode method_4_code 14 = .ok (.iload_n 0, 1) := by decide +kernel
theorem d34_15 : decode method_4_code 15 = .ok (.iadd, 1) := by decide +kernel
theorem d34_16 : decode method_4_code 16 = .ok (.bipush 10, 2) := by decide +kernel
theorem d34_18 : decode method_4_code 18 = .ok (.isub, 1) := by decide +kernel
theorem d34_19 : decode method_4_code 19 = .ok (.i2c, 1) := by decide +kernel
theorem d34_20 : decode method_4_code 20 = .ok (.ireturn, 1) := by decide +kernel
theorem ef_rm34 (m : MethodId) (x0 : Int32) : entryFrame m #[(.int x0)] 1 = mkF m 0 #[.val (.int x0)] [] := by first | (simp [entryFrame, mkF, argsToLocals, Value.category]; done) | rfl
def Qrm34 (Z : State) (d : Int32) (h0 : Heap) (n0 : Nat) (v : Option Value) (h : Heap) (L : List Loc) : Prop := v = some (.int (own_hx d)) ∧ Fr n0 L ∧ h = h0
set_option maxRecDepth 65536 in
set_option maxHeartbeats 40000000 in
theorem rm34 (l : Launch) (Z : State) (a0 : Array Value) (hw : ∀ d ∈ tables_1, d.before a0 Z = true) (ws : List Jvm.Cond) (d : Int32) (h0 : Heap) (n0 : Nat) :
    MetFree l (⟨"com/example/espalier/espalier/UrisEncodePinLaw", "hex", "(I)C"⟩ : MethodName) (head1 (Jvm.Cond.code (⟨"com/example/espalier/espalier/UrisEncodePinLaw", "hex", "(I)C"⟩ : MethodName) method_4_code 1 (some .char) :: ws) ({ frames := 0, cells := 0, slots := 0, locals := 0 } : Room)) (fun a' U' => a' = #[(.int d)] ∧ Z.Warmed39 U'.vm ∧ U'.heap = h0) (fun _ _ _ _ _ => True) (fun _ U' o' W' => ∃ v' L', o' = .returned v' ∧ Qrm34 Z d h0 n0 v' W'.heap L' ∧ FrameEnd U' o' W' L' ({ frames := 0, cells := 0, slots := 0, locals := 0 } : Room).cells ({ frames := 0, cells := 0, slots := 0, locals := 0 } : Room).slots) := by
  refine MetFree.of_bodySF (plainFor_of_name pn_7) hisR ?_
  intro p e s m args below meth c s₁ Bd hml0 hP hK
  obtain ⟨rfl, hZ, hh⟩ := hP
  have hx := Bd.exec
  have hby := Bd.bytes
  have hml : c.maxLocals = 1 := hml0
  have hown : s.vm.findClass "com/example/espalier/espalier/UrisEncodePinLaw" = some m.cls := findClass_of_methodNamed Bd.named
  have hnm := (name_of_methodNamed Bd.named Bd.method).1
  have X0 : Stand p l e ({ frames := 0, cells := 0, slots := 0, locals := 0 } : Room) s m #[(.int d)] below meth c s₁ [] 0 0 := Stand.of_body Bd
  have e0 : s₁.heap = h0 := by rw [← hh, Bd.state]; rfl
  have N0 := Fr.nil n0
  refine own_start (ef_rm34 m d) (Q := fun o' t' => ∃ v' L', o' = .returned v' ∧ Qrm34 Z d h0 n0 v' t'.heap L' ∧ FrameEnd s o' t' L' ({ frames := 0, cells := 0, slots := 0, locals := 0 } : Room).cells ({ frames := 0, cells := 0, slots := 0, locals := 0 } : Room).slots) ?_
  show own_Fin p e below (s₁.setTop (mkF m 0 #[.val (.int d)] [])) _
  refine own_go (fun _ k => XS.iloadN X0.here hx rfl (hb hby d34_0) rfl (XS.bipush X0.here hx rfl (hb hby d34_1) k)) ?_
  show own_Fin p e below (s₁.setTop (mkF m 3 #[.val (.int d)] [(.int 10), (.int d)])) _
  by_cases hc3_538 : d < (10 : Int32)
  ·refine own_go (fun _ k => XS.icmpNo X0.here hx rfl (hb hby d34_3) rfl (tlt hc3_538).2.1 (XS.bipush X0.here hx rfl (hb hby d34_6) (XS.iloadN X0.here hx rfl (hb hby d34_8) rfl (XS.iadd X0.here hx rfl (hb hby d34_9) rfl (XS.i2c X0.here hx rfl (hb hby d34_10) rfl k))))) ?_
   show own_Fin p e below (s₁.setTop (mkF m 11 #[.val (.int d)] [(.int (((48 : Int32) + d).toUInt32.toUInt16.toUInt32.toInt32))])) _
   obtain ⟨fs, hr, hrun, hended, hW, hsame⟩ := X0.leave (v := some (.int (nar .char (((48 : Int32) + d).toUInt32.toUInt16.toUInt32.toInt32)))) (fun h => by rw [Bd.returns] at h; cases h)
   refine ⟨_, _, ?_, hrun, hended, _, _, rfl, ?_, ⟨_, rfl⟩, hW, hsame.mono (by decide) (by decide)⟩
   ·exact retN X0 hx (t := .char) Bd.returns (by simp) (hb hby d34_11) hr
   ·show Qrm34 Z d h0 n0 _ s₁.heap _
    rw [e0]
    exact ⟨(by simp [own_hx, hc3_538]), N0, rfl⟩
  ·refine own_go (fun _ k => XS.icmpYes X0.here hx rfl (pc0 := 3) (pc' := 12) rfl (hb hby d34_3) rfl (flt hc3_538).2.1 (by decide) (by decide) (XS.bipush X0.here hx rfl (hb hby d34_12) (XS.iloadN X0.here hx rfl (hb hby d34_14) rfl (XS.iadd X0.here hx rfl (hb hby d34_15) rfl (XS.bipush X0.here hx rfl (hb hby d34_16) (XS.isub X0.here hx rfl (hb hby d34_18) rfl (XS.i2c X0.here hx rfl (hb hby d34_19) rfl k))))))) ?_
   show own_Fin p e below (s₁.setTop (mkF m 20 #[.val (.int d)] [(.int ((((65 : Int32) + d) - (10 : Int32)).toUInt32.toUInt16.toUInt32.toInt32))])) _
   obtain ⟨fs, hr, hrun, hended, hW, hsame⟩ := X0.leave (v := some (.int (nar .char ((((65 : Int32) + d) - (10 : Int32)).toUInt32.toUInt16.toUInt32.toInt32)))) (fun h => by rw [Bd.returns] at h; cases h)
   refine ⟨_, _, ?_, hrun, hended, _, _, rfl, ?_, ⟨_, rfl⟩, hW, hsame.mono (by decide) (by decide)⟩
   ·exact retN X0 hx (t := .char) Bd.returns (by simp) (hb hby d34_20) hr
   ·show Qrm34 Z d h0 n0 _ s₁.heap _
    rw [e0]
    exact ⟨(by simp [own_hx, hc3_538]), N0, rfl⟩
theorem d30_0 : decode jdk_42_method_154_code 0 = .ok (.getstatic 38, 3) := by decide +kernel
theorem d30_3 : decode jdk_42_method_154_code 3 = .ok (.ifCond .eq 14, 3) := by decide +kernel
theorem d30_6 : decode jdk_42_method_154_code 6 = .ok (.aload_n 0, 1) := by decide +kernel
theorem d30_7 : decode jdk_42_method_154_code 7 = .ok (.getfield 15, 3) := by decide +kernel
theorem d30_10 : decode jdk_42_method_154_code 10 = .ok (.ifCond .ne 7, 3) := by decide +kernel
theorem d30_13 : decode jdk_42_method_154_code 13 = .ok (.iconst 1, 1) := by decide +kernel
theorem d30_14 : decode jdk_42_method_154_code 14 = .ok (.goto 4, 3) := by decide +kernel
theorem d30_18 : decode jdk_42_method_154_code 18 = .ok (.ireturn, 1) := by decide +kernel
theorem ef_sil (m : MethodId) (x0 : Addr) : entryFrame m #[(.ref x0)] 1 = mkF m 0 #[.val (.ref x0)] [] := by first | (simp [entryFrame, mkF, argsToLocals, Value.category]; done) | rfl
def Qsil (Z : State) (b : Addr) (z : Int32) (h0 : Heap) (n0 : Nat) (v : Option Value) (h : Heap) (L : List Loc) : Prop := v = some (.int 1) ∧ Fr n0 L ∧ h = h0
set_option maxRecDepth 65536 in
set_option maxHeartbeats 40000000 in
theorem sil (l : Launch) (Z : State) (a0 : Array Value) (hw : ∀ d ∈ tables_1, d.before a0 Z = true) (ws : List Jvm.Cond) (b : Addr) (z : Int32) (h0 : Heap) (n0 : Nat) (O : Old Z n0 h0) (S_String_COMPACT_STRINGS : Sta Z Z.heap "java/lang/String" "COMPACT_STRINGS" "Z" (.int z)) (hz : ¬ (z = (0 : Int32))) (F_b_String_coder : Fld Z h0 b "java/lang/String" "coder" "B" (.int 0)) :
    MetFree l (⟨"java/lang/String", "isLatin1", "()Z"⟩ : MethodName) (head1 (Jvm.Cond.code (⟨"java/lang/String", "isLatin1", "()Z"⟩ : MethodName) jdk_42_method_154_code 1 (some .boolean) :: ws) ({ frames := 0, cells := 0, slots := 0, locals := 0 } : Room)) (fun a' U' => a' = #[(.ref b)] ∧ Z.Warmed39 U'.vm ∧ U'.heap = h0) (fun _ _ _ _ _ => True) (fun _ U' o' W' => ∃ v' L', o' = .returned v' ∧ Qsil Z b z h0 n0 v' W'.heap L' ∧ FrameEnd U' o' W' L' ({ frames := 0, cells := 0, slots := 0, locals := 0 } : Room).cells ({ frames := 0, cells := 0, slots := 0, locals := 0 } : Room).slots) := by
  refine MetFree.of_bodySF (plainFor_of_name pn_5) hisR ?_
  intro p e s m args below meth c s₁ Bd hml0 hP hK
  obtain ⟨rfl, hZ, hh⟩ := hP
  have hx := Bd.exec
  have hby := Bd.bytes
  have hml : c.maxLocals = 1 := hml0
  have hown : s.vm.findClass "java/lang/String" = some m.cls := findClass_of_methodNamed Bd.named
  have hnm := (name_of_methodNamed Bd.named Bd.method).1
  have X0 : Stand p l e ({ frames := 0, cells := 0, slots := 0, locals := 0 } : Room) s m #[(.ref b)] below meth c s₁ [] 0 0 := Stand.of_body Bd
  have e0 : s₁.heap = h0 := by rw [← hh, Bd.state]; rfl
  have N0 := Fr.nil n0
  refine own_start (ef_sil m b) (Q := fun o' t' => ∃ v' L', o' = .returned v' ∧ Qsil Z b z h0 n0 v' t'.heap L' ∧ FrameEnd s o' t' L' ({ frames := 0, cells := 0, slots := 0, locals := 0 } : Room).cells ({ frames := 0, cells := 0, slots := 0, locals := 0 } : Room).slots) ?_
  show own_Fin p e below (s₁.setTop (mkF m 0 #[.val (.ref b)] [])) _
  obtain ⟨T541, X541, e541, st541⟩ := getS2 X0 hx hZ hown (host := "") (Or.inl (ow hw 89)) Via.refl e0 (S_String_COMPACT_STRINGS.ext O.2) (g := (mkF m 0 #[.val (.ref b)] [])) rfl (hb hby d30_0)
  refine own_go (fun _ k => st541 _ k) ?_
  show own_Fin p e below (T541.setTop (mkF m 3 #[.val (.ref b)] [(.int z)])) _
  refine own_go (fun _ k => XS.ifNo X541.here hx rfl (hb hby d30_3) rfl ((if0 _ _).trans (feq hz).1) (XS.aloadN X541.here hx rfl (hb hby d30_6) rfl rfl k)) ?_
  show own_Fin p e below (T541.setTop (mkF m 7 #[.val (.ref b)] [(.ref b)])) _
  obtain ⟨T542, X542, e542, st542⟩ := getF X541 hx hZ hown (host := "") (Or.inl (ow hw 62)) Via.refl e541 F_b_String_coder (g := (mkF m 7 #[.val (.ref b)] [(.ref b)])) rfl rfl (hb hby d30_7)
  refine own_go (fun _ k => st542 _ k) ?_
  show own_Fin p e below (T542.setTop (mkF m 10 #[.val (.ref b)] [(.int 0)])) _
  refine own_go (fun _ k => XS.ifNo X542.here hx rfl (hb hby d30_10) rfl ((if0 _ _).trans (teq (by decide : (0 : Int32) = (0 : Int32))).2) (XS.iconst X542.here hx rfl (hb hby d30_13) (XS.goto X542.here hx rfl (pc0 := 14) (pc' := 18) rfl (hb hby d30_14) (by decide) (by decide) k))) ?_
  show own_Fin p e below (T542.setTop (mkF m 18 #[.val (.ref b)] [(.int 1)])) _
  obtain ⟨fs, hr, hrun, hended, hW, hsame⟩ := X542.leave (v := some (.int 1)) (fun h => by rw [Bd.returns] at h; cases h)
  refine ⟨_, _, ?_, hrun, hended, _, _, rfl, ?_, ⟨_, rfl⟩, hW, hsame.mono (by decide) (by decide)⟩
  ·exact retN X542 hx (t := .boolean) Bd.returns (by simp) (hb hby d30_18) hr
  ·show Qsil Z b z h0 n0 _ T542.heap _
   rw [e542]
   exact ⟨rfl, N0, rfl⟩
theorem d14_0 : decode jdk_42_method_152_code 0 = .ok (.getstatic 38, 3) := by decide +kernel
theorem d14_3 : decode jdk_42_method_152_code 3 = .ok (.ifCond .eq 10, 3) := by decide +kernel
theorem d14_6 : decode jdk_42_method_152_code 6 = .ok (.aload_n 0, 1) := by decide +kernel
theorem d14_7 : decode jdk_42_method_152_code 7 = .ok (.getfield 15, 3) := by decide +kernel
theorem d14_10 : decode jdk_42_method_152_code 10 = .ok (.goto 4, 3) := by decide +kernel
theorem d14_14 : decode jdk_42_method_152_code 14 = .ok (.ireturn, 1) := by decide +kernel
theorem ef_sco (m : MethodId) (x0 : Addr) : entryFrame m #[(.ref x0)] 1 = mkF m 0 #[.val (.ref x0)] [] := by first | (simp [entryFrame, mkF, argsToLocals, Value.category]; done) | rfl
def Qsco (Z : State) (b : Addr) (z : Int32) (h0 : Heap) (n0 : Nat) (v : Option Value) (h : Heap) (L : List Loc) : Prop := v = some (.int 0) ∧ Fr n0 L ∧ h = h0
set_option maxRecDepth 65536 in
set_option maxHeartbeats 40000000 in
theorem sco (l : Launch) (Z : State) (a0 : Array Value) (hw : ∀ d ∈ tables_1, d.before a0 Z = true) (ws : List Jvm.Cond) (b : Addr) (z : Int32) (h0 : Heap) (n0 : Nat) (O : Old Z n0 h0) (S_String_COMPACT_STRINGS : Sta Z Z.heap "java/lang/String" "COMPACT_STRINGS" "Z" (.int z)) (hz : ¬ (z = (0 : Int32))) (F_b_String_coder : Fld Z h0 b "java/lang/String" "coder" "B" (.int 0)) :
    MetFree l (⟨"java/lang/String", "coder", "()B"⟩ : MethodName) (head1 (Jvm.Cond.code (⟨"java/lang/String", "coder", "()B"⟩ : MethodName) jdk_42_method_152_code 1 (some .byte) :: ws) ({ frames := 0, cells := 0, slots := 0, locals := 0 } : Room)) (fun a' U' => a' = #[(.ref b)] ∧ Z.Warmed39 U'.vm ∧ U'.heap = h0) (fun _ _ _ _ _ => True) (fun _ U' o' W' => ∃ v' L', o' = .returned v' ∧ Qsco Z b z h0 n0 v' W'.heap L' ∧ FrameEnd U' o' W' L' ({ frames := 0, cells := 0, slots := 0, locals := 0 } : Room).cells ({ frames := 0, cells := 0, slots := 0, locals := 0 } : Room).slots) := by
  refine MetFree.of_bodySF (plainFor_of_name pn_5) hisR ?_
  intro p e s m args below meth c s₁ Bd hml0 hP hK
  obtain ⟨rfl, hZ, hh⟩ := hP
  have hx := Bd.exec
  have hby := Bd.bytes
  have hml : c.maxLocals = 1 := hml0
  have hown : s.vm.findClass "java/lang/String" = some m.cls := findClass_of_methodNamed Bd.named
  have hnm := (name_of_methodNamed Bd.named Bd.method).1
  have X0 : Stand p l e ({ frames := 0, cells := 0, slots := 0, locals := 0 } : Room) s m #[(.ref b)] below meth c s₁ [] 0 0 := Stand.of_body Bd
  have e0 : s₁.heap = h0 := by rw [← hh, Bd.state]; rfl
  have N0 := Fr.nil n0
  refine own_start (ef_sco m b) (Q := fun o' t' => ∃ v' L', o' = .returned v' ∧ Qsco Z b z h0 n0 v' t'.heap L' ∧ FrameEnd s o' t' L' ({ frames := 0, cells := 0, slots := 0, locals := 0 } : Room).cells ({ frames := 0, cells := 0, slots := 0, locals := 0 } : Room).slots) ?_
  show own_Fin p e below (s₁.setTop (mkF m 0 #[.val (.ref b)] [])) _
  obtain ⟨T544, X544, e544, st544⟩ := getS2 X0 hx hZ hown (host := "") (Or.inl (ow hw 89)) Via.refl e0 (S_String_COMPACT_STRINGS.ext O.2) (g := (mkF m 0 #[.val (.ref b)] [])) rfl (hb hby d14_0)
  refine own_go (fun _ k => st544 _ k) ?_
  show own_Fin p e below (T544.setTop (mkF m 3 #[.val (.ref b)] [(.int z)])) _
  refine own_go (fun _ k => XS.ifNo X544.here hx rfl (hb hby d14_3) rfl ((if0 _ _).trans (feq hz).1) (XS.aloadN X544.here hx rfl (hb hby d14_6) rfl rfl k)) ?_
  show own_Fin p e below (T544.setTop (mkF m 7 #[.val (.ref b)] [(.ref b)])) _
  obtain ⟨T545, X545, e545, st545⟩ := getF X544 hx hZ hown (host := "") (Or.inl (ow hw 62)) Via.refl e544 F_b_String_coder (g := (mkF m 7 #[.val (.ref b)] [(.ref b)])) rfl rfl (hb hby d14_7)
  refine own_go (fun _ k => st545 _ k) ?_
  show own_Fin p e below (T545.setTop (mkF m 10 #[.val (.ref b)] [(.int 0)])) _
  refine own_go (fun _ k => XS.goto X545.here hx rfl (pc0 := 10) (pc' := 14) rfl (hb hby d14_10) (by decide) (by decide) k) ?_
  show own_Fin p e below (T545.setTop (mkF m 14 #[.val (.ref b)] [(.int 0)])) _
  obtain ⟨fs, hr, hrun, hended, hW, hsame⟩ := X545.leave (v := some (.int 0)) (fun h => by rw [Bd.returns] at h; cases h)
  refine ⟨_, _, ?_, hrun, hended, _, _, rfl, ?_, ⟨_, rfl⟩, hW, hsame.mono (by decide) (by decide)⟩
  ·exact retN X545 hx (t := .byte) Bd.returns (by simp) (hb hby d14_14) hr
  ·show Qsco Z b z h0 n0 _ T545.heap _
   rw [e545]
   exact ⟨rfl, N0, rfl⟩
theorem d13_0 : decode jdk_42_method_54_code 0 = .ok (.aload_n 0, 1) := by decide +kernel
theorem d13_1 : decode jdk_42_method_54_code 1 = .ok (.getfield 9, 3) := by decide +kernel
theorem d13_4 : decode jdk_42_method_54_code 4 = .ok (.arraylength, 1) := by decide +kernel
theorem d13_5 : decode jdk_42_method_54_code 5 = .ok (.aload_n 0, 1) := by decide +kernel
theorem d13_6 : decode jdk_42_method_54_code 6 = .ok (.invokevirtual 335, 3) := by decide +kernel
theorem pd_17 : parseMethodDescriptor "()B" = some ⟨[], some .byte⟩ := by decide +kernel
theorem d13_9 : decode jdk_42_method_54_code 9 = .ok (.ishr, 1) := by decide +kernel
theorem d13_10 : decode jdk_42_method_54_code 10 = .ok (.ireturn, 1) := by decide +kernel
theorem ef_slen (m : MethodId) (x0 : Addr) : entryFrame m #[(.ref x0)] 1 = mkF m 0 #[.val (.ref x0)] [] := by first | (simp [entryFrame, mkF, argsToLocals, Value.category]; done) | rfl
def Qslen (Z : State) (s_ : Addr) (z : Int32) (t : Addr) (kt : ClassId) (N : Int32) (vs : List Value) (h0 : Heap) (n0 : Nat) (v : Option Value) (h : Heap) (L : List Loc) : Prop := v = some (.int (N >>> ((0 : Int32) &&& 31))) ∧ Fr n0 L ∧ h = h0
set_option maxRecDepth 65536 in
set_option maxHeartbeats 40000000 in
theorem slen (l : Launch) (Z : State) (a0 : Array Value) (hw : ∀ d ∈ tables_1, d.before a0 Z = true) (ws : List Jvm.Cond) (s_ : Addr) (z : Int32) (t : Addr) (kt : ClassId) (N : Int32) (vs : List Value) (h0 : Heap) (n0 : Nat) (O : Old Z n0 h0) (S_String_COMPACT_STRINGS : Sta Z Z.heap "java/lang/String" "COMPACT_STRINGS" "Z" (.int z)) (hz : ¬ (z = (0 : Int32))) (E_s_ : Exa Z h0 s_ "java/lang/String") (F_s__String_coder : Fld Z h0 s_ "java/lang/String" "coder" "B" (.int 0)) (F_s__String_value : Fld Z h0 s_ "java/lang/String" "value" "[B" (.ref t)) (V_t : Arv Z h0 t kt .byte N vs (.int 0)) :
    MetFree l (⟨"java/lang/String", "length", "()I"⟩ : MethodName) (head1 (Jvm.Cond.code (⟨"java/lang/String", "length", "()I"⟩ : MethodName) jdk_42_method_54_code 1 (some .int) :: ws) ({ frames := 1, cells := 0, slots := 0, locals := 13 } : Room)) (fun a' U' => a' = #[(.ref s_)] ∧ Z.Warmed39 U'.vm ∧ U'.heap = h0) (fun _ _ _ _ _ => True) (fun _ U' o' W' => ∃ v' L', o' = .returned v' ∧ Qslen Z s_ z t kt N vs h0 n0 v' W'.heap L' ∧ FrameEnd U' o' W' L' ({ frames := 1, cells := 0, slots := 0, locals := 13 } : Room).cells ({ frames := 1, cells := 0, slots := 0, locals := 13 } : Room).slots) := by
  refine MetFree.of_bodySF (plainFor_of_name pn_5) hisR ?_
  intro p e s m args below meth c s₁ Bd hml0 hP hK
  obtain ⟨rfl, hZ, hh⟩ := hP
  have hx := Bd.exec
  have hby := Bd.bytes
  have hml : c.maxLocals = 1 := hml0
  have hown : s.vm.findClass "java/lang/String" = some m.cls := findClass_of_methodNamed Bd.named
  have hnm := (name_of_methodNamed Bd.named Bd.method).1
  have X0 : Stand p l e ({ frames := 1, cells := 0, slots := 0, locals := 13 } : Room) s m #[(.ref s_)] below meth c s₁ [] 0 0 := Stand.of_body Bd
  have e0 : s₁.heap = h0 := by rw [← hh, Bd.state]; rfl
  have N0 := Fr.nil n0
  refine own_start (ef_slen m s_) (Q := fun o' t' => ∃ v' L', o' = .returned v' ∧ Qslen Z s_ z t kt N vs h0 n0 v' t'.heap L' ∧ FrameEnd s o' t' L' ({ frames := 1, cells := 0, slots := 0, locals := 13 } : Room).cells ({ frames := 1, cells := 0, slots := 0, locals := 13 } : Room).slots) ?_
  show own_Fin p e below (s₁.setTop (mkF m 0 #[.val (.ref s_)] [])) _
  refine own_go (fun _ k => XS.aloadN X0.here hx rfl (hb hby d13_0) rfl rfl k) ?_
  show own_Fin p e below (s₁.setTop (mkF m 1 #[.val (.ref s_)] [(.ref s_)])) _
  obtain ⟨T547, X547, e547, st547⟩ := getF X0 hx hZ hown (host := "") (Or.inl (ow hw 77)) Via.refl e0 F_s__String_value (g := (mkF m 1 #[.val (.ref s_)] [(.ref s_)])) rfl rfl (hb hby d13_1)
  refine own_go (fun _ k => st547 _ k) ?_
  show own_Fin p e below (T547.setTop (mkF m 4 #[.val (.ref s_)] [(.ref t)])) _
  obtain ⟨cl548, A548, -, S548, M548, -, -⟩ := id V_t
  refine own_go (fun _ k => X547.arraylength hx (own_eqE e547 A548.1) (State.isArrayOf_alike hZ.alike A548.2.1) (g := (mkF m 4 #[.val (.ref s_)] [(.ref t)])) rfl rfl (hb hby d13_4) _ (by rw [len_of S548 M548]; exact k)) ?_
  show own_Fin p e below (T547.setTop (mkF m 5 #[.val (.ref s_)] [(.int N)])) _
  refine own_go (fun _ k => XS.aloadN X547.here hx rfl (hb hby d13_5) rfl rfl k) ?_
  show own_Fin p e below (T547.setTop (mkF m 6 #[.val (.ref s_)] [(.ref s_), (.int N)])) _
  obtain ⟨cq549, kq549, q549a, q549b, q549c⟩ := isOf hZ e547 E_s_
  obtain ⟨_, _, ⟨T549, L549, k549, n549⟩, -, X549, ⟨Lc549, hQ549, l549, y549, z549⟩, st549⟩ := X547.virtualBack hx (y := (⟨"java/lang/String", "coder", "()B"⟩ : MethodName)) (z := (⟨"java/lang/String", "coder", "()B"⟩ : MethodName)) hown (mvT hZ (ow hw 84)) (mvT hZ (ow hw 85)) (notFace_of_selects (args := #[]) (mvT hZ (ow hw 87))) (mvT hZ (ow hw 87)) (mvT hZ (ow hw 86)) (by decide) (backOf (W := 1) (sco l Z a0 hw [] s_ z h0 n0 O S_String_COMPACT_STRINGS hz F_s__String_coder) hZ (ow hw 88) (ow hw 21) (by decide) (by decide)) q549a q549c (g := (mkF m 6 #[.val (.ref s_)] [(.ref s_), (.int N)])) rfl (by rw [hml]; rfl) (Steps.refl _) (argsL := []) (rest := [(.int N)]) (lenOf pd_17 rfl) rfl (by show 2 * 0 + _ ≤ _; exact Nat.le_of_eq rfl) (hb hby d13_6) (fun _ _ => ⟨rfl, e547, (by decide : 0 + 0 ≤ _), (by decide : 0 + 0 ≤ _)⟩)
  dsimp only [Pt.U, Pt.locs, Pt.cells, Pt.slots] at X549 l549 y549 z549 st549 hQ549
  subst l549 y549 z549
  obtain ⟨rfl, N549q, e549⟩ := hQ549
  refine own_go (fun _ k => st549.trans k) ?_
  have N549 := Fr.app N0 N549q
  show own_Fin p e below (T549.setTop (mkF m 9 #[.val (.ref s_)] [(.int 0), (.int N)])) _
  refine own_go (fun _ k => XS.ishr X549.here hx rfl (hb hby d13_9) rfl k) ?_
  show own_Fin p e below (T549.setTop (mkF m 10 #[.val (.ref s_)] [(.int (N >>> ((0 : Int32) &&& 31)))])) _
  obtain ⟨fs, hr, hrun, hended, hW, hsame⟩ := X549.leave (v := some (.int (N >>> ((0 : Int32) &&& 31)))) (fun h => by rw [Bd.returns] at h; cases h)
  refine ⟨_, _, ?_, hrun, hended, _, _, rfl, ?_, ⟨_, rfl⟩, hW, hsame.mono (by decide) (by decide)⟩
  ·exact own_retI X549 hx Bd.returns (hb hby d13_10) hr
  ·show Qslen Z s_ z t kt N vs h0 n0 _ T549.heap _
   rw [e549]
   exact ⟨rfl, N549, rfl⟩
theorem d33_0 : decode jdk_41_method_11_code 0 = .ok (.iload_n 0, 1) := by decide +kernel
theorem d33_1 : decode jdk_41_method_11_code 1 = .ok (.ifCond .lt 8, 3) := by decide +kernel
theorem d33_4 : decode jdk_41_method_11_code 4 = .ok (.iload_n 0, 1) := by decide +kernel
theorem d33_5 : decode jdk_41_method_11_code 5 = .ok (.iload_n 1, 1) := by decide +kernel
theorem d33_6 : decode jdk_41_method_11_code 6 = .ok (.if_icmp .lt 10, 3) := by decide +kernel
theorem d33_16 : decode jdk_41_method_11_code 16 = .ok (.iload_n 0, 1) := by decide +kernel
theorem d33_17 : decode jdk_41_method_11_code 17 = .ok (.ireturn, 1) := by decide +kernel
theorem pn_8 : plainName "jdk/internal/util/Preconditions" = true := by first | (simp [plainName, overriddenIn]; done) | decide +kernel
theorem ef_pci (m : MethodId) (x0 : Int32) (x1 : Int32) (x2 : Value) (hr2 : x2.isRef = true) : entryFrame m #[(.int x0), (.int x1), x2] 3 = mkF m 0 #[.val (.int x0), .val (.int x1), .val x2] [] := by (cases x2 <;> first | (cases hr2; done) | (simp [Value.isRef] at hr2; done) | skip); all_goals first | (simp [entryFrame, mkF, argsToLocals, Value.category]; done) | rfl
def Qpci (Z : State) (i : Int32) (N : Int32) (fm : Value) (h0 : Heap) (n0 : Nat) (v : Option Value) (h : Heap) (L : List Loc) : Prop := v = some (.int i) ∧ Fr n0 L ∧ h = h0
set_option maxRecDepth 65536 in
set_option maxHeartbeats 40000000 in
theorem pci (l : Launch) (Z : State) (a0 : Array Value) (hw : ∀ d ∈ tables_1, d.before a0 Z = true) (ws : List Jvm.Cond) (i : Int32) (N : Int32) (fm : Value) (h0 : Heap) (n0 : Nat) (hfm : fm.isRef = true) (hi0 : ¬ (i < (0 : Int32))) (hi1 : i < N) :
    MetFree l (⟨"jdk/internal/util/Preconditions", "checkIndex", "(IILjava/util/function/BiFunction;)I"⟩ : MethodName) (head1 (Jvm.Cond.code (⟨"jdk/internal/util/Preconditions", "checkIndex", "(IILjava/util/function/BiFunction;)I"⟩ : MethodName) jdk_41_method_11_code 3 (some .int) :: ws) ({ frames := 0, cells := 0, slots := 0, locals := 0 } : Room)) (fun a' U' => a' = #[(.int i), (.int N), fm] ∧ Z.Warmed39 U'.vm ∧ U'.heap = h0) (fun _ _ _ _ _ => True) (fun _ U' o' W' => ∃ v' L', o' = .returned v' ∧ Qpci Z i N fm h0 n0 v' W'.heap L' ∧ FrameEnd U' o' W' L' ({ frames := 0, cells := 0, slots := 0, locals := 0 } : Room).cells ({ frames := 0, cells := 0, slots := 0, locals := 0 } : Room).slots) := by
  refine MetFree.of_bodySF (plainFor_of_name pn_8) hisR ?_
  intro p e s m args below meth c s₁ Bd hml0 hP hK
  obtain ⟨rfl, hZ, hh⟩ := hP
  have hx := Bd.exec
  have hby := Bd.bytes
  have hml : c.maxLocals = 3 := hml0
  have hown : s.vm.findClass "jdk/internal/util/Preconditions" = some m.cls := findClass_of_methodNamed Bd.named
  have hnm := (name_of_methodNamed Bd.named Bd.method).1
  have X0 : Stand p l e ({ frames := 0, cells := 0, slots := 0, locals := 0 } : Room) s m #[(.int i), (.int N), fm] below meth c s₁ [] 0 0 := Stand.of_body Bd
  have e0 : s₁.heap = h0 := by rw [← hh, Bd.state]; rfl
  have N0 := Fr.nil n0
  refine own_start (ef_pci m i N fm hfm) (Q := fun o' t' => ∃ v' L', o' = .returned v' ∧ Qpci Z i N fm h0 n0 v' t'.heap L' ∧ FrameEnd s o' t' L' ({ frames := 0, cells := 0, slots := 0, locals := 0 } : Room).cells ({ frames := 0, cells := 0, slots := 0, locals := 0 } : Room).slots) ?_
  show own_Fin p e below (s₁.setTop (mkF m 0 #[.val (.int i), .val (.int N), .val fm] [])) _
  refine own_go (fun _ k => XS.iloadN X0.here hx rfl (hb hby d33_0) rfl (XS.ifNo X0.here hx rfl (hb hby d33_1) rfl ((if0 _ _).trans (flt hi0).1) (XS.iloadN X0.here hx rfl (hb hby d33_4) rfl (XS.iloadN X0.here hx rfl (hb hby d33_5) rfl (XS.icmpYes X0.here hx rfl (pc0 := 6) (pc' := 16) rfl (hb hby d33_6) rfl (tlt hi1).1 (by decide) (by decide) (XS.iloadN X0.here hx rfl (hb hby d33_16) rfl k)))))) ?_
  show own_Fin p e below (s₁.setTop (mkF m 17 #[.val (.int i), .val (.int N), .val fm] [(.int i)])) _
  obtain ⟨fs, hr, hrun, hended, hW, hsame⟩ := X0.leave (v := some (.int i)) (fun h => by rw [Bd.returns] at h; cases h)
  refine ⟨_, _, ?_, hrun, hended, _, _, rfl, ?_, ⟨_, rfl⟩, hW, hsame.mono (by decide) (by decide)⟩
  ·exact own_retI X0 hx Bd.returns (hb hby d33_17) hr
  ·show Qpci Z i N fm h0 n0 _ s₁.heap _
   rw [e0]
   exact ⟨rfl, N0, rfl⟩
theorem d32_0 : decode jdk_42_method_155_code 0 = .ok (.iload_n 0, 1) := by decide +kernel
theorem d32_1 : decode jdk_42_method_155_code 1 = .ok (.iload_n 1, 1) := by decide +kernel
theorem d32_2 : decode jdk_42_method_155_code 2 = .ok (.getstatic 1053, 3) := by decide +kernel
theorem d32_5 : decode jdk_42_method_155_code 5 = .ok (.invokestatic 1059, 3) := by decide +kernel
theorem pd_18 : parseMethodDescriptor "(IILjava/util/function/BiFunction;)I" = some ⟨[.int, .int, (.object "java/util/function/BiFunction")], some .int⟩ := by decide +kernel
theorem d32_8 : decode jdk_42_method_155_code 8 = .ok (.pop, 1) := by decide +kernel
theorem d32_9 : decode jdk_42_method_155_code 9 = .ok (.return_, 1) := by decide +kernel
theorem ef_sci (m : MethodId) (x0 : Int32) (x1 : Int32) : entryFrame m #[(.int x0), (.int x1)] 2 = mkF m 0 #[.val (.int x0), .val (.int x1)] [] := by first | (simp [entryFrame, mkF, argsToLocals, Value.category]; done) | rfl
def Qsci (Z : State) (i : Int32) (N : Int32) (fm : Value) (h0 : Heap) (n0 : Nat) (v : Option Value) (h : Heap) (L : List Loc) : Prop := v = none ∧ Fr n0 L ∧ h = h0
set_option maxRecDepth 65536 in
set_option maxHeartbeats 40000000 in
theorem sci (l : Launch) (Z : State) (a0 : Array Value) (hw : ∀ d ∈ tables_1, d.before a0 Z = true) (ws : List Jvm.Cond) (i : Int32) (N : Int32) (fm : Value) (h0 : Heap) (n0 : Nat) (O : Old Z n0 h0) (S_Preconditions_SIOOBE_FORMATTER : Sta Z Z.heap "jdk/internal/util/Preconditions" "SIOOBE_FORMATTER" "Ljava/util/function/BiFunction;" fm) (hfm : fm.isRef = true) (hi0 : ¬ (i < (0 : Int32))) (hi1 : i < N) :
    MetFree l (⟨"java/lang/String", "checkIndex", "(II)V"⟩ : MethodName) (head1 (Jvm.Cond.code (⟨"java/lang/String", "checkIndex", "(II)V"⟩ : MethodName) jdk_42_method_155_code 2 none :: ws) ({ frames := 1, cells := 0, slots := 0, locals := 14 } : Room)) (fun a' U' => a' = #[(.int i), (.int N)] ∧ Z.Warmed39 U'.vm ∧ U'.heap = h0) (fun _ _ _ _ _ => True) (fun _ U' o' W' => ∃ v' L', o' = .returned v' ∧ Qsci Z i N fm h0 n0 v' W'.heap L' ∧ FrameEnd U' o' W' L' ({ frames := 1, cells := 0, slots := 0, locals := 14 } : Room).cells ({ frames := 1, cells := 0, slots := 0, locals := 14 } : Room).slots) := by
  refine MetFree.of_bodySF (plainFor_of_name pn_5) hisR ?_
  intro p e s m args below meth c s₁ Bd hml0 hP hK
  obtain ⟨rfl, hZ, hh⟩ := hP
  have hx := Bd.exec
  have hby := Bd.bytes
  have hml : c.maxLocals = 2 := hml0
  have hown : s.vm.findClass "java/lang/String" = some m.cls := findClass_of_methodNamed Bd.named
  have hnm := (name_of_methodNamed Bd.named Bd.method).1
  have X0 : Stand p l e ({ frames := 1, cells := 0, slots := 0, locals := 14 } : Room) s m #[(.int i), (.int N)] below meth c s₁ [] 0 0 := Stand.of_body Bd
  have e0 : s₁.heap = h0 := by rw [← hh, Bd.state]; rfl
  have N0 := Fr.nil n0
  refine own_start (ef_sci m i N) (Q := fun o' t' => ∃ v' L', o' = .returned v' ∧ Qsci Z i N fm h0 n0 v' t'.heap L' ∧ FrameEnd s o' t' L' ({ frames := 1, cells := 0, slots := 0, locals := 14 } : Room).cells ({ frames := 1, cells := 0, slots := 0, locals := 14 } : Room).slots) ?_
  show own_Fin p e below (s₁.setTop (mkF m 0 #[.val (.int i), .val (.int N)] [])) _
  refine own_go (fun _ k => XS.iloadN X0.here hx rfl (hb hby d32_0) rfl (XS.iloadN X0.here hx rfl (hb hby d32_1) rfl k)) ?_
  show own_Fin p e below (s₁.setTop (mkF m 2 #[.val (.int i), .val (.int N)] [(.int N), (.int i)])) _
  obtain ⟨T552, X552, e552, st552⟩ := getS2 X0 hx hZ hown (host := "") (Or.inl (ow hw 168)) Via.refl e0 (S_Preconditions_SIOOBE_FORMATTER.ext O.2) (g := (mkF m 2 #[.val (.int i), .val (.int N)] [(.int N), (.int i)])) rfl (hb hby d32_2)
  refine own_go (fun _ k => st552 _ k) ?_
  show own_Fin p e below (T552.setTop (mkF m 5 #[.val (.int i), .val (.int N)] [fm, (.int N), (.int i)])) _
  obtain ⟨_, _, ⟨T553, L553, k553, n553⟩, -, X553, ⟨Lc553, hQ553, l553, y553, z553⟩, st553⟩ := Jvm.LawKit.callS X552 hx (y := (⟨"jdk/internal/util/Preconditions", "checkIndex", "(IILjava/util/function/BiFunction;)I"⟩ : MethodName)) hown (mvT hZ (ow hw 170)) (mvT hZ (ow hw 171)) (mvT hZ (ow hw 169)) (mvT hZ (ow hw 172)) (by decide) (backOf (W := 0) (pci l Z a0 hw [] i N fm h0 n0 hfm hi0 hi1) hZ (ow hw 172) (ow hw 169) (by decide) (by decide)) (g := (mkF m 5 #[.val (.int i), .val (.int N)] [fm, (.int N), (.int i)])) rfl (by rw [hml]; rfl) (argsL := [(.int i), (.int N), fm]) (rest := []) (lenOf pd_18 rfl) rfl (by show 2 * 0 + _ ≤ _; exact Nat.le_of_eq rfl) (hb hby d32_5) (fun _ _ => ⟨rfl, e552, (by decide : 0 + 0 ≤ _), (by decide : 0 + 0 ≤ _)⟩)
  dsimp only [Pt.U, Pt.locs, Pt.cells, Pt.slots] at X553 l553 y553 z553 st553 hQ553
  subst l553 y553 z553
  obtain ⟨rfl, N553q, e553⟩ := hQ553
  refine own_go (fun _ k => st553 _ k) ?_
  have N553 := Fr.app N0 N553q
  show own_Fin p e below (T553.setTop (mkF m 8 #[.val (.int i), .val (.int N)] [(.int i)])) _
  refine own_go (fun _ k => XS.pop X553.here hx rfl (hb hby d32_8) rfl rfl k) ?_
  show own_Fin p e below (T553.setTop (mkF m 9 #[.val (.int i), .val (.int N)] [])) _
  obtain ⟨fs, hr, hrun, hended, hW, hsame⟩ := X553.leave (v := none) (fun _ => rfl)
  refine ⟨_, _, ?_, hrun, hended, _, _, rfl, ?_, ⟨_, rfl⟩, hW, hsame.mono (by decide) (by decide)⟩
  ·exact X553.returnOut hx Bd.returns (hb hby d32_9) hr
  ·show Qsci Z i N fm h0 n0 _ T553.heap _
   rw [e553]
   exact ⟨rfl, N553, rfl⟩
theorem d31_0 : decode jdk_43_method_2_code 0 = .ok (.iload_n 1, 1) := by decide +kernel
theorem d31_1 : decode jdk_43_method_2_code 1 = .ok (.aload_n 0, 1) := by decide +kernel
theorem d31_2 : decode jdk_43_method_2_code 2 = .ok (.arraylength, 1) := by decide +kernel
theorem d31_3 : decode jdk_43_method_2_code 3 = .ok (.invokestatic 9, 3) := by decide +kernel
theorem d31_6 : decode jdk_43_method_2_code 6 = .ok (.aload_n 0, 1) := by decide +kernel
theorem d31_7 : decode jdk_43_method_2_code 7 = .ok (.iload_n 1, 1) := by decide +kernel
theorem d31_8 : decode jdk_43_method_2_code 8 = .ok (.baload, 1) := by decide +kernel
theorem d31_9 : decode jdk_43_method_2_code 9 = .ok (.sipush 255, 3) := by decide +kernel
theorem d31_12 : decode jdk_43_method_2_code 12 = .ok (.iand, 1) := by decide +kernel
theorem d31_13 : decode jdk_43_method_2_code 13 = .ok (.i2c, 1) := by decide +kernel
theorem d31_14 : decode jdk_43_method_2_code 14 = .ok (.ireturn, 1) := by decide +kernel
theorem ef_lca (m : MethodId) (x0 : Addr) (x1 : Int32) : entryFrame m #[(.ref x0), (.int x1)] 2 = mkF m 0 #[.val (.ref x0), .val (.int x1)] [] := by first | (simp [entryFrame, mkF, argsToLocals, Value.category]; done) | rfl
def Qlca (Z : State) (t : Addr) (i : Int32) (kt : ClassId) (N : Int32) (vs : List Value) (fm : Value) (v_ : Int32) (h0 : Heap) (n0 : Nat) (v : Option Value) (h : Heap) (L : List Loc) : Prop := v = some (.int (nar .char ((v_ &&& (255 : Int32)).toUInt32.toUInt16.toUInt32.toInt32))) ∧ Fr n0 L ∧ h = h0
set_option maxRecDepth 65536 in
set_option maxHeartbeats 40000000 in
theorem lca (l : Launch) (Z : State) (a0 : Array Value) (hw : ∀ d ∈ tables_1, d.before a0 Z = true) (ws : List Jvm.Cond) (t : Addr) (i : Int32) (kt : ClassId) (N : Int32) (vs : List Value) (fm : Value) (v_ : Int32) (h0 : Heap) (n0 : Nat) (O : Old Z n0 h0) (V_t : Arv Z h0 t kt .byte N vs (.int 0)) (S_Preconditions_SIOOBE_FORMATTER : Sta Z Z.heap "jdk/internal/util/Preconditions" "SIOOBE_FORMATTER" "Ljava/util/function/BiFunction;" fm) (hfm : fm.isRef = true) (hi0 : ¬ (i < (0 : Int32))) (hi1 : i < N) (hv : vs.getD i.toNatClampNeg (.int 0) = .int v_) :
    MetFree l (⟨"java/lang/StringLatin1", "charAt", "([BI)C"⟩ : MethodName) (head1 (Jvm.Cond.code (⟨"java/lang/StringLatin1", "charAt", "([BI)C"⟩ : MethodName) jdk_43_method_2_code 2 (some .char) :: ws) ({ frames := 2, cells := 0, slots := 0, locals := 27 } : Room)) (fun a' U' => a' = #[(.ref t), (.int i)] ∧ Z.Warmed39 U'.vm ∧ U'.heap = h0) (fun _ _ _ _ _ => True) (fun _ U' o' W' => ∃ v' L', o' = .returned v' ∧ Qlca Z t i kt N vs fm v_ h0 n0 v' W'.heap L' ∧ FrameEnd U' o' W' L' ({ frames := 2, cells := 0, slots := 0, locals := 27 } : Room).cells ({ frames := 2, cells := 0, slots := 0, locals := 27 } : Room).slots) := by
  refine MetFree.of_bodySF (plainFor_of_name pn_2) hisR ?_
  intro p e s m args below meth c s₁ Bd hml0 hP hK
  obtain ⟨rfl, hZ, hh⟩ := hP
  have hx := Bd.exec
  have hby := Bd.bytes
  have hml : c.maxLocals = 2 := hml0
  have hown : s.vm.findClass "java/lang/StringLatin1" = some m.cls := findClass_of_methodNamed Bd.named
  have hnm := (name_of_methodNamed Bd.named Bd.method).1
  have X0 : Stand p l e ({ frames := 2, cells := 0, slots := 0, locals := 27 } : Room) s m #[(.ref t), (.int i)] below meth c s₁ [] 0 0 := Stand.of_body Bd
  have e0 : s₁.heap = h0 := by rw [← hh, Bd.state]; rfl
  have N0 := Fr.nil n0
  refine own_start (ef_lca m t i) (Q := fun o' t' => ∃ v' L', o' = .returned v' ∧ Qlca Z t i kt N vs fm v_ h0 n0 v' t'.heap L' ∧ FrameEnd s o' t' L' ({ frames := 2, cells := 0, slots := 0, locals := 27 } : Room).cells ({ frames := 2, cells := 0, slots := 0, locals := 27 } : Room).slots) ?_
  show own_Fin p e below (s₁.setTop (mkF m 0 #[.val (.ref t), .val (.int i)] [])) _
  refine own_go (fun _ k => XS.iloadN X0.here hx rfl (hb hby d31_0) rfl (XS.aloadN X0.here hx rfl (hb hby d31_1) rfl rfl k)) ?_
  show own_Fin p e below (s₁.setTop (mkF m 2 #[.val (.ref t), .val (.int i)] [(.ref t), (.int i)])) _
  obtain ⟨cl555, A555, -, S555, M555, -, -⟩ := id V_t
  refine own_go (fun _ k => X0.arraylength hx (own_eqE e0 A555.1) (State.isArrayOf_alike hZ.alike A555.2.1) (g := (mkF m 2 #[.val (.ref t), .val (.int i)] [(.ref t), (.int i)])) rfl rfl (hb hby d31_2) _ (by rw [len_of S555 M555]; exact k)) ?_
  show own_Fin p e below (s₁.setTop (mkF m 3 #[.val (.ref t), .val (.int i)] [(.int N), (.int i)])) _
  obtain ⟨_, _, ⟨T556, L556, k556, n556⟩, -, X556, ⟨Lc556, hQ556, l556, y556, z556⟩, st556⟩ := Jvm.LawKit.callS X0 hx (y := (⟨"java/lang/String", "checkIndex", "(II)V"⟩ : MethodName)) hown (mvT hZ (ow hw 165)) (mvT hZ (ow hw 166)) (mvT hZ (ow hw 21)) (mvT hZ (ow hw 167)) (by decide) (backOf (W := 0) (sci l Z a0 hw [] i N fm h0 n0 O S_Preconditions_SIOOBE_FORMATTER hfm hi0 hi1) hZ (ow hw 167) (ow hw 21) (by decide) (by decide)) (g := (mkF m 3 #[.val (.ref t), .val (.int i)] [(.int N), (.int i)])) rfl (by rw [hml]; rfl) (argsL := [(.int i), (.int N)]) (rest := []) (lenOf pd_9 rfl) rfl (by show 2 * 0 + _ ≤ _; exact Nat.le_of_eq rfl) (hb hby d31_3) (fun _ _ => ⟨rfl, e0, (by decide : 0 + 0 ≤ _), (by decide : 0 + 0 ≤ _)⟩)
  dsimp only [Pt.U, Pt.locs, Pt.cells, Pt.slots] at X556 l556 y556 z556 st556 hQ556
  subst l556 y556 z556
  obtain ⟨rfl, N556q, e556⟩ := hQ556
  refine own_go (fun _ k => st556 _ k) ?_
  have N556 := Fr.app N0 N556q
  show own_Fin p e below (T556.setTop (mkF m 6 #[.val (.ref t), .val (.int i)] [])) _
  refine own_go (fun _ k => XS.aloadN X556.here hx rfl (hb hby d31_6) rfl rfl (XS.iloadN X556.here hx rfl (hb hby d31_7) rfl k)) ?_
  show own_Fin p e below (T556.setTop (mkF m 8 #[.val (.ref t), .val (.int i)] [(.int i), (.ref t)])) _
  obtain ⟨cl557, A557, q557, S557, M557, H557, G557⟩ := id V_t
  have hin557 : ¬ (i < 0 ∨ cl557.slots.size ≤ (i).toNatClampNeg) := inb_of S557 ⟨hi0, hi1⟩
  have hat557 : cl557.slots[(i).toNatClampNeg]? = some (.int v_) := Has.at H557 hin557 hv
  refine own_go (fun _ k => X556.baloadBytes hx (j := i) (v := (.int v_)) (own_eqE e556 A557.1) (State.isArrayOf_alike hZ.alike A557.2.1) A557.2.2 hin557 hat557 (g := (mkF m 8 #[.val (.ref t), .val (.int i)] [(.int i), (.ref t)])) rfl rfl (hb hby d31_8) _ k) ?_
  show own_Fin p e below (T556.setTop (mkF m 9 #[.val (.ref t), .val (.int i)] [(.int v_)])) _
  refine own_go (fun _ k => XS.sipush X556.here hx rfl (hb hby d31_9) (XS.iand X556.here hx rfl (hb hby d31_12) rfl (XS.i2c X556.here hx rfl (hb hby d31_13) rfl k))) ?_
  show own_Fin p e below (T556.setTop (mkF m 14 #[.val (.ref t), .val (.int i)] [(.int ((v_ &&& (255 : Int32)).toUInt32.toUInt16.toUInt32.toInt32))])) _
  obtain ⟨fs, hr, hrun, hended, hW, hsame⟩ := X556.leave (v := some (.int (nar .char ((v_ &&& (255 : Int32)).toUInt32.toUInt16.toUInt32.toInt32)))) (fun h => by rw [Bd.returns] at h; cases h)
  refine ⟨_, _, ?_, hrun, hended, _, _, rfl, ?_, ⟨_, rfl⟩, hW, hsame.mono (by decide) (by decide)⟩
  ·exact retN X556 hx (t := .char) Bd.returns (by simp) (hb hby d31_14) hr
  ·show Qlca Z t i kt N vs fm v_ h0 n0 _ T556.heap _
   rw [e556]
   exact ⟨rfl, N556, rfl⟩
theorem d29_0 : decode jdk_42_method_56_code 0 = .ok (.aload_n 0, 1) := by decide +kernel
theorem d29_1 : decode jdk_42_method_56_code 1 = .ok (.invokevirtual 492, 3) := by decide +kernel
theorem d29_4 : decode jdk_42_method_56_code 4 = .ok (.ifCond .eq 12, 3) := by decide +kernel
theorem d29_7 : decode jdk_42_method_56_code 7 = .ok (.aload_n 0, 1) := by decide +kernel
theorem d29_8 : decode jdk_42_method_56_code 8 = .ok (.getfield 9, 3) := by decide +kernel
theorem d29_11 : decode jdk_42_method_56_code 11 = .ok (.iload_n 1, 1) := by decide +kernel
theorem d29_12 : decode jdk_42_method_56_code 12 = .ok (.invokestatic 495, 3) := by decide +kernel
theorem pd_19 : parseMethodDescriptor "([BI)C" = some ⟨[(.array .byte), .int], some .char⟩ := by decide +kernel
theorem d29_15 : decode jdk_42_method_56_code 15 = .ok (.ireturn, 1) := by decide +kernel
theorem ef_sca (m : MethodId) (x0 : Addr) (x1 : Int32) : entryFrame m #[(.ref x0), (.int x1)] 2 = mkF m 0 #[.val (.ref x0), .val (.int x1)] [] := by first | (simp [entryFrame, mkF, argsToLocals, Value.category]; done) | rfl
def Qsca (Z : State) (s_ : Addr) (i : Int32) (z : Int32) (t : Addr) (kt : ClassId) (N : Int32) (vs : List Value) (fm : Value) (v_ : Int32) (h0 : Heap) (n0 : Nat) (v : Option Value) (h : Heap) (L : List Loc) : Prop := v = some (.int (own_E v_)) ∧ Fr n0 L ∧ h = h0
set_option maxRecDepth 65536 in
set_option maxHeartbeats 40000000 in
theorem sca (l : Launch) (Z : State) (a0 : Array Value) (hw : ∀ d ∈ tables_1, d.before a0 Z = true) (ws : List Jvm.Cond) (s_ : Addr) (i : Int32) (z : Int32) (t : Addr) (kt : ClassId) (N : Int32) (vs : List Value) (fm : Value) (v_ : Int32) (h0 : Heap) (n0 : Nat) (O : Old Z n0 h0) (S_String_COMPACT_STRINGS : Sta Z Z.heap "java/lang/String" "COMPACT_STRINGS" "Z" (.int z)) (hz : ¬ (z = (0 : Int32))) (E_s_ : Exa Z h0 s_ "java/lang/String") (F_s__String_coder : Fld Z h0 s_ "java/lang/String" "coder" "B" (.int 0)) (F_s__String_value : Fld Z h0 s_ "java/lang/String" "value" "[B" (.ref t)) (V_t : Arv Z h0 t kt .byte N vs (.int 0)) (S_Preconditions_SIOOBE_FORMATTER : Sta Z Z.heap "jdk/internal/util/Preconditions" "SIOOBE_FORMATTER" "Ljava/util/function/BiFunction;" fm) (hfm : fm.isRef = true) (hi0 : ¬ (i < (0 : Int32))) (hi1 : i < N) (hv : vs.getD i.toNatClampNeg (.int 0) = .int v_) :
    MetFree l (⟨"java/lang/String", "charAt", "(I)C"⟩ : MethodName) (head1 (Jvm.Cond.code (⟨"java/lang/String", "charAt", "(I)C"⟩ : MethodName) jdk_42_method_56_code 2 (some .char) :: ws) ({ frames := 3, cells := 0, slots := 0, locals := 40 } : Room)) (fun a' U' => a' = #[(.ref s_), (.int i)] ∧ Z.Warmed39 U'.vm ∧ U'.heap = h0) (fun _ _ _ _ _ => True) (fun _ U' o' W' => ∃ v' L', o' = .returned v' ∧ Qsca Z s_ i z t kt N vs fm v_ h0 n0 v' W'.heap L' ∧ FrameEnd U' o' W' L' ({ frames := 3, cells := 0, slots := 0, locals := 40 } : Room).cells ({ frames := 3, cells := 0, slots := 0, locals := 40 } : Room).slots) := by
  refine MetFree.of_bodySF (plainFor_of_name pn_5) hisR ?_
  intro p e s m args below meth c s₁ Bd hml0 hP hK
  obtain ⟨rfl, hZ, hh⟩ := hP
  have hx := Bd.exec
  have hby := Bd.bytes
  have hml : c.maxLocals = 2 := hml0
  have hown : s.vm.findClass "java/lang/String" = some m.cls := findClass_of_methodNamed Bd.named
  have hnm := (name_of_methodNamed Bd.named Bd.method).1
  have X0 : Stand p l e ({ frames := 3, cells := 0, slots := 0, locals := 40 } : Room) s m #[(.ref s_), (.int i)] below meth c s₁ [] 0 0 := Stand.of_body Bd
  have e0 : s₁.heap = h0 := by rw [← hh, Bd.state]; rfl
  have N0 := Fr.nil n0
  refine own_start (ef_sca m s_ i) (Q := fun o' t' => ∃ v' L', o' = .returned v' ∧ Qsca Z s_ i z t kt N vs fm v_ h0 n0 v' t'.heap L' ∧ FrameEnd s o' t' L' ({ frames := 3, cells := 0, slots := 0, locals := 40 } : Room).cells ({ frames := 3, cells := 0, slots := 0, locals := 40 } : Room).slots) ?_
  show own_Fin p e below (s₁.setTop (mkF m 0 #[.val (.ref s_), .val (.int i)] [])) _
  refine own_go (fun _ k => XS.aloadN X0.here hx rfl (hb hby d29_0) rfl rfl k) ?_
  show own_Fin p e below (s₁.setTop (mkF m 1 #[.val (.ref s_), .val (.int i)] [(.ref s_)])) _
  obtain ⟨cq559, kq559, q559a, q559b, q559c⟩ := isOf hZ e0 E_s_
  obtain ⟨_, _, ⟨T559, L559, k559, n559⟩, -, X559, ⟨Lc559, hQ559, l559, y559, z559⟩, st559⟩ := X0.virtualBack hx (y := (⟨"java/lang/String", "isLatin1", "()Z"⟩ : MethodName)) (z := (⟨"java/lang/String", "isLatin1", "()Z"⟩ : MethodName)) hown (mvT hZ (ow hw 157)) (mvT hZ (ow hw 158)) (notFace_of_selects (args := #[]) (mvT hZ (ow hw 160))) (mvT hZ (ow hw 160)) (mvT hZ (ow hw 159)) (by decide) (backOf (W := 0) (sil l Z a0 hw [] s_ z h0 n0 O S_String_COMPACT_STRINGS hz F_s__String_coder) hZ (ow hw 161) (ow hw 21) (by decide) (by decide)) q559a q559c (g := (mkF m 1 #[.val (.ref s_), .val (.int i)] [(.ref s_)])) rfl (by rw [hml]; rfl) (Steps.refl _) (argsL := []) (rest := []) (lenOf pd_5 rfl) rfl (by show 2 * 0 + _ ≤ _; exact Nat.le_of_eq rfl) (hb hby d29_1) (fun _ _ => ⟨rfl, e0, (by decide : 0 + 0 ≤ _), (by decide : 0 + 0 ≤ _)⟩)
  dsimp only [Pt.U, Pt.locs, Pt.cells, Pt.slots] at X559 l559 y559 z559 st559 hQ559
  subst l559 y559 z559
  obtain ⟨rfl, N559q, e559⟩ := hQ559
  refine own_go (fun _ k => st559.trans k) ?_
  have N559 := Fr.app N0 N559q
  show own_Fin p e below (T559.setTop (mkF m 4 #[.val (.ref s_), .val (.int i)] [(.int 1)])) _
  refine own_go (fun _ k => XS.ifNo X559.here hx rfl (hb hby d29_4) rfl ((if0 _ _).trans (feq (by decide : ¬ ((1 : Int32) = (0 : Int32)))).1) (XS.aloadN X559.here hx rfl (hb hby d29_7) rfl rfl k)) ?_
  show own_Fin p e below (T559.setTop (mkF m 8 #[.val (.ref s_), .val (.int i)] [(.ref s_)])) _
  obtain ⟨T560, X560, e560, st560⟩ := getF X559 hx hZ hown (host := "") (Or.inl (ow hw 77)) Via.refl e559 F_s__String_value (g := (mkF m 8 #[.val (.ref s_), .val (.int i)] [(.ref s_)])) rfl rfl (hb hby d29_8)
  refine own_go (fun _ k => st560 _ k) ?_
  show own_Fin p e below (T560.setTop (mkF m 11 #[.val (.ref s_), .val (.int i)] [(.ref t)])) _
  refine own_go (fun _ k => XS.iloadN X560.here hx rfl (hb hby d29_11) rfl k) ?_
  show own_Fin p e below (T560.setTop (mkF m 12 #[.val (.ref s_), .val (.int i)] [(.int i), (.ref t)])) _
  obtain ⟨_, _, ⟨T561, L561, k561, n561⟩, -, X561, ⟨Lc561, hQ561, l561, y561, z561⟩, st561⟩ := Jvm.LawKit.callS X560 hx (y := (⟨"java/lang/StringLatin1", "charAt", "([BI)C"⟩ : MethodName)) hown (mvT hZ (ow hw 162)) (mvT hZ (ow hw 163)) (mvT hZ (ow hw 107)) (mvT hZ (ow hw 164)) (by decide) (backOf (W := 0) (lca l Z a0 hw [] t i kt N vs fm v_ h0 n0 O V_t S_Preconditions_SIOOBE_FORMATTER hfm hi0 hi1 hv) hZ (ow hw 164) (ow hw 107) (by decide) (by decide)) (g := (mkF m 12 #[.val (.ref s_), .val (.int i)] [(.int i), (.ref t)])) rfl (by rw [hml]; rfl) (argsL := [(.ref t), (.int i)]) (rest := []) (lenOf pd_19 rfl) rfl (by show 2 * 0 + _ ≤ _; exact Nat.le_of_eq rfl) (hb hby d29_12) (fun _ _ => ⟨rfl, e560, (by decide : 0 + 0 ≤ _), (by decide : 0 + 0 ≤ _)⟩)
  dsimp only [Pt.U, Pt.locs, Pt.cells, Pt.slots] at X561 l561 y561 z561 st561 hQ561
  subst l561 y561 z561
  obtain ⟨rfl, N561q, e561⟩ := hQ561
  refine own_go (fun _ k => st561 _ k) ?_
  have N561 := Fr.app N559 N561q
  show own_Fin p e below (T561.setTop (mkF m 15 #[.val (.ref s_), .val (.int i)] [(.int (nar .char ((v_ &&& (255 : Int32)).toUInt32.toUInt16.toUInt32.toInt32)))])) _
  obtain ⟨fs, hr, hrun, hended, hW, hsame⟩ := X561.leave (v := some (.int (nar .char (nar .char ((v_ &&& (255 : Int32)).toUInt32.toUInt16.toUInt32.toInt32))))) (fun h => by rw [Bd.returns] at h; cases h)
  refine ⟨_, _, ?_, hrun, hended, _, _, rfl, ?_, ⟨_, rfl⟩, hW, hsame.mono (by decide) (by decide)⟩
  ·exact retN X561 hx (t := .char) Bd.returns (by simp) (hb hby d29_15) hr
  ·show Qsca Z s_ i z t kt N vs fm v_ h0 n0 _ T561.heap _
   rw [e561]
   exact ⟨rfl, N561, rfl⟩
def own_Ch (vs : List Value) (N i c : Int32) : Prop := ¬ (i < (0 : Int32)) ∧ i < N ∧ ∃ v : Int32, vs.getD i.toNatClampNeg (.int 0) = .int v ∧ own_E v = c
def own_At (vs : List Value) (N off b : Int32) : Prop := (own_unres b → own_Ch vs N off (b.toUInt32.toUInt16.toUInt32.toInt32)) ∧ (¬ own_unres b → own_Ch vs N off 37 ∧ own_Ch vs N (off + (1 : Int32)) (own_hx (b / (16 : Int32))) ∧ own_Ch vs N (off + (2 : Int32)) (own_hx (b % (16 : Int32))))
theorem d28_0 : decode method_5_code 0 = .ok (.iload_n 2, 1) := by decide +kernel
theorem d28_1 : decode method_5_code 1 = .ok (.invokestatic 7, 3) := by decide +kernel
theorem d28_4 : decode method_5_code 4 = .ok (.ifCond .eq 19, 3) := by decide +kernel
theorem d28_7 : decode method_5_code 7 = .ok (.aload_n 0, 1) := by decide +kernel
theorem d28_8 : decode method_5_code 8 = .ok (.iload_n 1, 1) := by decide +kernel
theorem d28_9 : decode method_5_code 9 = .ok (.invokevirtual 13, 3) := by decide +kernel
theorem pd_20 : parseMethodDescriptor "(I)C" = some ⟨[.int], some .char⟩ := by decide +kernel
theorem d28_12 : decode method_5_code 12 = .ok (.iload_n 2, 1) := by decide +kernel
theorem d28_13 : decode method_5_code 13 = .ok (.i2c, 1) := by decide +kernel
theorem d28_14 : decode method_5_code 14 = .ok (.if_icmp .ne 7, 3) := by decide +kernel
theorem d28_17 : decode method_5_code 17 = .ok (.iconst 1, 1) := by decide +kernel
theorem d28_18 : decode method_5_code 18 = .ok (.goto 4, 3) := by decide +kernel
theorem d28_22 : decode method_5_code 22 = .ok (.ireturn, 1) := by decide +kernel
theorem d28_23 : decode method_5_code 23 = .ok (.aload_n 0, 1) := by decide +kernel
theorem d28_24 : decode method_5_code 24 = .ok (.iload_n 1, 1) := by decide +kernel
theorem d28_25 : decode method_5_code 25 = .ok (.invokevirtual 13, 3) := by decide +kernel
theorem d28_28 : decode method_5_code 28 = .ok (.bipush 37, 2) := by decide +kernel
theorem d28_30 : decode method_5_code 30 = .ok (.if_icmp .ne 41, 3) := by decide +kernel
theorem d28_33 : decode method_5_code 33 = .ok (.aload_n 0, 1) := by decide +kernel
theorem d28_34 : decode method_5_code 34 = .ok (.iload_n 1, 1) := by decide +kernel
theorem d28_35 : decode method_5_code 35 = .ok (.iconst 1, 1) := by decide +kernel
theorem d28_36 : decode method_5_code 36 = .ok (.iadd, 1) := by decide +kernel
theorem d28_37 : decode method_5_code 37 = .ok (.invokevirtual 13, 3) := by decide +kernel
theorem d28_40 : decode method_5_code 40 = .ok (.iload_n 2, 1) := by decide +kernel
theorem d28_41 : decode method_5_code 41 = .ok (.bipush 16, 2) := by decide +kernel
theorem d28_43 : decode method_5_code 43 = .ok (.idiv, 1) := by decide +kernel
theorem d28_44 : decode method_5_code 44 = .ok (.invokestatic 19, 3) := by decide +kernel
theorem d28_47 : decode method_5_code 47 = .ok (.if_icmp .ne 24, 3) := by decide +kernel
theorem d28_50 : decode method_5_code 50 = .ok (.aload_n 0, 1) := by decide +kernel
theorem d28_51 : decode method_5_code 51 = .ok (.iload_n 1, 1) := by decide +kernel
theorem d28_52 : decode method_5_code 52 = .ok (.iconst 2, 1) := by decide +kernel
theorem d28_53 : decode method_5_code 53 = .ok (.iadd, 1) := by decide +kernel
theorem d28_54 : decode method_5_code 54 = .ok (.invokevirtual 13, 3) := by decide +kernel
theorem d28_57 : decode method_5_code 57 = .ok (.iload_n 2, 1) := by decide +kernel
theorem d28_58 : decode method_5_code 58 = .ok (.bipush 16, 2) := by decide +kernel
theorem d28_60 : decode method_5_code 60 = .ok (.irem, 1) := by decide +kernel
theorem d28_61 : decode method_5_code 61 = .ok (.invokestatic 19, 3) := by decide +kernel
theorem d28_64 : decode method_5_code 64 = .ok (.if_icmp .ne 7, 3) := by decide +kernel
theorem d28_67 : decode method_5_code 67 = .ok (.iconst 1, 1) := by decide +kernel
theorem d28_68 : decode method_5_code 68 = .ok (.goto 4, 3) := by decide +kernel
theorem d28_72 : decode method_5_code 72 = .ok (.ireturn, 1) := by decide +kernel
theorem ef_atb (m : MethodId) (x0 : Addr) (x1 : Int32) (x2 : Int32) : entryFrame m #[(.ref x0), (.int x1), (.int x2)] 3 = mkF m 0 #[.val (.ref x0), .val (.int x1), .val (.int x2)] [] := by first | (simp [entryFrame, mkF, argsToLocals, Value.category]; done) | rfl
def Qatb (Z : State) (s_ : Addr) (off : Int32) (b : Int32) (z : Int32) (t : Addr) (kt : ClassId) (N : Int32) (vs : List Value) (fm : Value) (h0 : Heap) (n0 : Nat) (v : Option Value) (h : Heap) (L : List Loc) : Prop := v = some (.int 1) ∧ Fr n0 L ∧ h = h0
set_option maxRecDepth 65536 in
set_option maxHeartbeats 40000000 in
theorem atb (l : Launch) (Z : State) (a0 : Array Value) (hw : ∀ d ∈ tables_1, d.before a0 Z = true) (ws : List Jvm.Cond) (s_ : Addr) (off : Int32) (b : Int32) (z : Int32) (t : Addr) (kt : ClassId) (N : Int32) (vs : List Value) (fm : Value) (h0 : Heap) (n0 : Nat) (O : Old Z n0 h0) (S_String_COMPACT_STRINGS : Sta Z Z.heap "java/lang/String" "COMPACT_STRINGS" "Z" (.int z)) (hz : ¬ (z = (0 : Int32))) (E_s_ : Exa Z h0 s_ "java/lang/String") (F_s__String_coder : Fld Z h0 s_ "java/lang/String" "coder" "B" (.int 0)) (F_s__String_value : Fld Z h0 s_ "java/lang/String" "value" "[B" (.ref t)) (V_t : Arv Z h0 t kt .byte N vs (.int 0)) (S_Preconditions_SIOOBE_FORMATTER : Sta Z Z.heap "jdk/internal/util/Preconditions" "SIOOBE_FORMATTER" "Ljava/util/function/BiFunction;" fm) (hfm : fm.isRef = true) (hA : own_At vs N off b) :
    MetFree l (⟨"com/example/espalier/espalier/UrisEncodePinLaw", "at", "(Ljava/lang/String;II)Z"⟩ : MethodName) (head1 (Jvm.Cond.code (⟨"com/example/espalier/espalier/UrisEncodePinLaw", "at", "(Ljava/lang/String;II)Z"⟩ : MethodName) method_5_code 3 (some .boolean) :: ws) ({ frames := 4, cells := 0, slots := 0, locals := 53 } : Room)) (fun a' U' => a' = #[(.ref s_), (.int off), (.int b)] ∧ Z.Warmed39 U'.vm ∧ U'.heap = h0) (fun _ _ _ _ _ => True) (fun _ U' o' W' => ∃ v' L', o' = .returned v' ∧ Qatb Z s_ off b z t kt N vs fm h0 n0 v' W'.heap L' ∧ FrameEnd U' o' W' L' ({ frames := 4, cells := 0, slots := 0, locals := 53 } : Room).cells ({ frames := 4, cells := 0, slots := 0, locals := 53 } : Room).slots) := by
  refine MetFree.of_bodySF (plainFor_of_name pn_7) hisR ?_
  intro p e s m args below meth c s₁ Bd hml0 hP hK
  obtain ⟨rfl, hZ, hh⟩ := hP
  have hx := Bd.exec
  have hby := Bd.bytes
  have hml : c.maxLocals = 3 := hml0
  have hown : s.vm.findClass "com/example/espalier/espalier/UrisEncodePinLaw" = some m.cls := findClass_of_methodNamed Bd.named
  have hnm := (name_of_methodNamed Bd.named Bd.method).1
  have X0 : Stand p l e ({ frames := 4, cells := 0, slots := 0, locals := 53 } : Room) s m #[(.ref s_), (.int off), (.int b)] below meth c s₁ [] 0 0 := Stand.of_body Bd
  have e0 : s₁.heap = h0 := by rw [← hh, Bd.state]; rfl
  have N0 := Fr.nil n0
  refine own_start (ef_atb m s_ off b) (Q := fun o' t' => ∃ v' L', o' = .returned v' ∧ Qatb Z s_ off b z t kt N vs fm h0 n0 v' t'.heap L' ∧ FrameEnd s o' t' L' ({ frames := 4, cells := 0, slots := 0, locals := 53 } : Room).cells ({ frames := 4, cells := 0, slots := 0, locals := 53 } : Room).slots) ?_
  show own_Fin p e below (s₁.setTop (mkF m 0 #[.val (.ref s_), .val (.int off), .val (.int b)] [])) _
  refine own_go (fun _ k => XS.iloadN X0.here hx rfl (hb hby d28_0) rfl k) ?_
  show own_Fin p e below (s₁.setTop (mkF m 1 #[.val (.ref s_), .val (.int off), .val (.int b)] [(.int b)])) _
  obtain ⟨_, _, ⟨T563, L563, k563, n563⟩, -, X563, ⟨Lc563, hQ563, l563, y563, z563⟩, st563⟩ := Jvm.LawKit.callS X0 hx (y := (⟨"com/example/espalier/espalier/UrisEncodePinLaw", "unreserved", "(I)Z"⟩ : MethodName)) hown (mvT hZ (ow hw 146)) (mvT hZ (ow hw 147)) (mvT hZ (ow hw 144)) (mvT hZ (ow hw 148)) (by decide) (backOf (W := 0) (rm27 l Z a0 hw [] b h0 n0 ) hZ (ow hw 148) (ow hw 144) (by decide) (by decide)) (g := (mkF m 1 #[.val (.ref s_), .val (.int off), .val (.int b)] [(.int b)])) rfl (by rw [hml]; rfl) (argsL := [(.int b)]) (rest := []) (lenOf pd_16 rfl) rfl (by show 2 * 0 + _ ≤ _; exact Nat.le_of_eq rfl) (hb hby d28_1) (fun _ _ => ⟨rfl, e0, (by decide : 0 + 0 ≤ _), (by decide : 0 + 0 ≤ _)⟩)
  dsimp only [Pt.U, Pt.locs, Pt.cells, Pt.slots] at X563 l563 y563 z563 st563 hQ563
  subst l563 y563 z563
  obtain ⟨rfl, N563q, e563⟩ := hQ563
  refine own_go (fun _ k => st563 _ k) ?_
  have N563 := Fr.app N0 N563q
  show own_Fin p e below (T563.setTop (mkF m 4 #[.val (.ref s_), .val (.int off), .val (.int b)] [(.int (own_bi (own_unres b)))])) _
  by_cases hc4_564 : own_unres b
  ·refine own_go (fun _ k => XS.ifNo X563.here hx rfl (hb hby d28_4) rfl ((if0 _ _).trans (feq (own_bn hc4_564)).1) k) ?_
   show own_Fin p e below (T563.setTop (mkF m 7 #[.val (.ref s_), .val (.int off), .val (.int b)] [])) _
   obtain ⟨a0_, b0_, v0_, c0_, e0_⟩ := hA.1 hc4_564
   show own_Fin p e below (T563.setTop (mkF m 7 #[.val (.ref s_), .val (.int off), .val (.int b)] [])) _
   refine own_go (fun _ k => XS.aloadN X563.here hx rfl (hb hby d28_7) rfl rfl (XS.iloadN X563.here hx rfl (hb hby d28_8) rfl k)) ?_
   show own_Fin p e below (T563.setTop (mkF m 9 #[.val (.ref s_), .val (.int off), .val (.int b)] [(.int off), (.ref s_)])) _
   obtain ⟨cq565, kq565, q565a, q565b, q565c⟩ := isOf hZ e563 E_s_
   obtain ⟨_, _, ⟨T565, L565, k565, n565⟩, -, X565, ⟨Lc565, hQ565, l565, y565, z565⟩, st565⟩ := X563.virtualBack hx (y := (⟨"java/lang/String", "charAt", "(I)C"⟩ : MethodName)) (z := (⟨"java/lang/String", "charAt", "(I)C"⟩ : MethodName)) hown (mvT hZ (ow hw 152)) (mvT hZ (ow hw 153)) (notFace_of_selects (args := #[]) (mvT hZ (ow hw 155))) (mvT hZ (ow hw 155)) (mvT hZ (ow hw 154)) (by decide) (backOf (W := 0) (sca l Z a0 hw [] s_ off z t kt N vs fm v0_ h0 n0 O S_String_COMPACT_STRINGS hz E_s_ F_s__String_coder F_s__String_value V_t S_Preconditions_SIOOBE_FORMATTER hfm a0_ b0_ c0_) hZ (ow hw 156) (ow hw 21) (by decide) (by decide)) q565a q565c (g := (mkF m 9 #[.val (.ref s_), .val (.int off), .val (.int b)] [(.int off), (.ref s_)])) rfl (by rw [hml]; rfl) (Steps.refl _) (argsL := [(.int off)]) (rest := []) (lenOf pd_20 rfl) rfl (by show 2 * 0 + _ ≤ _; exact Nat.le_of_eq rfl) (hb hby d28_9) (fun _ _ => ⟨rfl, e563, (by decide : 0 + 0 ≤ _), (by decide : 0 + 0 ≤ _)⟩)
   dsimp only [Pt.U, Pt.locs, Pt.cells, Pt.slots] at X565 l565 y565 z565 st565 hQ565
   subst l565 y565 z565
   obtain ⟨rfl, N565q, e565⟩ := hQ565
   refine own_go (fun _ k => st565.trans k) ?_
   have N565 := Fr.app N563 N565q
   show own_Fin p e below (T565.setTop (mkF m 12 #[.val (.ref s_), .val (.int off), .val (.int b)] [(.int (own_E v0_))])) _
   refine own_go (fun _ k => XS.iloadN X565.here hx rfl (hb hby d28_12) rfl (XS.i2c X565.here hx rfl (hb hby d28_13) rfl (XS.icmpNo X565.here hx rfl (hb hby d28_14) rfl (teq e0_).2 (XS.iconst X565.here hx rfl (hb hby d28_17) (XS.goto X565.here hx rfl (pc0 := 18) (pc' := 22) rfl (hb hby d28_18) (by decide) (by decide) k))))) ?_
   show own_Fin p e below (T565.setTop (mkF m 22 #[.val (.ref s_), .val (.int off), .val (.int b)] [(.int 1)])) _
   obtain ⟨fs, hr, hrun, hended, hW, hsame⟩ := X565.leave (v := some (.int 1)) (fun h => by rw [Bd.returns] at h; cases h)
   refine ⟨_, _, ?_, hrun, hended, _, _, rfl, ?_, ⟨_, rfl⟩, hW, hsame.mono (by decide) (by decide)⟩
   ·exact retN X565 hx (t := .boolean) Bd.returns (by simp) (hb hby d28_22) hr
   ·show Qatb Z s_ off b z t kt N vs fm h0 n0 _ T565.heap _
    rw [e565]
    exact ⟨rfl, N565, rfl⟩
  ·refine own_go (fun _ k => XS.ifYes X563.here hx rfl (pc0 := 4) (pc' := 23) rfl (hb hby d28_4) rfl ((if0 _ _).trans (teq (own_bz hc4_564)).1) (by decide) (by decide) k) ?_
   show own_Fin p e below (T563.setTop (mkF m 23 #[.val (.ref s_), .val (.int off), .val (.int b)] [])) _
   obtain ⟨⟨a0_, b0_, v0_, c0_, e0_⟩, ⟨a1_, b1_, v1_, c1_, e1_⟩, a2_, b2_, v2_, c2_, e2_⟩ := hA.2 hc4_564
   show own_Fin p e below (T563.setTop (mkF m 23 #[.val (.ref s_), .val (.int off), .val (.int b)] [])) _
   refine own_go (fun _ k => XS.aloadN X563.here hx rfl (hb hby d28_23) rfl rfl (XS.iloadN X563.here hx rfl (hb hby d28_24) rfl k)) ?_
   show own_Fin p e below (T563.setTop (mkF m 25 #[.val (.ref s_), .val (.int off), .val (.int b)] [(.int off), (.ref s_)])) _
   obtain ⟨cq567, kq567, q567a, q567b, q567c⟩ := isOf hZ e563 E_s_
   obtain ⟨_, _, ⟨T567, L567, k567, n567⟩, -, X567, ⟨Lc567, hQ567, l567, y567, z567⟩, st567⟩ := X563.virtualBack hx (y := (⟨"java/lang/String", "charAt", "(I)C"⟩ : MethodName)) (z := (⟨"java/lang/String", "charAt", "(I)C"⟩ : MethodName)) hown (mvT hZ (ow hw 152)) (mvT hZ (ow hw 153)) (notFace_of_selects (args := #[]) (mvT hZ (ow hw 155))) (mvT hZ (ow hw 155)) (mvT hZ (ow hw 154)) (by decide) (backOf (W := 0) (sca l Z a0 hw [] s_ off z t kt N vs fm v0_ h0 n0 O S_String_COMPACT_STRINGS hz E_s_ F_s__String_coder F_s__String_value V_t S_Preconditions_SIOOBE_FORMATTER hfm a0_ b0_ c0_) hZ (ow hw 156) (ow hw 21) (by decide) (by decide)) q567a q567c (g := (mkF m 25 #[.val (.ref s_), .val (.int off), .val (.int b)] [(.int off), (.ref s_)])) rfl (by rw [hml]; rfl) (Steps.refl _) (argsL := [(.int off)]) (rest := []) (lenOf pd_20 rfl) rfl (by show 2 * 0 + _ ≤ _; exact Nat.le_of_eq rfl) (hb hby d28_25) (fun _ _ => ⟨rfl, e563, (by decide : 0 + 0 ≤ _), (by decide : 0 + 0 ≤ _)⟩)
   dsimp only [Pt.U, Pt.locs, Pt.cells, Pt.slots] at X567 l567 y567 z567 st567 hQ567
   subst l567 y567 z567
   obtain ⟨rfl, N567q, e567⟩ := hQ567
   refine own_go (fun _ k => st567.trans k) ?_
   have N567 := Fr.app N563 N567q
   show own_Fin p e below (T567.setTop (mkF m 28 #[.val (.ref s_), .val (.int off), .val (.int b)] [(.int (own_E v0_))])) _
   refine own_go (fun _ k => XS.bipush X567.here hx rfl (hb hby d28_28) (XS.icmpNo X567.here hx rfl (hb hby d28_30) rfl (teq e0_).2 (XS.aloadN X567.here hx rfl (hb hby d28_33) rfl rfl (XS.iloadN X567.here hx rfl (hb hby d28_34) rfl (XS.iconst X567.here hx rfl (hb hby d28_35) (XS.iadd X567.here hx rfl (hb hby d28_36) rfl k)))))) ?_
   show own_Fin p e below (T567.setTop (mkF m 37 #[.val (.ref s_), .val (.int off), .val (.int b)] [(.int (off + (1 : Int32))), (.ref s_)])) _
   obtain ⟨cq568, kq568, q568a, q568b, q568c⟩ := isOf hZ e567 E_s_
   obtain ⟨_, _, ⟨T568, L568, k568, n568⟩, -, X568, ⟨Lc568, hQ568, l568, y568, z568⟩, st568⟩ := X567.virtualBack hx (y := (⟨"java/lang/String", "charAt", "(I)C"⟩ : MethodName)) (z := (⟨"java/lang/String", "charAt", "(I)C"⟩ : MethodName)) hown (mvT hZ (ow hw 152)) (mvT hZ (ow hw 153)) (notFace_of_selects (args := #[]) (mvT hZ (ow hw 155))) (mvT hZ (ow hw 155)) (mvT hZ (ow hw 154)) (by decide) (backOf (W := 0) (sca l Z a0 hw [] s_ (off + (1 : Int32)) z t kt N vs fm v1_ h0 n0 O S_String_COMPACT_STRINGS hz E_s_ F_s__String_coder F_s__String_value V_t S_Preconditions_SIOOBE_FORMATTER hfm a1_ b1_ c1_) hZ (ow hw 156) (ow hw 21) (by decide) (by decide)) q568a q568c (g := (mkF m 37 #[.val (.ref s_), .val (.int off), .val (.int b)] [(.int (off + (1 : Int32))), (.ref s_)])) rfl (by rw [hml]; rfl) (Steps.refl _) (argsL := [(.int (off + (1 : Int32)))]) (rest := []) (lenOf pd_20 rfl) rfl (by show 2 * 0 + _ ≤ _; exact Nat.le_of_eq rfl) (hb hby d28_37) (fun _ _ => ⟨rfl, e567, (by decide : 0 + 0 ≤ _), (by decide : 0 + 0 ≤ _)⟩)
   dsimp only [Pt.U, Pt.locs, Pt.cells, Pt.slots] at X568 l568 y568 z568 st568 hQ568
   subst l568 y568 z568
   obtain ⟨rfl, N568q, e568⟩ := hQ568
   refine own_go (fun _ k => st568.trans k) ?_
   have N568 := Fr.app N567 N568q
   show own_Fin p e below (T568.setTop (mkF m 40 #[.val (.ref s_), .val (.int off), .val (.int b)] [(.int (own_E v1_))])) _
   refine own_go (fun _ k => XS.iloadN X568.here hx rfl (hb hby d28_40) rfl (XS.bipush X568.here hx rfl (hb hby d28_41) (XS.idiv X568.here hx rfl (hb hby d28_43) rfl (by decide) k))) ?_
   show own_Fin p e below (T568.setTop (mkF m 44 #[.val (.ref s_), .val (.int off), .val (.int b)] [(.int (b / (16 : Int32))), (.int (own_E v1_))])) _
   obtain ⟨_, _, ⟨T569, L569, k569, n569⟩, -, X569, ⟨Lc569, hQ569, l569, y569, z569⟩, st569⟩ := Jvm.LawKit.callS X568 hx (y := (⟨"com/example/espalier/espalier/UrisEncodePinLaw", "hex", "(I)C"⟩ : MethodName)) hown (mvT hZ (ow hw 173)) (mvT hZ (ow hw 174)) (mvT hZ (ow hw 144)) (mvT hZ (ow hw 175)) (by decide) (backOf (W := 1) (rm34 l Z a0 hw [] (b / (16 : Int32)) h0 n0 ) hZ (ow hw 175) (ow hw 144) (by decide) (by decide)) (g := (mkF m 44 #[.val (.ref s_), .val (.int off), .val (.int b)] [(.int (b / (16 : Int32))), (.int (own_E v1_))])) rfl (by rw [hml]; rfl) (argsL := [(.int (b / (16 : Int32)))]) (rest := [(.int (own_E v1_))]) (lenOf pd_20 rfl) rfl (by show 2 * 0 + _ ≤ _; exact Nat.le_of_eq rfl) (hb hby d28_44) (fun _ _ => ⟨rfl, e568, (by decide : 0 + 0 ≤ _), (by decide : 0 + 0 ≤ _)⟩)
   dsimp only [Pt.U, Pt.locs, Pt.cells, Pt.slots] at X569 l569 y569 z569 st569 hQ569
   subst l569 y569 z569
   obtain ⟨rfl, N569q, e569⟩ := hQ569
   refine own_go (fun _ k => st569 _ k) ?_
   have N569 := Fr.app N568 N569q
   show own_Fin p e below (T569.setTop (mkF m 47 #[.val (.ref s_), .val (.int off), .val (.int b)] [(.int (own_hx (b / (16 : Int32)))), (.int (own_E v1_))])) _
   refine own_go (fun _ k => XS.icmpNo X569.here hx rfl (hb hby d28_47) rfl (teq e1_).2 (XS.aloadN X569.here hx rfl (hb hby d28_50) rfl rfl (XS.iloadN X569.here hx rfl (hb hby d28_51) rfl (XS.iconst X569.here hx rfl (hb hby d28_52) (XS.iadd X569.here hx rfl (hb hby d28_53) rfl k))))) ?_
   show own_Fin p e below (T569.setTop (mkF m 54 #[.val (.ref s_), .val (.int off), .val (.int b)] [(.int (off + (2 : Int32))), (.ref s_)])) _
   obtain ⟨cq570, kq570, q570a, q570b, q570c⟩ := isOf hZ e569 E_s_
   obtain ⟨_, _, ⟨T570, L570, k570, n570⟩, -, X570, ⟨Lc570, hQ570, l570, y570, z570⟩, st570⟩ := X569.virtualBack hx (y := (⟨"java/lang/String", "charAt", "(I)C"⟩ : MethodName)) (z := (⟨"java/lang/String", "charAt", "(I)C"⟩ : MethodName)) hown (mvT hZ (ow hw 152)) (mvT hZ (ow hw 153)) (notFace_of_selects (args := #[]) (mvT hZ (ow hw 155))) (mvT hZ (ow hw 155)) (mvT hZ (ow hw 154)) (by decide) (backOf (W := 0) (sca l Z a0 hw [] s_ (off + (2 : Int32)) z t kt N vs fm v2_ h0 n0 O S_String_COMPACT_STRINGS hz E_s_ F_s__String_coder F_s__String_value V_t S_Preconditions_SIOOBE_FORMATTER hfm a2_ b2_ c2_) hZ (ow hw 156) (ow hw 21) (by decide) (by decide)) q570a q570c (g := (mkF m 54 #[.val (.ref s_), .val (.int off), .val (.int b)] [(.int (off + (2 : Int32))), (.ref s_)])) rfl (by rw [hml]; rfl) (Steps.refl _) (argsL := [(.int (off + (2 : Int32)))]) (rest := []) (lenOf pd_20 rfl) rfl (by show 2 * 0 + _ ≤ _; exact Nat.le_of_eq rfl) (hb hby d28_54) (fun _ _ => ⟨rfl, e569, (by decide : 0 + 0 ≤ _), (by decide : 0 + 0 ≤ _)⟩)
   dsimp only [Pt.U, Pt.locs, Pt.cells, Pt.slots] at X570 l570 y570 z570 st570 hQ570
   subst l570 y570 z570
   obtain ⟨rfl, N570q, e570⟩ := hQ570
   refine own_go (fun _ k => st570.trans k) ?_
   have N570 := Fr.app N569 N570q
   show own_Fin p e below (T570.setTop (mkF m 57 #[.val (.ref s_), .val (.int off), .val (.int b)] [(.int (own_E v2_))])) _
   refine own_go (fun _ k => XS.iloadN X570.here hx rfl (hb hby d28_57) rfl (XS.bipush X570.here hx rfl (hb hby d28_58) (iremM X570 hx rfl (hb hby d28_60) rfl (by decide) k))) ?_
   show own_Fin p e below (T570.setTop (mkF m 61 #[.val (.ref s_), .val (.int off), .val (.int b)] [(.int (b % (16 : Int32))), (.int (own_E v2_))])) _
   obtain ⟨_, _, ⟨T571, L571, k571, n571⟩, -, X571, ⟨Lc571, hQ571, l571, y571, z571⟩, st571⟩ := Jvm.LawKit.callS X570 hx (y := (⟨"com/example/espalier/espalier/UrisEncodePinLaw", "hex", "(I)C"⟩ : MethodName)) hown (mvT hZ (ow hw 173)) (mvT hZ (ow hw 174)) (mvT hZ (ow hw 144)) (mvT hZ (ow hw 175)) (by decide) (backOf (W := 1) (rm34 l Z a0 hw [] (b % (16 : Int32)) h0 n0 ) hZ (ow hw 175) (ow hw 144) (by decide) (by decide)) (g := (mkF m 61 #[.val (.ref s_), .val (.int off), .val (.int b)] [(.int (b % (16 : Int32))), (.int (own_E v2_))])) rfl (by rw [hml]; rfl) (argsL := [(.int (b % (16 : Int32)))]) (rest := [(.int (own_E v2_))]) (lenOf pd_20 rfl) rfl (by show 2 * 0 + _ ≤ _; exact Nat.le_of_eq rfl) (hb hby d28_61) (fun _ _ => ⟨rfl, e570, (by decide : 0 + 0 ≤ _), (by decide : 0 + 0 ≤ _)⟩)
   dsimp only [Pt.U, Pt.locs, Pt.cells, Pt.slots] at X571 l571 y571 z571 st571 hQ571
   subst l571 y571 z571
   obtain ⟨rfl, N571q, e571⟩ := hQ571
   refine own_go (fun _ k => st571 _ k) ?_
   have N571 := Fr.app N570 N571q
   show own_Fin p e below (T571.setTop (mkF m 64 #[.val (.ref s_), .val (.int off), .val (.int b)] [(.int (own_hx (b % (16 : Int32)))), (.int (own_E v2_))])) _
   refine own_go (fun _ k => XS.icmpNo X571.here hx rfl (hb hby d28_64) rfl (teq e2_).2 (XS.iconst X571.here hx rfl (hb hby d28_67) (XS.goto X571.here hx rfl (pc0 := 68) (pc' := 72) rfl (hb hby d28_68) (by decide) (by decide) k))) ?_
   show own_Fin p e below (T571.setTop (mkF m 72 #[.val (.ref s_), .val (.int off), .val (.int b)] [(.int 1)])) _
   obtain ⟨fs, hr, hrun, hended, hW, hsame⟩ := X571.leave (v := some (.int 1)) (fun h => by rw [Bd.returns] at h; cases h)
   refine ⟨_, _, ?_, hrun, hended, _, _, rfl, ?_, ⟨_, rfl⟩, hW, hsame.mono (by decide) (by decide)⟩
   ·exact retN X571 hx (t := .boolean) Bd.returns (by simp) (hb hby d28_72) hr
   ·show Qatb Z s_ off b z t kt N vs fm h0 n0 _ T571.heap _
    rw [e571]
    exact ⟨rfl, N571, rfl⟩
theorem own_nb (c : Int32) (h0 : 0 ≤ c.toInt) (h1 : c.toInt < 256) : own_E (nar .byte (c.toInt8.toInt32)) = c := by
  have q1 := c_i2b c
  have q2 := c_i2b c.toInt8.toInt32
  have q3 := c_mask c.toInt8.toInt32.toInt8.toInt32 255 8 (by decide) (by decide)
  have q4 := c_i2c (c.toInt8.toInt32.toInt8.toInt32 &&& 255)
  have q5 := c_i2c (c.toInt8.toInt32.toInt8.toInt32 &&& 255).toUInt32.toUInt16.toUInt32.toInt32
  have q6 := c_i2c (c.toInt8.toInt32.toInt8.toInt32 &&& 255).toUInt32.toUInt16.toUInt32.toInt32.toUInt32.toUInt16.toUInt32.toInt32
  rw [← Int32.toInt_inj]
  show ((c.toInt8.toInt32.toInt8.toInt32 &&& 255).toUInt32.toUInt16.toUInt32.toInt32.toUInt32.toUInt16.toUInt32.toInt32.toUInt32.toUInt16.toUInt32.toInt32).toInt = c.toInt
  omega
theorem own_bb (x : Int32) : (nar .byte (x.toInt8.toInt32)) &&& (255 : Int32) = x &&& (255 : Int32) := by
  have q1 := c_i2b x
  have q2 := c_i2b x.toInt8.toInt32
  have q3 := c_mask x.toInt8.toInt32.toInt8.toInt32 255 8 (by decide) (by decide)
  have q4 := c_mask x 255 8 (by decide) (by decide)
  rw [← Int32.toInt_inj]
  show ((x.toInt8.toInt32.toInt8.toInt32) &&& 255).toInt = _
  omega
theorem own_hvx (i : Int32) (h0 : 0 ≤ i.toInt) (h1 : i.toInt < 16) : own_hv i = own_hx i := by
  have h : ∀ k : Fin 16, own_hl.getD k.val 0 = own_hx (Int32.ofNat k.val) := by decide
  have hk := nat_of (j := i) (by rw [Int32.lt_iff_toInt_lt]; have e0 : (0 : Int32).toInt = 0 := by decide
                                 omega)
  have e : i = Int32.ofNat i.toNatClampNeg := by rw [← Int32.toInt_inj, Int32.toInt_ofNat_of_lt (by omega)]; omega
  have := h ⟨i.toNatClampNeg, by omega⟩
  unfold own_hv
  rw [this, ← e]
theorem own_hvr (i : Int32) : 0 ≤ (own_hv i).toInt ∧ (own_hv i).toInt < 256 := by
  unfold own_hv
  have h : ∀ l : List Int32, (∀ c ∈ l, 0 ≤ c.toInt ∧ c.toInt < 256) → ∀ k, 0 ≤ (l.getD k 0).toInt ∧ (l.getD k 0).toInt < 256 := fun l hl k => by
    rw [List.getD_eq_getElem?_getD]
    cases q : l[k]? with
    | none => decide
    | some c => exact hl c (List.mem_of_getElem? q)
  exact h _ (by decide) _
theorem own_1 (x : Int32) : own_E (nar .byte ((((nar .byte (x.toInt8.toInt32)) &&& (255 : Int32)).toUInt32.toUInt16.toUInt32.toInt32).toInt8.toInt32)) = ((x &&& (255 : Int32)).toUInt32.toUInt16.toUInt32.toInt32) := by
  have h := own_m255 x
  rw [own_bb, own_i2c (by omega) (by omega)]; exact own_nb _ (by omega) (by omega)
theorem own_37 : own_E (nar .byte ((37 : Int32).toInt8.toInt32)) = (37 : Int32) := by decide
theorem own_hi (x : Int32) : own_E (nar .byte ((own_hv (((nar .byte (x.toInt8.toInt32)) &&& (255 : Int32)) >>> ((4 : Int32) &&& 31))).toInt8.toInt32)) = own_hx ((x &&& (255 : Int32)) / (16 : Int32)) := by
  have h := own_m255 x
  have r := own_hvr ((x &&& 255) >>> ((4 : Int32) &&& 31))
  rw [own_bb, own_nb _ (by omega) (by omega)]
  have h2 := c_ishr (x &&& 255) 4 4 (by decide)
  have h3 := (c_idiv (x &&& 255) 16 16 (by decide) (by decide)).1 (by omega)
  have e : (x &&& 255) >>> ((4 : Int32) &&& 31) = (x &&& 255) / 16 := by rw [← Int32.toInt_inj]; omega
  rw [own_hvx _ (by omega) (by omega), e]
theorem own_lo (x : Int32) : own_E (nar .byte ((own_hv (((nar .byte (x.toInt8.toInt32)) &&& (255 : Int32)) &&& (15 : Int32))).toInt8.toInt32)) = own_hx ((x &&& (255 : Int32)) % (16 : Int32)) := by
  have h := own_m255 x
  have r := own_hvr ((x &&& 255) &&& (15 : Int32))
  rw [own_bb, own_nb _ (by omega) (by omega)]
  have h2 := c_mask (x &&& 255) 15 4 (by decide) (by decide)
  have h3 := (c_irem (x &&& 255) 16 16 (by decide)).1 (by omega)
  have e : (x &&& 255) &&& (15 : Int32) = (x &&& 255) % 16 := by rw [← Int32.toInt_inj]; omega
  rw [own_hvx _ (by omega) (by omega), e]
theorem own_n3 (p : Int32) : (p &&& (3 : Int32)) = 0 ∨ (p &&& (3 : Int32)) = 1 ∨ (p &&& (3 : Int32)) = 2 ∨ (p &&& (3 : Int32)) = 3 := by
  have h1 := c_mask p 3 2 (by decide) (by decide)
  simp only [← Int32.toInt_inj]
  have e0 : (0 : Int32).toInt = 0 := by decide
  have e1 : (1 : Int32).toInt = 1 := by decide
  have e2 : (2 : Int32).toInt = 2 := by decide
  have e3 : (3 : Int32).toInt = 3 := by decide
  omega
theorem own_get (pre : List Value) (l post : List Value) (k : Nat) (hk : k < l.length) (d : Value) : (pre ++ (l ++ post)).getD (pre.length + k) d = l.getD k d := by
  simp [List.getD_eq_getElem?_getD, List.getElem?_append_right, List.getElem?_append_left hk]
theorem own_enl (x : Int32) : (own_enc (nar .byte (x.toInt8.toInt32))).length = (if own_unres (x &&& (255 : Int32)) then 1 else 3) := by
  unfold own_enc; rw [own_bb]; split <;> rfl
theorem own_in {n m : Nat} (h : n < m) (hm : m < 100) : ¬ (Int32.ofNat n < (0 : Int32)) ∧ Int32.ofNat n < Int32.ofNat m ∧ (Int32.ofNat n).toNatClampNeg = n := by
  have h1 : (Int32.ofNat n).toInt = n := Int32.toInt_ofNat_of_lt (by omega)
  have h2 : (Int32.ofNat m).toInt = m := Int32.toInt_ofNat_of_lt (by omega)
  have e0 : (0 : Int32).toInt = 0 := by decide
  have h3 : ¬ (Int32.ofNat n < (0 : Int32)) := by rw [Int32.lt_iff_toInt_lt]; omega
  have h4 := nat_of h3
  refine ⟨h3, by rw [Int32.lt_iff_toInt_lt]; omega, by omega⟩
theorem own_ofa (n : Nat) (h : n < 100) (k : Nat) (hk : k < 10) : Int32.ofNat n + Int32.ofNat k = Int32.ofNat (n + k) := by
  have h1 : (Int32.ofNat n).toInt = n := Int32.toInt_ofNat_of_lt (by omega)
  have h2 : (Int32.ofNat k).toInt = k := Int32.toInt_ofNat_of_lt (by omega)
  have h3 : (Int32.ofNat (n + k)).toInt = (n + k : Nat) := Int32.toInt_ofNat_of_lt (by omega)
  have q := c_iadd (Int32.ofNat n) (Int32.ofNat k)
  have r := rng32 (Int32.ofNat n + Int32.ofNat k)
  rw [← Int32.toInt_inj]; omega
theorem own_at (pre post : List Value) (x off : Int32) (hoff : off = Int32.ofNat pre.length) (hl : (pre ++ (own_enc (nar .byte (x.toInt8.toInt32)) ++ post)).length < 90) : own_At (pre ++ (own_enc (nar .byte (x.toInt8.toInt32)) ++ post)) (Int32.ofNat (pre ++ (own_enc (nar .byte (x.toInt8.toInt32)) ++ post)).length) off (x &&& (255 : Int32)) := by
  subst hoff
  have hen := own_enl x
  refine ⟨fun hU => ?_, fun hU => ?_⟩
  · rw [if_pos hU] at hen
    have hle : pre.length < (pre ++ (own_enc (nar .byte (x.toInt8.toInt32)) ++ post)).length := by simp only [List.length_append]; omega
    obtain ⟨i1, i2, i3⟩ := own_in hle (by omega)
    refine ⟨i1, i2, _, ?_, own_1 x⟩
    rw [i3]
    have := own_get pre (own_enc (nar .byte (x.toInt8.toInt32))) post 0 (by omega) (.int 0)
    rw [Nat.add_zero] at this
    rw [this, own_encT (x := nar .byte (x.toInt8.toInt32)) (by rw [own_bb]; exact hU)]; rfl
  · rw [if_neg hU] at hen
    have hF := own_encF (x := nar .byte (x.toInt8.toInt32)) (by rw [own_bb]; exact hU)
    have key : ∀ k, k < 3 → ∀ c : Int32, ∀ v : Int32, (own_enc (nar .byte (x.toInt8.toInt32))).getD k (.int 0) = .int v → own_E v = c → own_Ch (pre ++ (own_enc (nar .byte (x.toInt8.toInt32)) ++ post)) (Int32.ofNat (pre ++ (own_enc (nar .byte (x.toInt8.toInt32)) ++ post)).length) (Int32.ofNat (pre.length + k)) c := by
      intro k hk c v hv hc
      have hle : pre.length + k < (pre ++ (own_enc (nar .byte (x.toInt8.toInt32)) ++ post)).length := by simp only [List.length_append]; omega
      obtain ⟨i1, i2, i3⟩ := own_in hle (by omega)
      refine ⟨i1, i2, v, ?_, hc⟩
      rw [i3, own_get _ _ _ k (by omega)]; exact hv
    have hp : pre.length < 90 := by simp only [List.length_append] at hl; omega
    refine ⟨?_, ?_, ?_⟩
    · have := key 0 (by omega) 37 37 (by rw [hF]; rfl) (by decide)
      rw [Nat.add_zero] at this; exact this
    · have := key 1 (by omega) _ _ (by rw [hF]; rfl) (own_hi x)
      rw [← own_ofa _ (by omega) 1 (by omega)] at this; exact this
    · have := key 2 (by omega) _ _ (by rw [hF]; rfl) (own_lo x)
      rw [← own_ofa _ (by omega) 2 (by omega)] at this; exact this
theorem own_wdl (x : Int32) : own_wd (x &&& (255 : Int32)) = Int32.ofNat (own_enc (nar .byte (x.toInt8.toInt32))).length := by
  rw [own_enl]; unfold own_wd; split <;> rfl
theorem own_enbb (x : Int32) : (own_enc (nar .byte (x.toInt8.toInt32))).length ≤ 3 := own_enb _
theorem own_len1 (x : Int32) : Int32.ofNat (own_enc (nar .byte (x.toInt8.toInt32))).length = (own_wd (x &&& (255 : Int32)) + (0 : Int32)) + (0 : Int32) := by
  rw [own_wdl]; simp
theorem own_len2 (x y : Int32) : Int32.ofNat (own_enc (nar .byte (x.toInt8.toInt32)) ++ own_enc (nar .byte (y.toInt8.toInt32))).length = (own_wd (x &&& (255 : Int32)) + own_wd (y &&& (255 : Int32))) + (0 : Int32) := by
  have q1 := own_enbb x
  have q2 := own_enbb y
  rw [own_wdl, own_wdl, own_ofa _ (by omega) _ (by omega), List.length_append]; simp
theorem own_len3 (x y z : Int32) : Int32.ofNat (own_enc (nar .byte (x.toInt8.toInt32)) ++ own_enc (nar .byte (y.toInt8.toInt32)) ++ own_enc (nar .byte (z.toInt8.toInt32))).length = (own_wd (x &&& (255 : Int32)) + own_wd (y &&& (255 : Int32))) + own_wd (z &&& (255 : Int32)) := by
  have q1 := own_enbb x
  have q2 := own_enbb y
  have q3 := own_enbb z
  rw [own_wdl, own_wdl, own_wdl, own_ofa _ (by omega) _ (by omega), own_ofa _ (by omega) _ (by omega), List.length_append, List.length_append]
theorem own_off2 (x y : Int32) : own_wd (x &&& (255 : Int32)) + own_wd (y &&& (255 : Int32)) = Int32.ofNat (own_enc (nar .byte (x.toInt8.toInt32)) ++ own_enc (nar .byte (y.toInt8.toInt32))).length := by
  have q1 := own_enbb x
  have q2 := own_enbb y
  rw [own_wdl, own_wdl, own_ofa _ (by omega) _ (by omega), List.length_append]
theorem own_A10 (x : Int32) : own_At (own_enc (nar .byte (x.toInt8.toInt32))) (Int32.ofNat (own_enc (nar .byte (x.toInt8.toInt32))).length) 0 (x &&& (255 : Int32)) := by
  have q1 := own_enbb x
  have h := own_at [] [] x 0 rfl (by simp only [List.length_append, List.length_nil]; omega)
  simpa only [List.nil_append, List.append_nil] using h
theorem own_A20 (x y : Int32) : own_At (own_enc (nar .byte (x.toInt8.toInt32)) ++ own_enc (nar .byte (y.toInt8.toInt32))) (Int32.ofNat (own_enc (nar .byte (x.toInt8.toInt32)) ++ own_enc (nar .byte (y.toInt8.toInt32))).length) 0 (x &&& (255 : Int32)) := by
  have q1 := own_enbb x
  have q2 := own_enbb y
  have h := own_at [] (own_enc (nar .byte (y.toInt8.toInt32))) x 0 rfl (by simp only [List.length_append, List.length_nil]; omega)
  simpa only [List.nil_append] using h
theorem own_A21 (x y : Int32) : own_At (own_enc (nar .byte (x.toInt8.toInt32)) ++ own_enc (nar .byte (y.toInt8.toInt32))) (Int32.ofNat (own_enc (nar .byte (x.toInt8.toInt32)) ++ own_enc (nar .byte (y.toInt8.toInt32))).length) (own_wd (x &&& (255 : Int32))) (y &&& (255 : Int32)) := by
  have q1 := own_enbb x
  have q2 := own_enbb y
  have h := own_at (own_enc (nar .byte (x.toInt8.toInt32))) [] y _ (own_wdl x) (by simp only [List.length_append, List.length_nil]; omega)
  simpa only [List.append_nil] using h
theorem own_A30 (x y z : Int32) : own_At (own_enc (nar .byte (x.toInt8.toInt32)) ++ own_enc (nar .byte (y.toInt8.toInt32)) ++ own_enc (nar .byte (z.toInt8.toInt32))) (Int32.ofNat (own_enc (nar .byte (x.toInt8.toInt32)) ++ own_enc (nar .byte (y.toInt8.toInt32)) ++ own_enc (nar .byte (z.toInt8.toInt32))).length) 0 (x &&& (255 : Int32)) := by
  have q1 := own_enbb x
  have q2 := own_enbb y
  have q3 := own_enbb z
  generalize hy : own_enc (nar .byte (y.toInt8.toInt32)) = ly at q2 ⊢
  generalize hz : own_enc (nar .byte (z.toInt8.toInt32)) = lz at q3 ⊢
  have h := own_at [] (ly ++ lz) x 0 rfl (by simp only [List.length_append, List.length_nil]; omega)
  rw [List.nil_append, ← List.append_assoc] at h
  exact h
theorem own_A31 (x y z : Int32) : own_At (own_enc (nar .byte (x.toInt8.toInt32)) ++ own_enc (nar .byte (y.toInt8.toInt32)) ++ own_enc (nar .byte (z.toInt8.toInt32))) (Int32.ofNat (own_enc (nar .byte (x.toInt8.toInt32)) ++ own_enc (nar .byte (y.toInt8.toInt32)) ++ own_enc (nar .byte (z.toInt8.toInt32))).length) (own_wd (x &&& (255 : Int32))) (y &&& (255 : Int32)) := by
  have q1 := own_enbb x
  have q2 := own_enbb y
  have q3 := own_enbb z
  have h := own_at (own_enc (nar .byte (x.toInt8.toInt32))) (own_enc (nar .byte (z.toInt8.toInt32))) y _ (own_wdl x) (by simp only [List.length_append]; omega)
  simpa only [List.append_assoc] using h
theorem own_A32 (x y z : Int32) : own_At (own_enc (nar .byte (x.toInt8.toInt32)) ++ own_enc (nar .byte (y.toInt8.toInt32)) ++ own_enc (nar .byte (z.toInt8.toInt32))) (Int32.ofNat (own_enc (nar .byte (x.toInt8.toInt32)) ++ own_enc (nar .byte (y.toInt8.toInt32)) ++ own_enc (nar .byte (z.toInt8.toInt32))).length) (own_wd (x &&& (255 : Int32)) + own_wd (y &&& (255 : Int32))) (z &&& (255 : Int32)) := by
  have q1 := own_enbb x
  have q2 := own_enbb y
  have q3 := own_enbb z
  have h := own_at (own_enc (nar .byte (x.toInt8.toInt32)) ++ own_enc (nar .byte (y.toInt8.toInt32))) [] z _ (own_off2 x y) (by simp only [List.length_append, List.length_nil]; omega)
  simpa only [List.append_nil] using h
theorem pd_21 : parseMethodDescriptor "([B)Ljava/lang/String;" = some ⟨[(.array .byte)], some (.object "java/lang/String")⟩ := by decide +kernel
theorem pd_22 : parseMethodDescriptor "(Ljava/lang/String;II)Z" = some ⟨[(.object "java/lang/String"), .int, .int], some .boolean⟩ := by decide +kernel
theorem ef_rm0 (m : MethodId) (x0 : Int32) (x1 : Int32) (x2 : Int32) (x3 : Int32) : entryFrame m #[(.int x0), (.int x1), (.int x2), (.int x3)] maxLocals = mkF m 0 #[.val (.int x0), .val (.int x1), .val (.int x2), .val (.int x3), .unset, .unset, .unset, .unset, .unset, .unset, .unset, .unset, .unset, .unset] [] := by first | (simp [entryFrame, mkF, argsToLocals, Value.category, maxLocals]; done) | rfl
def Qrm0 (Z : State) (p0 : Int32) (p1 : Int32) (p2 : Int32) (p3 : Int32) (z : Int32) (fm : Value) (hxa : Addr) (kh : ClassId) (h0 : Heap) (n0 : Nat) (v : Option Value) (h : Heap) (L : List Loc) : Prop := v = some (.int 1) ∧ Fr n0 L ∧ Keep h0 h []
set_option maxRecDepth 65536 in
set_option maxHeartbeats 40000000 in
theorem rm0 (l : Launch) (Z : State) (a0 : Array Value) (hw : ∀ d ∈ tables_1, d.before a0 Z = true) (ws : List Jvm.Cond) (p0 : Int32) (p1 : Int32) (p2 : Int32) (p3 : Int32) (z : Int32) (fm : Value) (hxa : Addr) (kh : ClassId) (h0 : Heap) (n0 : Nat) (O : Old Z n0 h0) (S_String_COMPACT_STRINGS : Sta Z Z.heap "java/lang/String" "COMPACT_STRINGS" "Z" (.int z)) (hz : ¬ (z = (0 : Int32))) (S_Preconditions_SIOOBE_FORMATTER : Sta Z Z.heap "jdk/internal/util/Preconditions" "SIOOBE_FORMATTER" "Ljava/util/function/BiFunction;" fm) (hfm : fm.isRef = true) (S_Uris_HEX : Sta Z Z.heap "com/example/espalier/espalier/Uris" "HEX" "[C" (.ref hxa)) (V_hxa : Arv Z Z.heap hxa kh .char (16 : Int32) (own_hl.map Value.int) (.int 0)) :
    MetFree l x (head1 (Jvm.Cond.code x code maxLocals ret :: ws) room_1) (fun a' U' => a' = #[(.int p0), (.int p1), (.int p2), (.int p3)] ∧ Z.Warmed39 U'.vm ∧ U'.heap = h0) (fun _ _ _ _ _ => True) (fun _ U' o' W' => ∃ v' L', o' = .returned v' ∧ Qrm0 Z p0 p1 p2 p3 z fm hxa kh h0 n0 v' W'.heap L' ∧ FrameEnd U' o' W' L' 14 185) := by
  refine MetFree.of_bodySF (plainFor_of_name pn_7) hisR ?_
  intro p e s m args below meth c s₁ Bd hml0 hP hK
  obtain ⟨rfl, hZ, hh⟩ := hP
  have hx := Bd.exec
  have hby := Bd.bytes
  have hml : c.maxLocals = 14 := hml0
  have hown : s.vm.findClass "com/example/espalier/espalier/UrisEncodePinLaw" = some m.cls := findClass_of_methodNamed Bd.named
  have hnm := (name_of_methodNamed Bd.named Bd.method).1
  have X0 : Stand p l e room_1 s m #[(.int p0), (.int p1), (.int p2), (.int p3)] below meth c s₁ [] 0 0 := Stand.of_body Bd
  have e0 : s₁.heap = h0 := by rw [← hh, Bd.state]; rfl
  have N0 := Fr.nil n0
  have K0 := Keep.refl h0 []
  refine own_start (ef_rm0 m p0 p1 p2 p3) (Q := fun o' t' => ∃ v' L', o' = .returned v' ∧ Qrm0 Z p0 p1 p2 p3 z fm hxa kh h0 n0 v' t'.heap L' ∧ FrameEnd s o' t' L' 14 185) ?_
  show own_Fin p e below (s₁.setTop (mkF m 0 #[.val (.int p0), .val (.int p1), .val (.int p2), .val (.int p3), .unset, .unset, .unset, .unset, .unset, .unset, .unset, .unset, .unset, .unset] [])) _
  refine own_go (fun _ k => XS.iloadN X0.here hx rfl (hb hby at_0) rfl (XS.iconst X0.here hx rfl (hb hby at_1) (XS.iand X0.here hx rfl (hb hby at_2) rfl (XS.istore X0.here hx rfl (hb hby at_3) rfl (l' := #[.val (.int p0), .val (.int p1), .val (.int p2), .val (.int p3), .val (.int (p0 &&& (3 : Int32))), .unset, .unset, .unset, .unset, .unset, .unset, .unset, .unset, .unset]) rfl k)))) ?_
  show own_Fin p e below (s₁.setTop (mkF m 5 #[.val (.int p0), .val (.int p1), .val (.int p2), .val (.int p3), .val (.int (p0 &&& (3 : Int32))), .unset, .unset, .unset, .unset, .unset, .unset, .unset, .unset, .unset] [])) _
  rcases own_n3 p0 with hk | hk | hk | hk
  ·rw [hk]
   show own_Fin p e below (s₁.setTop (mkF m 5 #[.val (.int p0), .val (.int p1), .val (.int p2), .val (.int p3), .val (.int 0), .unset, .unset, .unset, .unset, .unset, .unset, .unset, .unset, .unset] [])) _
   refine own_go (fun _ k => XS.iload X0.here hx rfl (hb hby at_5) rfl k) ?_
   show own_Fin p e below (s₁.setTop (mkF m 7 #[.val (.int p0), .val (.int p1), .val (.int p2), .val (.int p3), .val (.int 0), .unset, .unset, .unset, .unset, .unset, .unset, .unset, .unset, .unset] [(.int 0)])) _
   obtain ⟨T573, h573, k573, X573, e573, E573, A573, B573, st573⟩ := newPE X0 hx hZ (ow hw 0) e0 (g := (mkF m 7 #[.val (.int p0), .val (.int p1), .val (.int p2), .val (.int p3), .val (.int 0), .unset, .unset, .unset, .unset, .unset, .unset, .unset, .unset, .unset] [(.int 0)])) rfl (hb hby at_7) rfl (by decide) (cap := 0) (by decide) (by decide) (by decide) (by decide) (ad := "[B") (by decide)
   obtain ⟨b573, g573⟩ : ∃ z, z = h0.size := ⟨_, rfl⟩
   rw [← g573] at A573 st573 B573
   refine own_go (fun _ k => st573 _ k) ?_
   have g_b573 : n0 ≤ b573 := Nat.le_trans (own_osz O) (Nat.le_of_eq g573.symm)
   have sz_b573 : h0.size ≤ b573 := Nat.le_trans K0.1 (Nat.le_of_eq g573.symm)
   have O := O.ext E573
   have K574 := K0.ext E573
   have E_b573 := B573
   have V_b573 : Arv Z h573 b573 k573 .byte (0 : Int32) [] (.int 0) := (Arv.new A573 (by decide)).pad (pad_rep [] (.int 0) 0)
   show own_Fin p e below (T573.setTop (mkF m 9 #[.val (.int p0), .val (.int p1), .val (.int p2), .val (.int p3), .val (.int 0), .unset, .unset, .unset, .unset, .unset, .unset, .unset, .unset, .unset] [(.ref b573)])) _
   refine own_go (fun _ k => XS.astore X573.here hx rfl (hb hby at_9) rfl rfl (l' := #[.val (.int p0), .val (.int p1), .val (.int p2), .val (.int p3), .val (.int 0), .val (.ref b573), .unset, .unset, .unset, .unset, .unset, .unset, .unset, .unset]) rfl (XS.iload X573.here hx rfl (hb hby at_11) rfl (XS.ifYes X573.here hx rfl (pc0 := 13) (pc' := 22) rfl (hb hby at_13) rfl ((if0 _ _).trans (flt (by decide : ¬ ((0 : Int32) < (0 : Int32)))).2.2.2) (by decide) (by decide) (XS.iload X573.here hx rfl (hb hby at_22) rfl (XS.iconst X573.here hx rfl (hb hby at_24) (XS.icmpYes X573.here hx rfl (pc0 := 25) (pc' := 34) rfl (hb hby at_25) rfl (flt (by decide : ¬ ((1 : Int32) < (0 : Int32)))).2.2.2 (by decide) (by decide) (XS.iload X573.here hx rfl (hb hby at_34) rfl (XS.iconst X573.here hx rfl (hb hby at_36) (XS.icmpYes X573.here hx rfl (pc0 := 37) (pc' := 46) rfl (hb hby at_37) rfl (flt (by decide : ¬ ((2 : Int32) < (0 : Int32)))).2.2.2 (by decide) (by decide) (XS.aload X573.here hx rfl (hb hby at_46) rfl rfl k)))))))))) ?_
   show own_Fin p e below (T573.setTop (mkF m 48 #[.val (.int p0), .val (.int p1), .val (.int p2), .val (.int p3), .val (.int 0), .val (.ref b573), .unset, .unset, .unset, .unset, .unset, .unset, .unset, .unset] [(.ref b573)])) _
   obtain ⟨_, _, ⟨T575, L575, k575, n575⟩, -, X575, ⟨Lc575, hQ575, l575, y575, z575⟩, st575⟩ := Jvm.LawKit.callS X573 hx (y := (⟨"com/example/espalier/espalier/Uris", "encode", "([B)Ljava/lang/String;"⟩ : MethodName)) hown (mvT hZ (ow hw 1)) (mvT hZ (ow hw 2)) (mvT hZ (ow hw 3)) (mvT hZ (ow hw 4)) (by decide) (backOf (W := 0) (en0 l Z a0 hw [] b573 z k573 hxa kh h573 n0 O S_String_COMPACT_STRINGS hz V_b573 S_Uris_HEX V_hxa) hZ (ow hw 4) (ow hw 3) (by decide) (by decide)) (g := (mkF m 48 #[.val (.int p0), .val (.int p1), .val (.int p2), .val (.int p3), .val (.int 0), .val (.ref b573), .unset, .unset, .unset, .unset, .unset, .unset, .unset, .unset] [(.ref b573)])) rfl (by rw [hml]; rfl) (argsL := [(.ref b573)]) (rest := []) (lenOf pd_21 rfl) rfl (by show 2 * 0 + _ ≤ _; exact Nat.le_of_eq rfl) (hb hby at_48) (fun _ _ => ⟨rfl, e573, (by decide : 1 + 4 ≤ _), (by decide : 0 + 17 ≤ _)⟩)
   dsimp only [Pt.U, Pt.locs, Pt.cells, Pt.slots] at X575 l575 y575 z575 st575 hQ575
   subst l575 y575 z575
   obtain ⟨s_576, t2_577, k2_578, rfl, N575q, Kq575, P575_0, P575_1, P575_2, P575_3, P575_4, P575_5⟩ := hQ575
   refine own_go (fun _ k => st575 _ k) ?_
   have N575 := Fr.app N0 N575q
   have ne_b573_s_576 : b573 ≠ s_576 := Nat.ne_of_lt (Nat.lt_of_lt_of_le E_b573.lt P575_0)
   have g_s_576 : n0 ≤ s_576 := Nat.le_trans (own_osz O) P575_0
   have sz_s_576 : h0.size ≤ s_576 := Nat.le_trans K574.1 P575_0
   have ne_b573_t2_577 : b573 ≠ t2_577 := Nat.ne_of_lt (Nat.lt_of_lt_of_le E_b573.lt P575_1)
   have g_t2_577 : n0 ≤ t2_577 := Nat.le_trans (own_osz O) P575_1
   have sz_t2_577 : h0.size ≤ t2_577 := Nat.le_trans K574.1 P575_1
   have E_b573 := E_b573.keep Kq575
   have V_b573 := V_b573.keep Kq575 nin0
   have O := O.keep Kq575 all0
   have K579 := K574.trans Kq575 all0
   have E_s_576 := P575_2
   have F_s_576_String_coder := P575_3
   have F_s_576_String_value := P575_4
   have V_t2_577 := P575_5
   show own_Fin p e below (T575.setTop (mkF m 51 #[.val (.int p0), .val (.int p1), .val (.int p2), .val (.int p3), .val (.int 0), .val (.ref b573), .unset, .unset, .unset, .unset, .unset, .unset, .unset, .unset] [(.ref s_576)])) _
   refine own_go (fun _ k => XS.astore X575.here hx rfl (hb hby at_51) rfl rfl (l' := #[.val (.int p0), .val (.int p1), .val (.int p2), .val (.int p3), .val (.int 0), .val (.ref b573), .val (.ref s_576), .unset, .unset, .unset, .unset, .unset, .unset, .unset]) rfl (XS.iloadN X575.here hx rfl (hb hby at_53) rfl (XS.sipush X575.here hx rfl (hb hby at_54) (XS.iand X575.here hx rfl (hb hby at_57) rfl (XS.istore X575.here hx rfl (hb hby at_58) rfl (l' := #[.val (.int p0), .val (.int p1), .val (.int p2), .val (.int p3), .val (.int 0), .val (.ref b573), .val (.ref s_576), .val (.int (p1 &&& (255 : Int32))), .unset, .unset, .unset, .unset, .unset, .unset]) rfl (XS.iloadN X575.here hx rfl (hb hby at_60) rfl (XS.sipush X575.here hx rfl (hb hby at_61) (XS.iand X575.here hx rfl (hb hby at_64) rfl (XS.istore X575.here hx rfl (hb hby at_65) rfl (l' := #[.val (.int p0), .val (.int p1), .val (.int p2), .val (.int p3), .val (.int 0), .val (.ref b573), .val (.ref s_576), .val (.int (p1 &&& (255 : Int32))), .val (.int (p2 &&& (255 : Int32))), .unset, .unset, .unset, .unset, .unset]) rfl (XS.iloadN X575.here hx rfl (hb hby at_67) rfl k)))))))))) ?_
   show own_Fin p e below (T575.setTop (mkF m 68 #[.val (.int p0), .val (.int p1), .val (.int p2), .val (.int p3), .val (.int 0), .val (.ref b573), .val (.ref s_576), .val (.int (p1 &&& (255 : Int32))), .val (.int (p2 &&& (255 : Int32))), .unset, .unset, .unset, .unset, .unset] [(.int p3)])) _
   refine own_go (fun _ k => XS.sipush X575.here hx rfl (hb hby at_68) (XS.iand X575.here hx rfl (hb hby at_71) rfl (XS.istore X575.here hx rfl (hb hby at_72) rfl (l' := #[.val (.int p0), .val (.int p1), .val (.int p2), .val (.int p3), .val (.int 0), .val (.ref b573), .val (.ref s_576), .val (.int (p1 &&& (255 : Int32))), .val (.int (p2 &&& (255 : Int32))), .val (.int (p3 &&& (255 : Int32))), .unset, .unset, .unset, .unset]) rfl (XS.iload X575.here hx rfl (hb hby at_74) rfl (XS.ifYes X575.here hx rfl (pc0 := 76) (pc' := 87) rfl (hb hby at_76) rfl ((if0 _ _).trans (flt (by decide : ¬ ((0 : Int32) < (0 : Int32)))).2.2.2) (by decide) (by decide) (XS.iconst X575.here hx rfl (hb hby at_87) (XS.istore X575.here hx rfl (hb hby at_88) rfl (l' := #[.val (.int p0), .val (.int p1), .val (.int p2), .val (.int p3), .val (.int 0), .val (.ref b573), .val (.ref s_576), .val (.int (p1 &&& (255 : Int32))), .val (.int (p2 &&& (255 : Int32))), .val (.int (p3 &&& (255 : Int32))), .val (.int 0), .unset, .unset, .unset]) rfl (XS.iload X575.here hx rfl (hb hby at_90) rfl (XS.iconst X575.here hx rfl (hb hby at_92) (XS.icmpYes X575.here hx rfl (pc0 := 93) (pc' := 104) rfl (hb hby at_93) rfl (flt (by decide : ¬ ((1 : Int32) < (0 : Int32)))).2.2.2 (by decide) (by decide) k)))))))))) ?_
   show own_Fin p e below (T575.setTop (mkF m 104 #[.val (.int p0), .val (.int p1), .val (.int p2), .val (.int p3), .val (.int 0), .val (.ref b573), .val (.ref s_576), .val (.int (p1 &&& (255 : Int32))), .val (.int (p2 &&& (255 : Int32))), .val (.int (p3 &&& (255 : Int32))), .val (.int 0), .unset, .unset, .unset] [])) _
   refine own_go (fun _ k => XS.iconst X575.here hx rfl (hb hby at_104) (XS.istore X575.here hx rfl (hb hby at_105) rfl (l' := #[.val (.int p0), .val (.int p1), .val (.int p2), .val (.int p3), .val (.int 0), .val (.ref b573), .val (.ref s_576), .val (.int (p1 &&& (255 : Int32))), .val (.int (p2 &&& (255 : Int32))), .val (.int (p3 &&& (255 : Int32))), .val (.int 0), .val (.int 0), .unset, .unset]) rfl (XS.iload X575.here hx rfl (hb hby at_107) rfl (XS.iconst X575.here hx rfl (hb hby at_109) (XS.icmpYes X575.here hx rfl (pc0 := 110) (pc' := 121) rfl (hb hby at_110) rfl (flt (by decide : ¬ ((2 : Int32) < (0 : Int32)))).2.2.2 (by decide) (by decide) (XS.iconst X575.here hx rfl (hb hby at_121) (XS.istore X575.here hx rfl (hb hby at_122) rfl (l' := #[.val (.int p0), .val (.int p1), .val (.int p2), .val (.int p3), .val (.int 0), .val (.ref b573), .val (.ref s_576), .val (.int (p1 &&& (255 : Int32))), .val (.int (p2 &&& (255 : Int32))), .val (.int (p3 &&& (255 : Int32))), .val (.int 0), .val (.int 0), .val (.int 0), .unset]) rfl (XS.aload X575.here hx rfl (hb hby at_124) rfl rfl k)))))))) ?_
   show own_Fin p e below (T575.setTop (mkF m 126 #[.val (.int p0), .val (.int p1), .val (.int p2), .val (.int p3), .val (.int 0), .val (.ref b573), .val (.ref s_576), .val (.int (p1 &&& (255 : Int32))), .val (.int (p2 &&& (255 : Int32))), .val (.int (p3 &&& (255 : Int32))), .val (.int 0), .val (.int 0), .val (.int 0), .unset] [(.ref s_576)])) _
   obtain ⟨cq580, kq580, q580a, q580b, q580c⟩ := isOf hZ rfl E_s_576
   obtain ⟨_, _, ⟨T580, L580, k580, n580⟩, -, X580, ⟨Lc580, hQ580, l580, y580, z580⟩, st580⟩ := X575.virtualBack hx (y := (⟨"java/lang/String", "length", "()I"⟩ : MethodName)) (z := (⟨"java/lang/String", "length", "()I"⟩ : MethodName)) hown (mvT hZ (ow hw 79)) (mvT hZ (ow hw 80)) (notFace_of_selects (args := #[]) (mvT hZ (ow hw 82))) (mvT hZ (ow hw 82)) (mvT hZ (ow hw 81)) (by decide) (backOf (W := 0) (slen l Z a0 hw [] s_576 z t2_577 k2_578 (Int32.ofNat ([] : List Value).length) ([] : List Value) (T575.heap) n0 O S_String_COMPACT_STRINGS hz E_s_576 F_s_576_String_coder F_s_576_String_value V_t2_577) hZ (ow hw 83) (ow hw 21) (by decide) (by decide)) q580a q580c (g := (mkF m 126 #[.val (.int p0), .val (.int p1), .val (.int p2), .val (.int p3), .val (.int 0), .val (.ref b573), .val (.ref s_576), .val (.int (p1 &&& (255 : Int32))), .val (.int (p2 &&& (255 : Int32))), .val (.int (p3 &&& (255 : Int32))), .val (.int 0), .val (.int 0), .val (.int 0), .unset] [(.ref s_576)])) rfl (by rw [hml]; rfl) (Steps.refl _) (argsL := []) (rest := []) (lenOf pd_8 rfl) rfl (by show 2 * 0 + _ ≤ _; exact Nat.le_of_eq rfl) (hb hby at_126) (fun _ _ => ⟨rfl, rfl, (by decide : 5 + 0 ≤ _), (by decide : 17 + 0 ≤ _)⟩)
   dsimp only [Pt.U, Pt.locs, Pt.cells, Pt.slots] at X580 l580 y580 z580 st580 hQ580
   subst l580 y580 z580
   obtain ⟨rfl, N580q, e580⟩ := hQ580
   refine own_go (fun _ k => st580.trans k) ?_
   have N580 := Fr.app N575 N580q
   show own_Fin p e below (T580.setTop (mkF m 129 #[.val (.int p0), .val (.int p1), .val (.int p2), .val (.int p3), .val (.int 0), .val (.ref b573), .val (.ref s_576), .val (.int (p1 &&& (255 : Int32))), .val (.int (p2 &&& (255 : Int32))), .val (.int (p3 &&& (255 : Int32))), .val (.int 0), .val (.int 0), .val (.int 0), .unset] [(.int ((Int32.ofNat ([] : List Value).length) >>> ((0 : Int32) &&& 31)))])) _
   refine own_go (fun _ k => XS.iload X580.here hx rfl (hb hby at_129) rfl (XS.iload X580.here hx rfl (hb hby at_131) rfl (XS.iadd X580.here hx rfl (hb hby at_133) rfl (XS.iload X580.here hx rfl (hb hby at_134) rfl (XS.iadd X580.here hx rfl (hb hby at_136) rfl (XS.icmpYes X580.here hx rfl (pc0 := 137) (pc' := 142) rfl (hb hby at_137) rfl (teq (by decide : ((Int32.ofNat ([] : List Value).length) >>> ((0 : Int32) &&& 31)) = (0 : Int32))).1 (by decide) (by decide) (XS.iconst X580.here hx rfl (hb hby at_142) (XS.istore X580.here hx rfl (hb hby at_143) rfl (l' := #[.val (.int p0), .val (.int p1), .val (.int p2), .val (.int p3), .val (.int 0), .val (.ref b573), .val (.ref s_576), .val (.int (p1 &&& (255 : Int32))), .val (.int (p2 &&& (255 : Int32))), .val (.int (p3 &&& (255 : Int32))), .val (.int 0), .val (.int 0), .val (.int 0), .val (.int 1)]) rfl (XS.iload X580.here hx rfl (hb hby at_145) rfl (XS.ifYes X580.here hx rfl (pc0 := 147) (pc' := 173) rfl (hb hby at_147) rfl ((if0 _ _).trans (flt (by decide : ¬ ((0 : Int32) < (0 : Int32)))).2.2.2) (by decide) (by decide) k)))))))))) ?_
   show own_Fin p e below (T580.setTop (mkF m 173 #[.val (.int p0), .val (.int p1), .val (.int p2), .val (.int p3), .val (.int 0), .val (.ref b573), .val (.ref s_576), .val (.int (p1 &&& (255 : Int32))), .val (.int (p2 &&& (255 : Int32))), .val (.int (p3 &&& (255 : Int32))), .val (.int 0), .val (.int 0), .val (.int 0), .val (.int 1)] [])) _
   refine own_go (fun _ k => XS.iload X580.here hx rfl (hb hby at_173) rfl (XS.iconst X580.here hx rfl (hb hby at_175) (XS.icmpYes X580.here hx rfl (pc0 := 176) (pc' := 203) rfl (hb hby at_176) rfl (flt (by decide : ¬ ((1 : Int32) < (0 : Int32)))).2.2.2 (by decide) (by decide) (XS.iload X580.here hx rfl (hb hby at_203) rfl (XS.iconst X580.here hx rfl (hb hby at_205) (XS.icmpYes X580.here hx rfl (pc0 := 206) (pc' := 236) rfl (hb hby at_206) rfl (flt (by decide : ¬ ((2 : Int32) < (0 : Int32)))).2.2.2 (by decide) (by decide) (XS.iload X580.here hx rfl (hb hby at_236) rfl k))))))) ?_
   show own_Fin p e below (T580.setTop (mkF m 238 #[.val (.int p0), .val (.int p1), .val (.int p2), .val (.int p3), .val (.int 0), .val (.ref b573), .val (.ref s_576), .val (.int (p1 &&& (255 : Int32))), .val (.int (p2 &&& (255 : Int32))), .val (.int (p3 &&& (255 : Int32))), .val (.int 0), .val (.int 0), .val (.int 0), .val (.int 1)] [(.int 1)])) _
   obtain ⟨fs, hr, hrun, hended, hW, hsame⟩ := X580.leave (v := some (.int 1)) (fun h => by rw [Bd.returns] at h; cases h)
   refine ⟨_, _, ?_, hrun, hended, _, _, rfl, ?_, ⟨_, rfl⟩, hW, hsame.mono (by decide) (by decide)⟩
   ·exact retN X580 hx (t := .boolean) Bd.returns (by simp) (hb hby at_238) hr
   ·show Qrm0 Z p0 p1 p2 p3 z fm hxa kh h0 n0 _ T580.heap _
    rw [e580]
    exact ⟨rfl, N580, K579⟩
  ·rw [hk]
   show own_Fin p e below (s₁.setTop (mkF m 5 #[.val (.int p0), .val (.int p1), .val (.int p2), .val (.int p3), .val (.int 1), .unset, .unset, .unset, .unset, .unset, .unset, .unset, .unset, .unset] [])) _
   refine own_go (fun _ k => XS.iload X0.here hx rfl (hb hby at_5) rfl k) ?_
   show own_Fin p e below (s₁.setTop (mkF m 7 #[.val (.int p0), .val (.int p1), .val (.int p2), .val (.int p3), .val (.int 1), .unset, .unset, .unset, .unset, .unset, .unset, .unset, .unset, .unset] [(.int 1)])) _
   obtain ⟨T582, h582, k582, X582, e582, E582, A582, B582, st582⟩ := newPE X0 hx hZ (ow hw 0) e0 (g := (mkF m 7 #[.val (.int p0), .val (.int p1), .val (.int p2), .val (.int p3), .val (.int 1), .unset, .unset, .unset, .unset, .unset, .unset, .unset, .unset, .unset] [(.int 1)])) rfl (hb hby at_7) rfl (by decide) (cap := 1) (by decide) (by decide) (by decide) (by decide) (ad := "[B") (by decide)
   obtain ⟨b582, g582⟩ : ∃ z, z = h0.size := ⟨_, rfl⟩
   rw [← g582] at A582 st582 B582
   refine own_go (fun _ k => st582 _ k) ?_
   have g_b582 : n0 ≤ b582 := Nat.le_trans (own_osz O) (Nat.le_of_eq g582.symm)
   have sz_b582 : h0.size ≤ b582 := Nat.le_trans K0.1 (Nat.le_of_eq g582.symm)
   have O := O.ext E582
   have K583 := K0.ext E582
   have E_b582 := B582
   have V_b582 : Arv Z h582 b582 k582 .byte (1 : Int32) [(.int 0)] (.int 0) := (Arv.new A582 (by decide)).pad (pad_rep [] (.int 0) 1)
   show own_Fin p e below (T582.setTop (mkF m 9 #[.val (.int p0), .val (.int p1), .val (.int p2), .val (.int p3), .val (.int 1), .unset, .unset, .unset, .unset, .unset, .unset, .unset, .unset, .unset] [(.ref b582)])) _
   refine own_go (fun _ k => XS.astore X582.here hx rfl (hb hby at_9) rfl rfl (l' := #[.val (.int p0), .val (.int p1), .val (.int p2), .val (.int p3), .val (.int 1), .val (.ref b582), .unset, .unset, .unset, .unset, .unset, .unset, .unset, .unset]) rfl (XS.iload X582.here hx rfl (hb hby at_11) rfl (XS.ifNo X582.here hx rfl (hb hby at_13) rfl ((if0 _ _).trans (tlt (by decide : (0 : Int32) < (1 : Int32))).2.2.2) (XS.aload X582.here hx rfl (hb hby at_16) rfl rfl (XS.iconst X582.here hx rfl (hb hby at_18) (XS.iloadN X582.here hx rfl (hb hby at_19) rfl (XS.i2b X582.here hx rfl (hb hby at_20) rfl k))))))) ?_
   show own_Fin p e below (T582.setTop (mkF m 21 #[.val (.int p0), .val (.int p1), .val (.int p2), .val (.int p3), .val (.int 1), .val (.ref b582), .unset, .unset, .unset, .unset, .unset, .unset, .unset, .unset] [(.int (p1.toInt8.toInt32)), (.int 0), (.ref b582)])) _
   obtain ⟨cl584, A584, q584, S584, M584, H584, G584⟩ := id V_b582
   have hin584 : ¬ ((0 : Int32) < 0 ∨ cl584.slots.size ≤ ((0 : Int32)).toNatClampNeg) := inb_of S584 ⟨by decide, by decide⟩
   obtain ⟨T584, h584, X584, e584, W584, st584⟩ := stB X582 hx hZ e582 A584 (j := (0 : Int32)) hin584 (g := (mkF m 21 #[.val (.int p0), .val (.int p1), .val (.int p2), .val (.int p3), .val (.int 1), .val (.ref b582), .unset, .unset, .unset, .unset, .unset, .unset, .unset, .unset] [(.int (p1.toInt8.toInt32)), (.int 0), (.ref b582)])) rfl rfl (hb hby at_21)
   refine own_go (fun _ k => st584 _ k) ?_
   have E_b582 := E_b582.wr W584
   have O := O.wr W584 g_b582
   have K585 := K583.wr W584 (Or.inr sz_b582)
   have V_b582 : Arv Z h584 b582 k582 .byte (1 : Int32) [(.int (nar .byte (p1.toInt8.toInt32)))] (.int 0) := Arv.set A584 q584 S584 M584 H584 G584 (fits_nar_byte _) W584 0 rfl (Nat.le_of_ble_eq_true rfl)
   have N584 := Fr.snoc X584 N0 g_b582
   show own_Fin p e below (T584.setTop (mkF m 22 #[.val (.int p0), .val (.int p1), .val (.int p2), .val (.int p3), .val (.int 1), .val (.ref b582), .unset, .unset, .unset, .unset, .unset, .unset, .unset, .unset] [])) _
   refine own_go (fun _ k => XS.iload X584.here hx rfl (hb hby at_22) rfl (XS.iconst X584.here hx rfl (hb hby at_24) (XS.icmpYes X584.here hx rfl (pc0 := 25) (pc' := 34) rfl (hb hby at_25) rfl (flt (by decide : ¬ ((1 : Int32) < (1 : Int32)))).2.2.2 (by decide) (by decide) (XS.iload X584.here hx rfl (hb hby at_34) rfl (XS.iconst X584.here hx rfl (hb hby at_36) (XS.icmpYes X584.here hx rfl (pc0 := 37) (pc' := 46) rfl (hb hby at_37) rfl (flt (by decide : ¬ ((2 : Int32) < (1 : Int32)))).2.2.2 (by decide) (by decide) (XS.aload X584.here hx rfl (hb hby at_46) rfl rfl k))))))) ?_
   show own_Fin p e below (T584.setTop (mkF m 48 #[.val (.int p0), .val (.int p1), .val (.int p2), .val (.int p3), .val (.int 1), .val (.ref b582), .unset, .unset, .unset, .unset, .unset, .unset, .unset, .unset] [(.ref b582)])) _
   obtain ⟨_, _, ⟨T586, L586, k586, n586⟩, -, X586, ⟨Lc586, hQ586, l586, y586, z586⟩, st586⟩ := Jvm.LawKit.callS X584 hx (y := (⟨"com/example/espalier/espalier/Uris", "encode", "([B)Ljava/lang/String;"⟩ : MethodName)) hown (mvT hZ (ow hw 1)) (mvT hZ (ow hw 2)) (mvT hZ (ow hw 3)) (mvT hZ (ow hw 4)) (by decide) (backOf (W := 0) (en1 l Z a0 hw [] b582 z k582 (nar .byte (p1.toInt8.toInt32)) hxa kh h584 n0 O S_String_COMPACT_STRINGS hz V_b582 S_Uris_HEX V_hxa) hZ (ow hw 4) (ow hw 3) (by decide) (by decide)) (g := (mkF m 48 #[.val (.int p0), .val (.int p1), .val (.int p2), .val (.int p3), .val (.int 1), .val (.ref b582), .unset, .unset, .unset, .unset, .unset, .unset, .unset, .unset] [(.ref b582)])) rfl (by rw [hml]; rfl) (argsL := [(.ref b582)]) (rest := []) (lenOf pd_21 rfl) rfl (by show 2 * 0 + _ ≤ _; exact Nat.le_of_eq rfl) (hb hby at_48) (fun _ _ => ⟨rfl, e584, (by decide : 1 + 7 ≤ _), (by decide : 1 + 72 ≤ _)⟩)
   dsimp only [Pt.U, Pt.locs, Pt.cells, Pt.slots] at X586 l586 y586 z586 st586 hQ586
   subst l586 y586 z586
   obtain ⟨s_587, t2_588, k2_589, rfl, N586q, Kq586, P586_0, P586_1, P586_2, P586_3, P586_4, P586_5⟩ := hQ586
   refine own_go (fun _ k => st586 _ k) ?_
   have N586 := Fr.app N584 N586q
   have ne_b582_s_587 : b582 ≠ s_587 := Nat.ne_of_lt (Nat.lt_of_lt_of_le E_b582.lt P586_0)
   have g_s_587 : n0 ≤ s_587 := Nat.le_trans (own_osz O) P586_0
   have sz_s_587 : h0.size ≤ s_587 := Nat.le_trans K585.1 P586_0
   have ne_b582_t2_588 : b582 ≠ t2_588 := Nat.ne_of_lt (Nat.lt_of_lt_of_le E_b582.lt P586_1)
   have g_t2_588 : n0 ≤ t2_588 := Nat.le_trans (own_osz O) P586_1
   have sz_t2_588 : h0.size ≤ t2_588 := Nat.le_trans K585.1 P586_1
   have E_b582 := E_b582.keep Kq586
   have V_b582 := V_b582.keep Kq586 nin0
   have O := O.keep Kq586 all0
   have K590 := K585.trans Kq586 all0
   have E_s_587 := P586_2
   have F_s_587_String_coder := P586_3
   have F_s_587_String_value := P586_4
   have V_t2_588 := P586_5
   show own_Fin p e below (T586.setTop (mkF m 51 #[.val (.int p0), .val (.int p1), .val (.int p2), .val (.int p3), .val (.int 1), .val (.ref b582), .unset, .unset, .unset, .unset, .unset, .unset, .unset, .unset] [(.ref s_587)])) _
   refine own_go (fun _ k => XS.astore X586.here hx rfl (hb hby at_51) rfl rfl (l' := #[.val (.int p0), .val (.int p1), .val (.int p2), .val (.int p3), .val (.int 1), .val (.ref b582), .val (.ref s_587), .unset, .unset, .unset, .unset, .unset, .unset, .unset]) rfl (XS.iloadN X586.here hx rfl (hb hby at_53) rfl (XS.sipush X586.here hx rfl (hb hby at_54) (XS.iand X586.here hx rfl (hb hby at_57) rfl (XS.istore X586.here hx rfl (hb hby at_58) rfl (l' := #[.val (.int p0), .val (.int p1), .val (.int p2), .val (.int p3), .val (.int 1), .val (.ref b582), .val (.ref s_587), .val (.int (p1 &&& (255 : Int32))), .unset, .unset, .unset, .unset, .unset, .unset]) rfl (XS.iloadN X586.here hx rfl (hb hby at_60) rfl (XS.sipush X586.here hx rfl (hb hby at_61) (XS.iand X586.here hx rfl (hb hby at_64) rfl (XS.istore X586.here hx rfl (hb hby at_65) rfl (l' := #[.val (.int p0), .val (.int p1), .val (.int p2), .val (.int p3), .val (.int 1), .val (.ref b582), .val (.ref s_587), .val (.int (p1 &&& (255 : Int32))), .val (.int (p2 &&& (255 : Int32))), .unset, .unset, .unset, .unset, .unset]) rfl (XS.iloadN X586.here hx rfl (hb hby at_67) rfl k)))))))))) ?_
   show own_Fin p e below (T586.setTop (mkF m 68 #[.val (.int p0), .val (.int p1), .val (.int p2), .val (.int p3), .val (.int 1), .val (.ref b582), .val (.ref s_587), .val (.int (p1 &&& (255 : Int32))), .val (.int (p2 &&& (255 : Int32))), .unset, .unset, .unset, .unset, .unset] [(.int p3)])) _
   refine own_go (fun _ k => XS.sipush X586.here hx rfl (hb hby at_68) (XS.iand X586.here hx rfl (hb hby at_71) rfl (XS.istore X586.here hx rfl (hb hby at_72) rfl (l' := #[.val (.int p0), .val (.int p1), .val (.int p2), .val (.int p3), .val (.int 1), .val (.ref b582), .val (.ref s_587), .val (.int (p1 &&& (255 : Int32))), .val (.int (p2 &&& (255 : Int32))), .val (.int (p3 &&& (255 : Int32))), .unset, .unset, .unset, .unset]) rfl (XS.iload X586.here hx rfl (hb hby at_74) rfl (XS.ifNo X586.here hx rfl (hb hby at_76) rfl ((if0 _ _).trans (tlt (by decide : (0 : Int32) < (1 : Int32))).2.2.2) (XS.iload X586.here hx rfl (hb hby at_79) rfl k)))))) ?_
   show own_Fin p e below (T586.setTop (mkF m 81 #[.val (.int p0), .val (.int p1), .val (.int p2), .val (.int p3), .val (.int 1), .val (.ref b582), .val (.ref s_587), .val (.int (p1 &&& (255 : Int32))), .val (.int (p2 &&& (255 : Int32))), .val (.int (p3 &&& (255 : Int32))), .unset, .unset, .unset, .unset] [(.int (p1 &&& (255 : Int32)))])) _
   obtain ⟨_, _, ⟨T591, L591, k591, n591⟩, -, X591, ⟨Lc591, hQ591, l591, y591, z591⟩, st591⟩ := Jvm.LawKit.callS X586 hx (y := (⟨"com/example/espalier/espalier/UrisEncodePinLaw", "width", "(I)I"⟩ : MethodName)) hown (mvT hZ (ow hw 142)) (mvT hZ (ow hw 143)) (mvT hZ (ow hw 144)) (mvT hZ (ow hw 145)) (by decide) (backOf (W := 0) (rm26 l Z a0 hw [] (p1 &&& (255 : Int32)) (T586.heap) n0 ) hZ (ow hw 145) (ow hw 144) (by decide) (by decide)) (g := (mkF m 81 #[.val (.int p0), .val (.int p1), .val (.int p2), .val (.int p3), .val (.int 1), .val (.ref b582), .val (.ref s_587), .val (.int (p1 &&& (255 : Int32))), .val (.int (p2 &&& (255 : Int32))), .val (.int (p3 &&& (255 : Int32))), .unset, .unset, .unset, .unset] [(.int (p1 &&& (255 : Int32)))])) rfl (by rw [hml]; rfl) (argsL := [(.int (p1 &&& (255 : Int32)))]) (rest := []) (lenOf pd_3 rfl) rfl (by show 2 * 0 + _ ≤ _; exact Nat.le_of_eq rfl) (hb hby at_81) (fun _ _ => ⟨rfl, rfl, (by decide : 8 + 0 ≤ _), (by decide : 73 + 0 ≤ _)⟩)
   dsimp only [Pt.U, Pt.locs, Pt.cells, Pt.slots] at X591 l591 y591 z591 st591 hQ591
   subst l591 y591 z591
   obtain ⟨rfl, N591q, e591⟩ := hQ591
   refine own_go (fun _ k => st591 _ k) ?_
   have N591 := Fr.app N586 N591q
   show own_Fin p e below (T591.setTop (mkF m 84 #[.val (.int p0), .val (.int p1), .val (.int p2), .val (.int p3), .val (.int 1), .val (.ref b582), .val (.ref s_587), .val (.int (p1 &&& (255 : Int32))), .val (.int (p2 &&& (255 : Int32))), .val (.int (p3 &&& (255 : Int32))), .unset, .unset, .unset, .unset] [(.int (own_wd (p1 &&& (255 : Int32))))])) _
   refine own_go (fun _ k => XS.goto X591.here hx rfl (pc0 := 84) (pc' := 88) rfl (hb hby at_84) (by decide) (by decide) (XS.istore X591.here hx rfl (hb hby at_88) rfl (l' := #[.val (.int p0), .val (.int p1), .val (.int p2), .val (.int p3), .val (.int 1), .val (.ref b582), .val (.ref s_587), .val (.int (p1 &&& (255 : Int32))), .val (.int (p2 &&& (255 : Int32))), .val (.int (p3 &&& (255 : Int32))), .val (.int (own_wd (p1 &&& (255 : Int32)))), .unset, .unset, .unset]) rfl (XS.iload X591.here hx rfl (hb hby at_90) rfl (XS.iconst X591.here hx rfl (hb hby at_92) (XS.icmpYes X591.here hx rfl (pc0 := 93) (pc' := 104) rfl (hb hby at_93) rfl (flt (by decide : ¬ ((1 : Int32) < (1 : Int32)))).2.2.2 (by decide) (by decide) (XS.iconst X591.here hx rfl (hb hby at_104) (XS.istore X591.here hx rfl (hb hby at_105) rfl (l' := #[.val (.int p0), .val (.int p1), .val (.int p2), .val (.int p3), .val (.int 1), .val (.ref b582), .val (.ref s_587), .val (.int (p1 &&& (255 : Int32))), .val (.int (p2 &&& (255 : Int32))), .val (.int (p3 &&& (255 : Int32))), .val (.int (own_wd (p1 &&& (255 : Int32)))), .val (.int 0), .unset, .unset]) rfl (XS.iload X591.here hx rfl (hb hby at_107) rfl (XS.iconst X591.here hx rfl (hb hby at_109) (XS.icmpYes X591.here hx rfl (pc0 := 110) (pc' := 121) rfl (hb hby at_110) rfl (flt (by decide : ¬ ((2 : Int32) < (1 : Int32)))).2.2.2 (by decide) (by decide) k)))))))))) ?_
   show own_Fin p e below (T591.setTop (mkF m 121 #[.val (.int p0), .val (.int p1), .val (.int p2), .val (.int p3), .val (.int 1), .val (.ref b582), .val (.ref s_587), .val (.int (p1 &&& (255 : Int32))), .val (.int (p2 &&& (255 : Int32))), .val (.int (p3 &&& (255 : Int32))), .val (.int (own_wd (p1 &&& (255 : Int32)))), .val (.int 0), .unset, .unset] [])) _
   refine own_go (fun _ k => XS.iconst X591.here hx rfl (hb hby at_121) (XS.istore X591.here hx rfl (hb hby at_122) rfl (l' := #[.val (.int p0), .val (.int p1), .val (.int p2), .val (.int p3), .val (.int 1), .val (.ref b582), .val (.ref s_587), .val (.int (p1 &&& (255 : Int32))), .val (.int (p2 &&& (255 : Int32))), .val (.int (p3 &&& (255 : Int32))), .val (.int (own_wd (p1 &&& (255 : Int32)))), .val (.int 0), .val (.int 0), .unset]) rfl (XS.aload X591.here hx rfl (hb hby at_124) rfl rfl k))) ?_
   show own_Fin p e below (T591.setTop (mkF m 126 #[.val (.int p0), .val (.int p1), .val (.int p2), .val (.int p3), .val (.int 1), .val (.ref b582), .val (.ref s_587), .val (.int (p1 &&& (255 : Int32))), .val (.int (p2 &&& (255 : Int32))), .val (.int (p3 &&& (255 : Int32))), .val (.int (own_wd (p1 &&& (255 : Int32)))), .val (.int 0), .val (.int 0), .unset] [(.ref s_587)])) _
   obtain ⟨cq592, kq592, q592a, q592b, q592c⟩ := isOf hZ e591 E_s_587
   obtain ⟨_, _, ⟨T592, L592, k592, n592⟩, -, X592, ⟨Lc592, hQ592, l592, y592, z592⟩, st592⟩ := X591.virtualBack hx (y := (⟨"java/lang/String", "length", "()I"⟩ : MethodName)) (z := (⟨"java/lang/String", "length", "()I"⟩ : MethodName)) hown (mvT hZ (ow hw 79)) (mvT hZ (ow hw 80)) (notFace_of_selects (args := #[]) (mvT hZ (ow hw 82))) (mvT hZ (ow hw 82)) (mvT hZ (ow hw 81)) (by decide) (backOf (W := 0) (slen l Z a0 hw [] s_587 z t2_588 k2_589 (Int32.ofNat (own_enc (nar .byte (p1.toInt8.toInt32))).length) (own_enc (nar .byte (p1.toInt8.toInt32))) (T586.heap) n0 O S_String_COMPACT_STRINGS hz E_s_587 F_s_587_String_coder F_s_587_String_value V_t2_588) hZ (ow hw 83) (ow hw 21) (by decide) (by decide)) q592a q592c (g := (mkF m 126 #[.val (.int p0), .val (.int p1), .val (.int p2), .val (.int p3), .val (.int 1), .val (.ref b582), .val (.ref s_587), .val (.int (p1 &&& (255 : Int32))), .val (.int (p2 &&& (255 : Int32))), .val (.int (p3 &&& (255 : Int32))), .val (.int (own_wd (p1 &&& (255 : Int32)))), .val (.int 0), .val (.int 0), .unset] [(.ref s_587)])) rfl (by rw [hml]; rfl) (Steps.refl _) (argsL := []) (rest := []) (lenOf pd_8 rfl) rfl (by show 2 * 0 + _ ≤ _; exact Nat.le_of_eq rfl) (hb hby at_126) (fun _ _ => ⟨rfl, e591, (by decide : 8 + 0 ≤ _), (by decide : 73 + 0 ≤ _)⟩)
   dsimp only [Pt.U, Pt.locs, Pt.cells, Pt.slots] at X592 l592 y592 z592 st592 hQ592
   subst l592 y592 z592
   obtain ⟨rfl, N592q, e592⟩ := hQ592
   refine own_go (fun _ k => st592.trans k) ?_
   have N592 := Fr.app N591 N592q
   show own_Fin p e below (T592.setTop (mkF m 129 #[.val (.int p0), .val (.int p1), .val (.int p2), .val (.int p3), .val (.int 1), .val (.ref b582), .val (.ref s_587), .val (.int (p1 &&& (255 : Int32))), .val (.int (p2 &&& (255 : Int32))), .val (.int (p3 &&& (255 : Int32))), .val (.int (own_wd (p1 &&& (255 : Int32)))), .val (.int 0), .val (.int 0), .unset] [(.int ((Int32.ofNat (own_enc (nar .byte (p1.toInt8.toInt32))).length) >>> ((0 : Int32) &&& 31)))])) _
   refine own_go (fun _ k => XS.iload X592.here hx rfl (hb hby at_129) rfl (XS.iload X592.here hx rfl (hb hby at_131) rfl (XS.iadd X592.here hx rfl (hb hby at_133) rfl (XS.iload X592.here hx rfl (hb hby at_134) rfl (XS.iadd X592.here hx rfl (hb hby at_136) rfl (XS.icmpYes X592.here hx rfl (pc0 := 137) (pc' := 142) rfl (hb hby at_137) rfl (teq (by rw [own_sh0, own_len1] : ((Int32.ofNat (own_enc (nar .byte (p1.toInt8.toInt32))).length) >>> ((0 : Int32) &&& 31)) = (((own_wd (p1 &&& (255 : Int32))) + (0 : Int32)) + (0 : Int32)))).1 (by decide) (by decide) (XS.iconst X592.here hx rfl (hb hby at_142) (XS.istore X592.here hx rfl (hb hby at_143) rfl (l' := #[.val (.int p0), .val (.int p1), .val (.int p2), .val (.int p3), .val (.int 1), .val (.ref b582), .val (.ref s_587), .val (.int (p1 &&& (255 : Int32))), .val (.int (p2 &&& (255 : Int32))), .val (.int (p3 &&& (255 : Int32))), .val (.int (own_wd (p1 &&& (255 : Int32)))), .val (.int 0), .val (.int 0), .val (.int 1)]) rfl (XS.iload X592.here hx rfl (hb hby at_145) rfl (XS.ifNo X592.here hx rfl (hb hby at_147) rfl ((if0 _ _).trans (tlt (by decide : (0 : Int32) < (1 : Int32))).2.2.2) k)))))))))) ?_
   show own_Fin p e below (T592.setTop (mkF m 150 #[.val (.int p0), .val (.int p1), .val (.int p2), .val (.int p3), .val (.int 1), .val (.ref b582), .val (.ref s_587), .val (.int (p1 &&& (255 : Int32))), .val (.int (p2 &&& (255 : Int32))), .val (.int (p3 &&& (255 : Int32))), .val (.int (own_wd (p1 &&& (255 : Int32)))), .val (.int 0), .val (.int 0), .val (.int 1)] [])) _
   refine own_go (fun _ k => XS.iload X592.here hx rfl (hb hby at_150) rfl (XS.ifNo X592.here hx rfl (hb hby at_152) rfl ((if0 _ _).trans (feq (by decide : ¬ ((1 : Int32) = (0 : Int32)))).1) (XS.aload X592.here hx rfl (hb hby at_155) rfl rfl (XS.iconst X592.here hx rfl (hb hby at_157) (XS.iload X592.here hx rfl (hb hby at_158) rfl k))))) ?_
   show own_Fin p e below (T592.setTop (mkF m 160 #[.val (.int p0), .val (.int p1), .val (.int p2), .val (.int p3), .val (.int 1), .val (.ref b582), .val (.ref s_587), .val (.int (p1 &&& (255 : Int32))), .val (.int (p2 &&& (255 : Int32))), .val (.int (p3 &&& (255 : Int32))), .val (.int (own_wd (p1 &&& (255 : Int32)))), .val (.int 0), .val (.int 0), .val (.int 1)] [(.int (p1 &&& (255 : Int32))), (.int 0), (.ref s_587)])) _
   obtain ⟨_, _, ⟨T593, L593, k593, n593⟩, -, X593, ⟨Lc593, hQ593, l593, y593, z593⟩, st593⟩ := Jvm.LawKit.callS X592 hx (y := (⟨"com/example/espalier/espalier/UrisEncodePinLaw", "at", "(Ljava/lang/String;II)Z"⟩ : MethodName)) hown (mvT hZ (ow hw 149)) (mvT hZ (ow hw 150)) (mvT hZ (ow hw 144)) (mvT hZ (ow hw 151)) (by decide) (backOf (W := 0) (atb l Z a0 hw [] s_587 (0 : Int32) (p1 &&& (255 : Int32)) z t2_588 k2_589 (Int32.ofNat (own_enc (nar .byte (p1.toInt8.toInt32))).length) (own_enc (nar .byte (p1.toInt8.toInt32))) fm (T586.heap) n0 O S_String_COMPACT_STRINGS hz E_s_587 F_s_587_String_coder F_s_587_String_value V_t2_588 S_Preconditions_SIOOBE_FORMATTER hfm (own_A10 _)) hZ (ow hw 151) (ow hw 144) (by decide) (by decide)) (g := (mkF m 160 #[.val (.int p0), .val (.int p1), .val (.int p2), .val (.int p3), .val (.int 1), .val (.ref b582), .val (.ref s_587), .val (.int (p1 &&& (255 : Int32))), .val (.int (p2 &&& (255 : Int32))), .val (.int (p3 &&& (255 : Int32))), .val (.int (own_wd (p1 &&& (255 : Int32)))), .val (.int 0), .val (.int 0), .val (.int 1)] [(.int (p1 &&& (255 : Int32))), (.int 0), (.ref s_587)])) rfl (by rw [hml]; rfl) (argsL := [(.ref s_587), (.int 0), (.int (p1 &&& (255 : Int32)))]) (rest := []) (lenOf pd_22 rfl) rfl (by show 2 * 0 + _ ≤ _; exact Nat.le_of_eq rfl) (hb hby at_160) (fun _ _ => ⟨rfl, e592, (by decide : 8 + 0 ≤ _), (by decide : 73 + 0 ≤ _)⟩)
   dsimp only [Pt.U, Pt.locs, Pt.cells, Pt.slots] at X593 l593 y593 z593 st593 hQ593
   subst l593 y593 z593
   obtain ⟨rfl, N593q, e593⟩ := hQ593
   refine own_go (fun _ k => st593 _ k) ?_
   have N593 := Fr.app N592 N593q
   show own_Fin p e below (T593.setTop (mkF m 163 #[.val (.int p0), .val (.int p1), .val (.int p2), .val (.int p3), .val (.int 1), .val (.ref b582), .val (.ref s_587), .val (.int (p1 &&& (255 : Int32))), .val (.int (p2 &&& (255 : Int32))), .val (.int (p3 &&& (255 : Int32))), .val (.int (own_wd (p1 &&& (255 : Int32)))), .val (.int 0), .val (.int 0), .val (.int 1)] [(.int 1)])) _
   refine own_go (fun _ k => XS.ifNo X593.here hx rfl (hb hby at_163) rfl ((if0 _ _).trans (feq (by decide : ¬ ((1 : Int32) = (0 : Int32)))).1) (XS.iconst X593.here hx rfl (hb hby at_166) (XS.goto X593.here hx rfl (pc0 := 167) (pc' := 171) rfl (hb hby at_167) (by decide) (by decide) (XS.istore X593.here hx rfl (hb hby at_171) rfl (l' := #[.val (.int p0), .val (.int p1), .val (.int p2), .val (.int p3), .val (.int 1), .val (.ref b582), .val (.ref s_587), .val (.int (p1 &&& (255 : Int32))), .val (.int (p2 &&& (255 : Int32))), .val (.int (p3 &&& (255 : Int32))), .val (.int (own_wd (p1 &&& (255 : Int32)))), .val (.int 0), .val (.int 0), .val (.int 1)]) rfl (XS.iload X593.here hx rfl (hb hby at_173) rfl (XS.iconst X593.here hx rfl (hb hby at_175) (XS.icmpYes X593.here hx rfl (pc0 := 176) (pc' := 203) rfl (hb hby at_176) rfl (flt (by decide : ¬ ((1 : Int32) < (1 : Int32)))).2.2.2 (by decide) (by decide) (XS.iload X593.here hx rfl (hb hby at_203) rfl (XS.iconst X593.here hx rfl (hb hby at_205) (XS.icmpYes X593.here hx rfl (pc0 := 206) (pc' := 236) rfl (hb hby at_206) rfl (flt (by decide : ¬ ((2 : Int32) < (1 : Int32)))).2.2.2 (by decide) (by decide) k)))))))))) ?_
   show own_Fin p e below (T593.setTop (mkF m 236 #[.val (.int p0), .val (.int p1), .val (.int p2), .val (.int p3), .val (.int 1), .val (.ref b582), .val (.ref s_587), .val (.int (p1 &&& (255 : Int32))), .val (.int (p2 &&& (255 : Int32))), .val (.int (p3 &&& (255 : Int32))), .val (.int (own_wd (p1 &&& (255 : Int32)))), .val (.int 0), .val (.int 0), .val (.int 1)] [])) _
   refine own_go (fun _ k => XS.iload X593.here hx rfl (hb hby at_236) rfl k) ?_
   show own_Fin p e below (T593.setTop (mkF m 238 #[.val (.int p0), .val (.int p1), .val (.int p2), .val (.int p3), .val (.int 1), .val (.ref b582), .val (.ref s_587), .val (.int (p1 &&& (255 : Int32))), .val (.int (p2 &&& (255 : Int32))), .val (.int (p3 &&& (255 : Int32))), .val (.int (own_wd (p1 &&& (255 : Int32)))), .val (.int 0), .val (.int 0), .val (.int 1)] [(.int 1)])) _
   obtain ⟨fs, hr, hrun, hended, hW, hsame⟩ := X593.leave (v := some (.int 1)) (fun h => by rw [Bd.returns] at h; cases h)
   refine ⟨_, _, ?_, hrun, hended, _, _, rfl, ?_, ⟨_, rfl⟩, hW, hsame.mono (by decide) (by decide)⟩
   ·exact retN X593 hx (t := .boolean) Bd.returns (by simp) (hb hby at_238) hr
   ·show Qrm0 Z p0 p1 p2 p3 z fm hxa kh h0 n0 _ T593.heap _
    rw [e593]
    exact ⟨rfl, N593, K590⟩
  ·rw [hk]
   show own_Fin p e below (s₁.setTop (mkF m 5 #[.val (.int p0), .val (.int p1), .val (.int p2), .val (.int p3), .val (.int 2), .unset, .unset, .unset, .unset, .unset, .unset, .unset, .unset, .unset] [])) _
   refine own_go (fun _ k => XS.iload X0.here hx rfl (hb hby at_5) rfl k) ?_
   show own_Fin p e below (s₁.setTop (mkF m 7 #[.val (.int p0), .val (.int p1), .val (.int p2), .val (.int p3), .val (.int 2), .unset, .unset, .unset, .unset, .unset, .unset, .unset, .unset, .unset] [(.int 2)])) _
   obtain ⟨T595, h595, k595, X595, e595, E595, A595, B595, st595⟩ := newPE X0 hx hZ (ow hw 0) e0 (g := (mkF m 7 #[.val (.int p0), .val (.int p1), .val (.int p2), .val (.int p3), .val (.int 2), .unset, .unset, .unset, .unset, .unset, .unset, .unset, .unset, .unset] [(.int 2)])) rfl (hb hby at_7) rfl (by decide) (cap := 2) (by decide) (by decide) (by decide) (by decide) (ad := "[B") (by decide)
   obtain ⟨b595, g595⟩ : ∃ z, z = h0.size := ⟨_, rfl⟩
   rw [← g595] at A595 st595 B595
   refine own_go (fun _ k => st595 _ k) ?_
   have g_b595 : n0 ≤ b595 := Nat.le_trans (own_osz O) (Nat.le_of_eq g595.symm)
   have sz_b595 : h0.size ≤ b595 := Nat.le_trans K0.1 (Nat.le_of_eq g595.symm)
   have O := O.ext E595
   have K596 := K0.ext E595
   have E_b595 := B595
   have V_b595 : Arv Z h595 b595 k595 .byte (2 : Int32) [(.int 0), (.int 0)] (.int 0) := (Arv.new A595 (by decide)).pad (pad_rep [] (.int 0) 2)
   show own_Fin p e below (T595.setTop (mkF m 9 #[.val (.int p0), .val (.int p1), .val (.int p2), .val (.int p3), .val (.int 2), .unset, .unset, .unset, .unset, .unset, .unset, .unset, .unset, .unset] [(.ref b595)])) _
   refine own_go (fun _ k => XS.astore X595.here hx rfl (hb hby at_9) rfl rfl (l' := #[.val (.int p0), .val (.int p1), .val (.int p2), .val (.int p3), .val (.int 2), .val (.ref b595), .unset, .unset, .unset, .unset, .unset, .unset, .unset, .unset]) rfl (XS.iload X595.here hx rfl (hb hby at_11) rfl (XS.ifNo X595.here hx rfl (hb hby at_13) rfl ((if0 _ _).trans (tlt (by decide : (0 : Int32) < (2 : Int32))).2.2.2) (XS.aload X595.here hx rfl (hb hby at_16) rfl rfl (XS.iconst X595.here hx rfl (hb hby at_18) (XS.iloadN X595.here hx rfl (hb hby at_19) rfl (XS.i2b X595.here hx rfl (hb hby at_20) rfl k))))))) ?_
   show own_Fin p e below (T595.setTop (mkF m 21 #[.val (.int p0), .val (.int p1), .val (.int p2), .val (.int p3), .val (.int 2), .val (.ref b595), .unset, .unset, .unset, .unset, .unset, .unset, .unset, .unset] [(.int (p1.toInt8.toInt32)), (.int 0), (.ref b595)])) _
   obtain ⟨cl597, A597, q597, S597, M597, H597, G597⟩ := id V_b595
   have hin597 : ¬ ((0 : Int32) < 0 ∨ cl597.slots.size ≤ ((0 : Int32)).toNatClampNeg) := inb_of S597 ⟨by decide, by decide⟩
   obtain ⟨T597, h597, X597, e597, W597, st597⟩ := stB X595 hx hZ e595 A597 (j := (0 : Int32)) hin597 (g := (mkF m 21 #[.val (.int p0), .val (.int p1), .val (.int p2), .val (.int p3), .val (.int 2), .val (.ref b595), .unset, .unset, .unset, .unset, .unset, .unset, .unset, .unset] [(.int (p1.toInt8.toInt32)), (.int 0), (.ref b595)])) rfl rfl (hb hby at_21)
   refine own_go (fun _ k => st597 _ k) ?_
   have E_b595 := E_b595.wr W597
   have O := O.wr W597 g_b595
   have K598 := K596.wr W597 (Or.inr sz_b595)
   have V_b595 : Arv Z h597 b595 k595 .byte (2 : Int32) [(.int (nar .byte (p1.toInt8.toInt32))), (.int 0)] (.int 0) := Arv.set A597 q597 S597 M597 H597 G597 (fits_nar_byte _) W597 0 rfl (Nat.le_of_ble_eq_true rfl)
   have N597 := Fr.snoc X597 N0 g_b595
   show own_Fin p e below (T597.setTop (mkF m 22 #[.val (.int p0), .val (.int p1), .val (.int p2), .val (.int p3), .val (.int 2), .val (.ref b595), .unset, .unset, .unset, .unset, .unset, .unset, .unset, .unset] [])) _
   refine own_go (fun _ k => XS.iload X597.here hx rfl (hb hby at_22) rfl (XS.iconst X597.here hx rfl (hb hby at_24) (XS.icmpNo X597.here hx rfl (hb hby at_25) rfl (tlt (by decide : (1 : Int32) < (2 : Int32))).2.2.2 (XS.aload X597.here hx rfl (hb hby at_28) rfl rfl (XS.iconst X597.here hx rfl (hb hby at_30) (XS.iloadN X597.here hx rfl (hb hby at_31) rfl (XS.i2b X597.here hx rfl (hb hby at_32) rfl k))))))) ?_
   show own_Fin p e below (T597.setTop (mkF m 33 #[.val (.int p0), .val (.int p1), .val (.int p2), .val (.int p3), .val (.int 2), .val (.ref b595), .unset, .unset, .unset, .unset, .unset, .unset, .unset, .unset] [(.int (p2.toInt8.toInt32)), (.int 1), (.ref b595)])) _
   obtain ⟨cl599, A599, q599, S599, M599, H599, G599⟩ := id V_b595
   have hin599 : ¬ ((1 : Int32) < 0 ∨ cl599.slots.size ≤ ((1 : Int32)).toNatClampNeg) := inb_of S599 ⟨by decide, by decide⟩
   obtain ⟨T599, h599, X599, e599, W599, st599⟩ := stB X597 hx hZ e597 A599 (j := (1 : Int32)) hin599 (g := (mkF m 33 #[.val (.int p0), .val (.int p1), .val (.int p2), .val (.int p3), .val (.int 2), .val (.ref b595), .unset, .unset, .unset, .unset, .unset, .unset, .unset, .unset] [(.int (p2.toInt8.toInt32)), (.int 1), (.ref b595)])) rfl rfl (hb hby at_33)
   refine own_go (fun _ k => st599 _ k) ?_
   have E_b595 := E_b595.wr W599
   have O := O.wr W599 g_b595
   have K600 := K598.wr W599 (Or.inr sz_b595)
   have V_b595 : Arv Z h599 b595 k595 .byte (2 : Int32) [(.int (nar .byte (p1.toInt8.toInt32))), (.int (nar .byte (p2.toInt8.toInt32)))] (.int 0) := Arv.set A599 q599 S599 M599 H599 G599 (fits_nar_byte _) W599 1 rfl (Nat.le_of_ble_eq_true rfl)
   have N599 := Fr.snoc X599 N597 g_b595
   show own_Fin p e below (T599.setTop (mkF m 34 #[.val (.int p0), .val (.int p1), .val (.int p2), .val (.int p3), .val (.int 2), .val (.ref b595), .unset, .unset, .unset, .unset, .unset, .unset, .unset, .unset] [])) _
   refine own_go (fun _ k => XS.iload X599.here hx rfl (hb hby at_34) rfl (XS.iconst X599.here hx rfl (hb hby at_36) (XS.icmpYes X599.here hx rfl (pc0 := 37) (pc' := 46) rfl (hb hby at_37) rfl (flt (by decide : ¬ ((2 : Int32) < (2 : Int32)))).2.2.2 (by decide) (by decide) (XS.aload X599.here hx rfl (hb hby at_46) rfl rfl k)))) ?_
   show own_Fin p e below (T599.setTop (mkF m 48 #[.val (.int p0), .val (.int p1), .val (.int p2), .val (.int p3), .val (.int 2), .val (.ref b595), .unset, .unset, .unset, .unset, .unset, .unset, .unset, .unset] [(.ref b595)])) _
   obtain ⟨_, _, ⟨T601, L601, k601, n601⟩, -, X601, ⟨Lc601, hQ601, l601, y601, z601⟩, st601⟩ := Jvm.LawKit.callS X599 hx (y := (⟨"com/example/espalier/espalier/Uris", "encode", "([B)Ljava/lang/String;"⟩ : MethodName)) hown (mvT hZ (ow hw 1)) (mvT hZ (ow hw 2)) (mvT hZ (ow hw 3)) (mvT hZ (ow hw 4)) (by decide) (backOf (W := 0) (en2 l Z a0 hw [] b595 z k595 (nar .byte (p1.toInt8.toInt32)) (nar .byte (p2.toInt8.toInt32)) hxa kh h599 n0 O S_String_COMPACT_STRINGS hz V_b595 S_Uris_HEX V_hxa) hZ (ow hw 4) (ow hw 3) (by decide) (by decide)) (g := (mkF m 48 #[.val (.int p0), .val (.int p1), .val (.int p2), .val (.int p3), .val (.int 2), .val (.ref b595), .unset, .unset, .unset, .unset, .unset, .unset, .unset, .unset] [(.ref b595)])) rfl (by rw [hml]; rfl) (argsL := [(.ref b595)]) (rest := []) (lenOf pd_21 rfl) rfl (by show 2 * 0 + _ ≤ _; exact Nat.le_of_eq rfl) (hb hby at_48) (fun _ _ => ⟨rfl, e599, (by decide : 1 + 10 ≤ _), (by decide : 2 + 127 ≤ _)⟩)
   dsimp only [Pt.U, Pt.locs, Pt.cells, Pt.slots] at X601 l601 y601 z601 st601 hQ601
   subst l601 y601 z601
   obtain ⟨s_602, t2_603, k2_604, rfl, N601q, Kq601, P601_0, P601_1, P601_2, P601_3, P601_4, P601_5⟩ := hQ601
   refine own_go (fun _ k => st601 _ k) ?_
   have N601 := Fr.app N599 N601q
   have ne_b595_s_602 : b595 ≠ s_602 := Nat.ne_of_lt (Nat.lt_of_lt_of_le E_b595.lt P601_0)
   have g_s_602 : n0 ≤ s_602 := Nat.le_trans (own_osz O) P601_0
   have sz_s_602 : h0.size ≤ s_602 := Nat.le_trans K600.1 P601_0
   have ne_b595_t2_603 : b595 ≠ t2_603 := Nat.ne_of_lt (Nat.lt_of_lt_of_le E_b595.lt P601_1)
   have g_t2_603 : n0 ≤ t2_603 := Nat.le_trans (own_osz O) P601_1
   have sz_t2_603 : h0.size ≤ t2_603 := Nat.le_trans K600.1 P601_1
   have E_b595 := E_b595.keep Kq601
   have V_b595 := V_b595.keep Kq601 nin0
   have O := O.keep Kq601 all0
   have K605 := K600.trans Kq601 all0
   have E_s_602 := P601_2
   have F_s_602_String_coder := P601_3
   have F_s_602_String_value := P601_4
   have V_t2_603 := P601_5
   show own_Fin p e below (T601.setTop (mkF m 51 #[.val (.int p0), .val (.int p1), .val (.int p2), .val (.int p3), .val (.int 2), .val (.ref b595), .unset, .unset, .unset, .unset, .unset, .unset, .unset, .unset] [(.ref s_602)])) _
   refine own_go (fun _ k => XS.astore X601.here hx rfl (hb hby at_51) rfl rfl (l' := #[.val (.int p0), .val (.int p1), .val (.int p2), .val (.int p3), .val (.int 2), .val (.ref b595), .val (.ref s_602), .unset, .unset, .unset, .unset, .unset, .unset, .unset]) rfl (XS.iloadN X601.here hx rfl (hb hby at_53) rfl (XS.sipush X601.here hx rfl (hb hby at_54) (XS.iand X601.here hx rfl (hb hby at_57) rfl (XS.istore X601.here hx rfl (hb hby at_58) rfl (l' := #[.val (.int p0), .val (.int p1), .val (.int p2), .val (.int p3), .val (.int 2), .val (.ref b595), .val (.ref s_602), .val (.int (p1 &&& (255 : Int32))), .unset, .unset, .unset, .unset, .unset, .unset]) rfl (XS.iloadN X601.here hx rfl (hb hby at_60) rfl (XS.sipush X601.here hx rfl (hb hby at_61) (XS.iand X601.here hx rfl (hb hby at_64) rfl (XS.istore X601.here hx rfl (hb hby at_65) rfl (l' := #[.val (.int p0), .val (.int p1), .val (.int p2), .val (.int p3), .val (.int 2), .val (.ref b595), .val (.ref s_602), .val (.int (p1 &&& (255 : Int32))), .val (.int (p2 &&& (255 : Int32))), .unset, .unset, .unset, .unset, .unset]) rfl (XS.iloadN X601.here hx rfl (hb hby at_67) rfl k)))))))))) ?_
   show own_Fin p e below (T601.setTop (mkF m 68 #[.val (.int p0), .val (.int p1), .val (.int p2), .val (.int p3), .val (.int 2), .val (.ref b595), .val (.ref s_602), .val (.int (p1 &&& (255 : Int32))), .val (.int (p2 &&& (255 : Int32))), .unset, .unset, .unset, .unset, .unset] [(.int p3)])) _
   refine own_go (fun _ k => XS.sipush X601.here hx rfl (hb hby at_68) (XS.iand X601.here hx rfl (hb hby at_71) rfl (XS.istore X601.here hx rfl (hb hby at_72) rfl (l' := #[.val (.int p0), .val (.int p1), .val (.int p2), .val (.int p3), .val (.int 2), .val (.ref b595), .val (.ref s_602), .val (.int (p1 &&& (255 : Int32))), .val (.int (p2 &&& (255 : Int32))), .val (.int (p3 &&& (255 : Int32))), .unset, .unset, .unset, .unset]) rfl (XS.iload X601.here hx rfl (hb hby at_74) rfl (XS.ifNo X601.here hx rfl (hb hby at_76) rfl ((if0 _ _).trans (tlt (by decide : (0 : Int32) < (2 : Int32))).2.2.2) (XS.iload X601.here hx rfl (hb hby at_79) rfl k)))))) ?_
   show own_Fin p e below (T601.setTop (mkF m 81 #[.val (.int p0), .val (.int p1), .val (.int p2), .val (.int p3), .val (.int 2), .val (.ref b595), .val (.ref s_602), .val (.int (p1 &&& (255 : Int32))), .val (.int (p2 &&& (255 : Int32))), .val (.int (p3 &&& (255 : Int32))), .unset, .unset, .unset, .unset] [(.int (p1 &&& (255 : Int32)))])) _
   obtain ⟨_, _, ⟨T606, L606, k606, n606⟩, -, X606, ⟨Lc606, hQ606, l606, y606, z606⟩, st606⟩ := Jvm.LawKit.callS X601 hx (y := (⟨"com/example/espalier/espalier/UrisEncodePinLaw", "width", "(I)I"⟩ : MethodName)) hown (mvT hZ (ow hw 142)) (mvT hZ (ow hw 143)) (mvT hZ (ow hw 144)) (mvT hZ (ow hw 145)) (by decide) (backOf (W := 0) (rm26 l Z a0 hw [] (p1 &&& (255 : Int32)) (T601.heap) n0 ) hZ (ow hw 145) (ow hw 144) (by decide) (by decide)) (g := (mkF m 81 #[.val (.int p0), .val (.int p1), .val (.int p2), .val (.int p3), .val (.int 2), .val (.ref b595), .val (.ref s_602), .val (.int (p1 &&& (255 : Int32))), .val (.int (p2 &&& (255 : Int32))), .val (.int (p3 &&& (255 : Int32))), .unset, .unset, .unset, .unset] [(.int (p1 &&& (255 : Int32)))])) rfl (by rw [hml]; rfl) (argsL := [(.int (p1 &&& (255 : Int32)))]) (rest := []) (lenOf pd_3 rfl) rfl (by show 2 * 0 + _ ≤ _; exact Nat.le_of_eq rfl) (hb hby at_81) (fun _ _ => ⟨rfl, rfl, (by decide : 11 + 0 ≤ _), (by decide : 129 + 0 ≤ _)⟩)
   dsimp only [Pt.U, Pt.locs, Pt.cells, Pt.slots] at X606 l606 y606 z606 st606 hQ606
   subst l606 y606 z606
   obtain ⟨rfl, N606q, e606⟩ := hQ606
   refine own_go (fun _ k => st606 _ k) ?_
   have N606 := Fr.app N601 N606q
   show own_Fin p e below (T606.setTop (mkF m 84 #[.val (.int p0), .val (.int p1), .val (.int p2), .val (.int p3), .val (.int 2), .val (.ref b595), .val (.ref s_602), .val (.int (p1 &&& (255 : Int32))), .val (.int (p2 &&& (255 : Int32))), .val (.int (p3 &&& (255 : Int32))), .unset, .unset, .unset, .unset] [(.int (own_wd (p1 &&& (255 : Int32))))])) _
   refine own_go (fun _ k => XS.goto X606.here hx rfl (pc0 := 84) (pc' := 88) rfl (hb hby at_84) (by decide) (by decide) (XS.istore X606.here hx rfl (hb hby at_88) rfl (l' := #[.val (.int p0), .val (.int p1), .val (.int p2), .val (.int p3), .val (.int 2), .val (.ref b595), .val (.ref s_602), .val (.int (p1 &&& (255 : Int32))), .val (.int (p2 &&& (255 : Int32))), .val (.int (p3 &&& (255 : Int32))), .val (.int (own_wd (p1 &&& (255 : Int32)))), .unset, .unset, .unset]) rfl (XS.iload X606.here hx rfl (hb hby at_90) rfl (XS.iconst X606.here hx rfl (hb hby at_92) (XS.icmpNo X606.here hx rfl (hb hby at_93) rfl (tlt (by decide : (1 : Int32) < (2 : Int32))).2.2.2 (XS.iload X606.here hx rfl (hb hby at_96) rfl k)))))) ?_
   show own_Fin p e below (T606.setTop (mkF m 98 #[.val (.int p0), .val (.int p1), .val (.int p2), .val (.int p3), .val (.int 2), .val (.ref b595), .val (.ref s_602), .val (.int (p1 &&& (255 : Int32))), .val (.int (p2 &&& (255 : Int32))), .val (.int (p3 &&& (255 : Int32))), .val (.int (own_wd (p1 &&& (255 : Int32)))), .unset, .unset, .unset] [(.int (p2 &&& (255 : Int32)))])) _
   obtain ⟨_, _, ⟨T607, L607, k607, n607⟩, -, X607, ⟨Lc607, hQ607, l607, y607, z607⟩, st607⟩ := Jvm.LawKit.callS X606 hx (y := (⟨"com/example/espalier/espalier/UrisEncodePinLaw", "width", "(I)I"⟩ : MethodName)) hown (mvT hZ (ow hw 142)) (mvT hZ (ow hw 143)) (mvT hZ (ow hw 144)) (mvT hZ (ow hw 145)) (by decide) (backOf (W := 0) (rm26 l Z a0 hw [] (p2 &&& (255 : Int32)) (T601.heap) n0 ) hZ (ow hw 145) (ow hw 144) (by decide) (by decide)) (g := (mkF m 98 #[.val (.int p0), .val (.int p1), .val (.int p2), .val (.int p3), .val (.int 2), .val (.ref b595), .val (.ref s_602), .val (.int (p1 &&& (255 : Int32))), .val (.int (p2 &&& (255 : Int32))), .val (.int (p3 &&& (255 : Int32))), .val (.int (own_wd (p1 &&& (255 : Int32)))), .unset, .unset, .unset] [(.int (p2 &&& (255 : Int32)))])) rfl (by rw [hml]; rfl) (argsL := [(.int (p2 &&& (255 : Int32)))]) (rest := []) (lenOf pd_3 rfl) rfl (by show 2 * 0 + _ ≤ _; exact Nat.le_of_eq rfl) (hb hby at_98) (fun _ _ => ⟨rfl, e606, (by decide : 11 + 0 ≤ _), (by decide : 129 + 0 ≤ _)⟩)
   dsimp only [Pt.U, Pt.locs, Pt.cells, Pt.slots] at X607 l607 y607 z607 st607 hQ607
   subst l607 y607 z607
   obtain ⟨rfl, N607q, e607⟩ := hQ607
   refine own_go (fun _ k => st607 _ k) ?_
   have N607 := Fr.app N606 N607q
   show own_Fin p e below (T607.setTop (mkF m 101 #[.val (.int p0), .val (.int p1), .val (.int p2), .val (.int p3), .val (.int 2), .val (.ref b595), .val (.ref s_602), .val (.int (p1 &&& (255 : Int32))), .val (.int (p2 &&& (255 : Int32))), .val (.int (p3 &&& (255 : Int32))), .val (.int (own_wd (p1 &&& (255 : Int32)))), .unset, .unset, .unset] [(.int (own_wd (p2 &&& (255 : Int32))))])) _
   refine own_go (fun _ k => XS.goto X607.here hx rfl (pc0 := 101) (pc' := 105) rfl (hb hby at_101) (by decide) (by decide) (XS.istore X607.here hx rfl (hb hby at_105) rfl (l' := #[.val (.int p0), .val (.int p1), .val (.int p2), .val (.int p3), .val (.int 2), .val (.ref b595), .val (.ref s_602), .val (.int (p1 &&& (255 : Int32))), .val (.int (p2 &&& (255 : Int32))), .val (.int (p3 &&& (255 : Int32))), .val (.int (own_wd (p1 &&& (255 : Int32)))), .val (.int (own_wd (p2 &&& (255 : Int32)))), .unset, .unset]) rfl (XS.iload X607.here hx rfl (hb hby at_107) rfl (XS.iconst X607.here hx rfl (hb hby at_109) (XS.icmpYes X607.here hx rfl (pc0 := 110) (pc' := 121) rfl (hb hby at_110) rfl (flt (by decide : ¬ ((2 : Int32) < (2 : Int32)))).2.2.2 (by decide) (by decide) (XS.iconst X607.here hx rfl (hb hby at_121) (XS.istore X607.here hx rfl (hb hby at_122) rfl (l' := #[.val (.int p0), .val (.int p1), .val (.int p2), .val (.int p3), .val (.int 2), .val (.ref b595), .val (.ref s_602), .val (.int (p1 &&& (255 : Int32))), .val (.int (p2 &&& (255 : Int32))), .val (.int (p3 &&& (255 : Int32))), .val (.int (own_wd (p1 &&& (255 : Int32)))), .val (.int (own_wd (p2 &&& (255 : Int32)))), .val (.int 0), .unset]) rfl (XS.aload X607.here hx rfl (hb hby at_124) rfl rfl k)))))))) ?_
   show own_Fin p e below (T607.setTop (mkF m 126 #[.val (.int p0), .val (.int p1), .val (.int p2), .val (.int p3), .val (.int 2), .val (.ref b595), .val (.ref s_602), .val (.int (p1 &&& (255 : Int32))), .val (.int (p2 &&& (255 : Int32))), .val (.int (p3 &&& (255 : Int32))), .val (.int (own_wd (p1 &&& (255 : Int32)))), .val (.int (own_wd (p2 &&& (255 : Int32)))), .val (.int 0), .unset] [(.ref s_602)])) _
   obtain ⟨cq608, kq608, q608a, q608b, q608c⟩ := isOf hZ e607 E_s_602
   obtain ⟨_, _, ⟨T608, L608, k608, n608⟩, -, X608, ⟨Lc608, hQ608, l608, y608, z608⟩, st608⟩ := X607.virtualBack hx (y := (⟨"java/lang/String", "length", "()I"⟩ : MethodName)) (z := (⟨"java/lang/String", "length", "()I"⟩ : MethodName)) hown (mvT hZ (ow hw 79)) (mvT hZ (ow hw 80)) (notFace_of_selects (args := #[]) (mvT hZ (ow hw 82))) (mvT hZ (ow hw 82)) (mvT hZ (ow hw 81)) (by decide) (backOf (W := 0) (slen l Z a0 hw [] s_602 z t2_603 k2_604 (Int32.ofNat (own_enc (nar .byte (p1.toInt8.toInt32)) ++ own_enc (nar .byte (p2.toInt8.toInt32))).length) (own_enc (nar .byte (p1.toInt8.toInt32)) ++ own_enc (nar .byte (p2.toInt8.toInt32))) (T601.heap) n0 O S_String_COMPACT_STRINGS hz E_s_602 F_s_602_String_coder F_s_602_String_value V_t2_603) hZ (ow hw 83) (ow hw 21) (by decide) (by decide)) q608a q608c (g := (mkF m 126 #[.val (.int p0), .val (.int p1), .val (.int p2), .val (.int p3), .val (.int 2), .val (.ref b595), .val (.ref s_602), .val (.int (p1 &&& (255 : Int32))), .val (.int (p2 &&& (255 : Int32))), .val (.int (p3 &&& (255 : Int32))), .val (.int (own_wd (p1 &&& (255 : Int32)))), .val (.int (own_wd (p2 &&& (255 : Int32)))), .val (.int 0), .unset] [(.ref s_602)])) rfl (by rw [hml]; rfl) (Steps.refl _) (argsL := []) (rest := []) (lenOf pd_8 rfl) rfl (by show 2 * 0 + _ ≤ _; exact Nat.le_of_eq rfl) (hb hby at_126) (fun _ _ => ⟨rfl, e607, (by decide : 11 + 0 ≤ _), (by decide : 129 + 0 ≤ _)⟩)
   dsimp only [Pt.U, Pt.locs, Pt.cells, Pt.slots] at X608 l608 y608 z608 st608 hQ608
   subst l608 y608 z608
   obtain ⟨rfl, N608q, e608⟩ := hQ608
   refine own_go (fun _ k => st608.trans k) ?_
   have N608 := Fr.app N607 N608q
   show own_Fin p e below (T608.setTop (mkF m 129 #[.val (.int p0), .val (.int p1), .val (.int p2), .val (.int p3), .val (.int 2), .val (.ref b595), .val (.ref s_602), .val (.int (p1 &&& (255 : Int32))), .val (.int (p2 &&& (255 : Int32))), .val (.int (p3 &&& (255 : Int32))), .val (.int (own_wd (p1 &&& (255 : Int32)))), .val (.int (own_wd (p2 &&& (255 : Int32)))), .val (.int 0), .unset] [(.int ((Int32.ofNat (own_enc (nar .byte (p1.toInt8.toInt32)) ++ own_enc (nar .byte (p2.toInt8.toInt32))).length) >>> ((0 : Int32) &&& 31)))])) _
   refine own_go (fun _ k => XS.iload X608.here hx rfl (hb hby at_129) rfl (XS.iload X608.here hx rfl (hb hby at_131) rfl (XS.iadd X608.here hx rfl (hb hby at_133) rfl (XS.iload X608.here hx rfl (hb hby at_134) rfl (XS.iadd X608.here hx rfl (hb hby at_136) rfl (XS.icmpYes X608.here hx rfl (pc0 := 137) (pc' := 142) rfl (hb hby at_137) rfl (teq (by rw [own_sh0, own_len2] : ((Int32.ofNat (own_enc (nar .byte (p1.toInt8.toInt32)) ++ own_enc (nar .byte (p2.toInt8.toInt32))).length) >>> ((0 : Int32) &&& 31)) = (((own_wd (p1 &&& (255 : Int32))) + (own_wd (p2 &&& (255 : Int32)))) + (0 : Int32)))).1 (by decide) (by decide) (XS.iconst X608.here hx rfl (hb hby at_142) (XS.istore X608.here hx rfl (hb hby at_143) rfl (l' := #[.val (.int p0), .val (.int p1), .val (.int p2), .val (.int p3), .val (.int 2), .val (.ref b595), .val (.ref s_602), .val (.int (p1 &&& (255 : Int32))), .val (.int (p2 &&& (255 : Int32))), .val (.int (p3 &&& (255 : Int32))), .val (.int (own_wd (p1 &&& (255 : Int32)))), .val (.int (own_wd (p2 &&& (255 : Int32)))), .val (.int 0), .val (.int 1)]) rfl (XS.iload X608.here hx rfl (hb hby at_145) rfl (XS.ifNo X608.here hx rfl (hb hby at_147) rfl ((if0 _ _).trans (tlt (by decide : (0 : Int32) < (2 : Int32))).2.2.2) k)))))))))) ?_
   show own_Fin p e below (T608.setTop (mkF m 150 #[.val (.int p0), .val (.int p1), .val (.int p2), .val (.int p3), .val (.int 2), .val (.ref b595), .val (.ref s_602), .val (.int (p1 &&& (255 : Int32))), .val (.int (p2 &&& (255 : Int32))), .val (.int (p3 &&& (255 : Int32))), .val (.int (own_wd (p1 &&& (255 : Int32)))), .val (.int (own_wd (p2 &&& (255 : Int32)))), .val (.int 0), .val (.int 1)] [])) _
   refine own_go (fun _ k => XS.iload X608.here hx rfl (hb hby at_150) rfl (XS.ifNo X608.here hx rfl (hb hby at_152) rfl ((if0 _ _).trans (feq (by decide : ¬ ((1 : Int32) = (0 : Int32)))).1) (XS.aload X608.here hx rfl (hb hby at_155) rfl rfl (XS.iconst X608.here hx rfl (hb hby at_157) (XS.iload X608.here hx rfl (hb hby at_158) rfl k))))) ?_
   show own_Fin p e below (T608.setTop (mkF m 160 #[.val (.int p0), .val (.int p1), .val (.int p2), .val (.int p3), .val (.int 2), .val (.ref b595), .val (.ref s_602), .val (.int (p1 &&& (255 : Int32))), .val (.int (p2 &&& (255 : Int32))), .val (.int (p3 &&& (255 : Int32))), .val (.int (own_wd (p1 &&& (255 : Int32)))), .val (.int (own_wd (p2 &&& (255 : Int32)))), .val (.int 0), .val (.int 1)] [(.int (p1 &&& (255 : Int32))), (.int 0), (.ref s_602)])) _
   obtain ⟨_, _, ⟨T609, L609, k609, n609⟩, -, X609, ⟨Lc609, hQ609, l609, y609, z609⟩, st609⟩ := Jvm.LawKit.callS X608 hx (y := (⟨"com/example/espalier/espalier/UrisEncodePinLaw", "at", "(Ljava/lang/String;II)Z"⟩ : MethodName)) hown (mvT hZ (ow hw 149)) (mvT hZ (ow hw 150)) (mvT hZ (ow hw 144)) (mvT hZ (ow hw 151)) (by decide) (backOf (W := 0) (atb l Z a0 hw [] s_602 (0 : Int32) (p1 &&& (255 : Int32)) z t2_603 k2_604 (Int32.ofNat (own_enc (nar .byte (p1.toInt8.toInt32)) ++ own_enc (nar .byte (p2.toInt8.toInt32))).length) (own_enc (nar .byte (p1.toInt8.toInt32)) ++ own_enc (nar .byte (p2.toInt8.toInt32))) fm (T601.heap) n0 O S_String_COMPACT_STRINGS hz E_s_602 F_s_602_String_coder F_s_602_String_value V_t2_603 S_Preconditions_SIOOBE_FORMATTER hfm (own_A20 _ _)) hZ (ow hw 151) (ow hw 144) (by decide) (by decide)) (g := (mkF m 160 #[.val (.int p0), .val (.int p1), .val (.int p2), .val (.int p3), .val (.int 2), .val (.ref b595), .val (.ref s_602), .val (.int (p1 &&& (255 : Int32))), .val (.int (p2 &&& (255 : Int32))), .val (.int (p3 &&& (255 : Int32))), .val (.int (own_wd (p1 &&& (255 : Int32)))), .val (.int (own_wd (p2 &&& (255 : Int32)))), .val (.int 0), .val (.int 1)] [(.int (p1 &&& (255 : Int32))), (.int 0), (.ref s_602)])) rfl (by rw [hml]; rfl) (argsL := [(.ref s_602), (.int 0), (.int (p1 &&& (255 : Int32)))]) (rest := []) (lenOf pd_22 rfl) rfl (by show 2 * 0 + _ ≤ _; exact Nat.le_of_eq rfl) (hb hby at_160) (fun _ _ => ⟨rfl, e608, (by decide : 11 + 0 ≤ _), (by decide : 129 + 0 ≤ _)⟩)
   dsimp only [Pt.U, Pt.locs, Pt.cells, Pt.slots] at X609 l609 y609 z609 st609 hQ609
   subst l609 y609 z609
   obtain ⟨rfl, N609q, e609⟩ := hQ609
   refine own_go (fun _ k => st609 _ k) ?_
   have N609 := Fr.app N608 N609q
   show own_Fin p e below (T609.setTop (mkF m 163 #[.val (.int p0), .val (.int p1), .val (.int p2), .val (.int p3), .val (.int 2), .val (.ref b595), .val (.ref s_602), .val (.int (p1 &&& (255 : Int32))), .val (.int (p2 &&& (255 : Int32))), .val (.int (p3 &&& (255 : Int32))), .val (.int (own_wd (p1 &&& (255 : Int32)))), .val (.int (own_wd (p2 &&& (255 : Int32)))), .val (.int 0), .val (.int 1)] [(.int 1)])) _
   refine own_go (fun _ k => XS.ifNo X609.here hx rfl (hb hby at_163) rfl ((if0 _ _).trans (feq (by decide : ¬ ((1 : Int32) = (0 : Int32)))).1) (XS.iconst X609.here hx rfl (hb hby at_166) (XS.goto X609.here hx rfl (pc0 := 167) (pc' := 171) rfl (hb hby at_167) (by decide) (by decide) (XS.istore X609.here hx rfl (hb hby at_171) rfl (l' := #[.val (.int p0), .val (.int p1), .val (.int p2), .val (.int p3), .val (.int 2), .val (.ref b595), .val (.ref s_602), .val (.int (p1 &&& (255 : Int32))), .val (.int (p2 &&& (255 : Int32))), .val (.int (p3 &&& (255 : Int32))), .val (.int (own_wd (p1 &&& (255 : Int32)))), .val (.int (own_wd (p2 &&& (255 : Int32)))), .val (.int 0), .val (.int 1)]) rfl (XS.iload X609.here hx rfl (hb hby at_173) rfl (XS.iconst X609.here hx rfl (hb hby at_175) (XS.icmpNo X609.here hx rfl (hb hby at_176) rfl (tlt (by decide : (1 : Int32) < (2 : Int32))).2.2.2 (XS.iload X609.here hx rfl (hb hby at_179) rfl (XS.ifNo X609.here hx rfl (hb hby at_181) rfl ((if0 _ _).trans (feq (by decide : ¬ ((1 : Int32) = (0 : Int32)))).1) (XS.aload X609.here hx rfl (hb hby at_184) rfl rfl k)))))))))) ?_
   show own_Fin p e below (T609.setTop (mkF m 186 #[.val (.int p0), .val (.int p1), .val (.int p2), .val (.int p3), .val (.int 2), .val (.ref b595), .val (.ref s_602), .val (.int (p1 &&& (255 : Int32))), .val (.int (p2 &&& (255 : Int32))), .val (.int (p3 &&& (255 : Int32))), .val (.int (own_wd (p1 &&& (255 : Int32)))), .val (.int (own_wd (p2 &&& (255 : Int32)))), .val (.int 0), .val (.int 1)] [(.ref s_602)])) _
   refine own_go (fun _ k => XS.iload X609.here hx rfl (hb hby at_186) rfl (XS.iload X609.here hx rfl (hb hby at_188) rfl k)) ?_
   show own_Fin p e below (T609.setTop (mkF m 190 #[.val (.int p0), .val (.int p1), .val (.int p2), .val (.int p3), .val (.int 2), .val (.ref b595), .val (.ref s_602), .val (.int (p1 &&& (255 : Int32))), .val (.int (p2 &&& (255 : Int32))), .val (.int (p3 &&& (255 : Int32))), .val (.int (own_wd (p1 &&& (255 : Int32)))), .val (.int (own_wd (p2 &&& (255 : Int32)))), .val (.int 0), .val (.int 1)] [(.int (p2 &&& (255 : Int32))), (.int (own_wd (p1 &&& (255 : Int32)))), (.ref s_602)])) _
   obtain ⟨_, _, ⟨T610, L610, k610, n610⟩, -, X610, ⟨Lc610, hQ610, l610, y610, z610⟩, st610⟩ := Jvm.LawKit.callS X609 hx (y := (⟨"com/example/espalier/espalier/UrisEncodePinLaw", "at", "(Ljava/lang/String;II)Z"⟩ : MethodName)) hown (mvT hZ (ow hw 149)) (mvT hZ (ow hw 150)) (mvT hZ (ow hw 144)) (mvT hZ (ow hw 151)) (by decide) (backOf (W := 0) (atb l Z a0 hw [] s_602 (own_wd (p1 &&& (255 : Int32))) (p2 &&& (255 : Int32)) z t2_603 k2_604 (Int32.ofNat (own_enc (nar .byte (p1.toInt8.toInt32)) ++ own_enc (nar .byte (p2.toInt8.toInt32))).length) (own_enc (nar .byte (p1.toInt8.toInt32)) ++ own_enc (nar .byte (p2.toInt8.toInt32))) fm (T601.heap) n0 O S_String_COMPACT_STRINGS hz E_s_602 F_s_602_String_coder F_s_602_String_value V_t2_603 S_Preconditions_SIOOBE_FORMATTER hfm (own_A21 _ _)) hZ (ow hw 151) (ow hw 144) (by decide) (by decide)) (g := (mkF m 190 #[.val (.int p0), .val (.int p1), .val (.int p2), .val (.int p3), .val (.int 2), .val (.ref b595), .val (.ref s_602), .val (.int (p1 &&& (255 : Int32))), .val (.int (p2 &&& (255 : Int32))), .val (.int (p3 &&& (255 : Int32))), .val (.int (own_wd (p1 &&& (255 : Int32)))), .val (.int (own_wd (p2 &&& (255 : Int32)))), .val (.int 0), .val (.int 1)] [(.int (p2 &&& (255 : Int32))), (.int (own_wd (p1 &&& (255 : Int32)))), (.ref s_602)])) rfl (by rw [hml]; rfl) (argsL := [(.ref s_602), (.int (own_wd (p1 &&& (255 : Int32)))), (.int (p2 &&& (255 : Int32)))]) (rest := []) (lenOf pd_22 rfl) rfl (by show 2 * 0 + _ ≤ _; exact Nat.le_of_eq rfl) (hb hby at_190) (fun _ _ => ⟨rfl, e609, (by decide : 11 + 0 ≤ _), (by decide : 129 + 0 ≤ _)⟩)
   dsimp only [Pt.U, Pt.locs, Pt.cells, Pt.slots] at X610 l610 y610 z610 st610 hQ610
   subst l610 y610 z610
   obtain ⟨rfl, N610q, e610⟩ := hQ610
   refine own_go (fun _ k => st610 _ k) ?_
   have N610 := Fr.app N609 N610q
   show own_Fin p e below (T610.setTop (mkF m 193 #[.val (.int p0), .val (.int p1), .val (.int p2), .val (.int p3), .val (.int 2), .val (.ref b595), .val (.ref s_602), .val (.int (p1 &&& (255 : Int32))), .val (.int (p2 &&& (255 : Int32))), .val (.int (p3 &&& (255 : Int32))), .val (.int (own_wd (p1 &&& (255 : Int32)))), .val (.int (own_wd (p2 &&& (255 : Int32)))), .val (.int 0), .val (.int 1)] [(.int 1)])) _
   refine own_go (fun _ k => XS.ifNo X610.here hx rfl (hb hby at_193) rfl ((if0 _ _).trans (feq (by decide : ¬ ((1 : Int32) = (0 : Int32)))).1) (XS.iconst X610.here hx rfl (hb hby at_196) (XS.goto X610.here hx rfl (pc0 := 197) (pc' := 201) rfl (hb hby at_197) (by decide) (by decide) (XS.istore X610.here hx rfl (hb hby at_201) rfl (l' := #[.val (.int p0), .val (.int p1), .val (.int p2), .val (.int p3), .val (.int 2), .val (.ref b595), .val (.ref s_602), .val (.int (p1 &&& (255 : Int32))), .val (.int (p2 &&& (255 : Int32))), .val (.int (p3 &&& (255 : Int32))), .val (.int (own_wd (p1 &&& (255 : Int32)))), .val (.int (own_wd (p2 &&& (255 : Int32)))), .val (.int 0), .val (.int 1)]) rfl (XS.iload X610.here hx rfl (hb hby at_203) rfl (XS.iconst X610.here hx rfl (hb hby at_205) (XS.icmpYes X610.here hx rfl (pc0 := 206) (pc' := 236) rfl (hb hby at_206) rfl (flt (by decide : ¬ ((2 : Int32) < (2 : Int32)))).2.2.2 (by decide) (by decide) (XS.iload X610.here hx rfl (hb hby at_236) rfl k)))))))) ?_
   show own_Fin p e below (T610.setTop (mkF m 238 #[.val (.int p0), .val (.int p1), .val (.int p2), .val (.int p3), .val (.int 2), .val (.ref b595), .val (.ref s_602), .val (.int (p1 &&& (255 : Int32))), .val (.int (p2 &&& (255 : Int32))), .val (.int (p3 &&& (255 : Int32))), .val (.int (own_wd (p1 &&& (255 : Int32)))), .val (.int (own_wd (p2 &&& (255 : Int32)))), .val (.int 0), .val (.int 1)] [(.int 1)])) _
   obtain ⟨fs, hr, hrun, hended, hW, hsame⟩ := X610.leave (v := some (.int 1)) (fun h => by rw [Bd.returns] at h; cases h)
   refine ⟨_, _, ?_, hrun, hended, _, _, rfl, ?_, ⟨_, rfl⟩, hW, hsame.mono (by decide) (by decide)⟩
   ·exact retN X610 hx (t := .boolean) Bd.returns (by simp) (hb hby at_238) hr
   ·show Qrm0 Z p0 p1 p2 p3 z fm hxa kh h0 n0 _ T610.heap _
    rw [e610]
    exact ⟨rfl, N610, K605⟩
  ·rw [hk]
   show own_Fin p e below (s₁.setTop (mkF m 5 #[.val (.int p0), .val (.int p1), .val (.int p2), .val (.int p3), .val (.int 3), .unset, .unset, .unset, .unset, .unset, .unset, .unset, .unset, .unset] [])) _
   refine own_go (fun _ k => XS.iload X0.here hx rfl (hb hby at_5) rfl k) ?_
   show own_Fin p e below (s₁.setTop (mkF m 7 #[.val (.int p0), .val (.int p1), .val (.int p2), .val (.int p3), .val (.int 3), .unset, .unset, .unset, .unset, .unset, .unset, .unset, .unset, .unset] [(.int 3)])) _
   obtain ⟨T612, h612, k612, X612, e612, E612, A612, B612, st612⟩ := newPE X0 hx hZ (ow hw 0) e0 (g := (mkF m 7 #[.val (.int p0), .val (.int p1), .val (.int p2), .val (.int p3), .val (.int 3), .unset, .unset, .unset, .unset, .unset, .unset, .unset, .unset, .unset] [(.int 3)])) rfl (hb hby at_7) rfl (by decide) (cap := 3) (by decide) (by decide) (by decide) (by decide) (ad := "[B") (by decide)
   obtain ⟨b612, g612⟩ : ∃ z, z = h0.size := ⟨_, rfl⟩
   rw [← g612] at A612 st612 B612
   refine own_go (fun _ k => st612 _ k) ?_
   have g_b612 : n0 ≤ b612 := Nat.le_trans (own_osz O) (Nat.le_of_eq g612.symm)
   have sz_b612 : h0.size ≤ b612 := Nat.le_trans K0.1 (Nat.le_of_eq g612.symm)
   have O := O.ext E612
   have K613 := K0.ext E612
   have E_b612 := B612
   have V_b612 : Arv Z h612 b612 k612 .byte (3 : Int32) [(.int 0), (.int 0), (.int 0)] (.int 0) := (Arv.new A612 (by decide)).pad (pad_rep [] (.int 0) 3)
   show own_Fin p e below (T612.setTop (mkF m 9 #[.val (.int p0), .val (.int p1), .val (.int p2), .val (.int p3), .val (.int 3), .unset, .unset, .unset, .unset, .unset, .unset, .unset, .unset, .unset] [(.ref b612)])) _
   refine own_go (fun _ k => XS.astore X612.here hx rfl (hb hby at_9) rfl rfl (l' := #[.val (.int p0), .val (.int p1), .val (.int p2), .val (.int p3), .val (.int 3), .val (.ref b612), .unset, .unset, .unset, .unset, .unset, .unset, .unset, .unset]) rfl (XS.iload X612.here hx rfl (hb hby at_11) rfl (XS.ifNo X612.here hx rfl (hb hby at_13) rfl ((if0 _ _).trans (tlt (by decide : (0 : Int32) < (3 : Int32))).2.2.2) (XS.aload X612.here hx rfl (hb hby at_16) rfl rfl (XS.iconst X612.here hx rfl (hb hby at_18) (XS.iloadN X612.here hx rfl (hb hby at_19) rfl (XS.i2b X612.here hx rfl (hb hby at_20) rfl k))))))) ?_
   show own_Fin p e below (T612.setTop (mkF m 21 #[.val (.int p0), .val (.int p1), .val (.int p2), .val (.int p3), .val (.int 3), .val (.ref b612), .unset, .unset, .unset, .unset, .unset, .unset, .unset, .unset] [(.int (p1.toInt8.toInt32)), (.int 0), (.ref b612)])) _
   obtain ⟨cl614, A614, q614, S614, M614, H614, G614⟩ := id V_b612
   have hin614 : ¬ ((0 : Int32) < 0 ∨ cl614.slots.size ≤ ((0 : Int32)).toNatClampNeg) := inb_of S614 ⟨by decide, by decide⟩
   obtain ⟨T614, h614, X614, e614, W614, st614⟩ := stB X612 hx hZ e612 A614 (j := (0 : Int32)) hin614 (g := (mkF m 21 #[.val (.int p0), .val (.int p1), .val (.int p2), .val (.int p3), .val (.int 3), .val (.ref b612), .unset, .unset, .unset, .unset, .unset, .unset, .unset, .unset] [(.int (p1.toInt8.toInt32)), (.int 0), (.ref b612)])) rfl rfl (hb hby at_21)
   refine own_go (fun _ k => st614 _ k) ?_
   have E_b612 := E_b612.wr W614
   have O := O.wr W614 g_b612
   have K615 := K613.wr W614 (Or.inr sz_b612)
   have V_b612 : Arv Z h614 b612 k612 .byte (3 : Int32) [(.int (nar .byte (p1.toInt8.toInt32))), (.int 0), (.int 0)] (.int 0) := Arv.set A614 q614 S614 M614 H614 G614 (fits_nar_byte _) W614 0 rfl (Nat.le_of_ble_eq_true rfl)
   have N614 := Fr.snoc X614 N0 g_b612
   show own_Fin p e below (T614.setTop (mkF m 22 #[.val (.int p0), .val (.int p1), .val (.int p2), .val (.int p3), .val (.int 3), .val (.ref b612), .unset, .unset, .unset, .unset, .unset, .unset, .unset, .unset] [])) _
   refine own_go (fun _ k => XS.iload X614.here hx rfl (hb hby at_22) rfl (XS.iconst X614.here hx rfl (hb hby at_24) (XS.icmpNo X614.here hx rfl (hb hby at_25) rfl (tlt (by decide : (1 : Int32) < (3 : Int32))).2.2.2 (XS.aload X614.here hx rfl (hb hby at_28) rfl rfl (XS.iconst X614.here hx rfl (hb hby at_30) (XS.iloadN X614.here hx rfl (hb hby at_31) rfl (XS.i2b X614.here hx rfl (hb hby at_32) rfl k))))))) ?_
   show own_Fin p e below (T614.setTop (mkF m 33 #[.val (.int p0), .val (.int p1), .val (.int p2), .val (.int p3), .val (.int 3), .val (.ref b612), .unset, .unset, .unset, .unset, .unset, .unset, .unset, .unset] [(.int (p2.toInt8.toInt32)), (.int 1), (.ref b612)])) _
   obtain ⟨cl616, A616, q616, S616, M616, H616, G616⟩ := id V_b612
   have hin616 : ¬ ((1 : Int32) < 0 ∨ cl616.slots.size ≤ ((1 : Int32)).toNatClampNeg) := inb_of S616 ⟨by decide, by decide⟩
   obtain ⟨T616, h616, X616, e616, W616, st616⟩ := stB X614 hx hZ e614 A616 (j := (1 : Int32)) hin616 (g := (mkF m 33 #[.val (.int p0), .val (.int p1), .val (.int p2), .val (.int p3), .val (.int 3), .val (.ref b612), .unset, .unset, .unset, .unset, .unset, .unset, .unset, .unset] [(.int (p2.toInt8.toInt32)), (.int 1), (.ref b612)])) rfl rfl (hb hby at_33)
   refine own_go (fun _ k => st616 _ k) ?_
   have E_b612 := E_b612.wr W616
   have O := O.wr W616 g_b612
   have K617 := K615.wr W616 (Or.inr sz_b612)
   have V_b612 : Arv Z h616 b612 k612 .byte (3 : Int32) [(.int (nar .byte (p1.toInt8.toInt32))), (.int (nar .byte (p2.toInt8.toInt32))), (.int 0)] (.int 0) := Arv.set A616 q616 S616 M616 H616 G616 (fits_nar_byte _) W616 1 rfl (Nat.le_of_ble_eq_true rfl)
   have N616 := Fr.snoc X616 N614 g_b612
   show own_Fin p e below (T616.setTop (mkF m 34 #[.val (.int p0), .val (.int p1), .val (.int p2), .val (.int p3), .val (.int 3), .val (.ref b612), .unset, .unset, .unset, .unset, .unset, .unset, .unset, .unset] [])) _
   refine own_go (fun _ k => XS.iload X616.here hx rfl (hb hby at_34) rfl (XS.iconst X616.here hx rfl (hb hby at_36) (XS.icmpNo X616.here hx rfl (hb hby at_37) rfl (tlt (by decide : (2 : Int32) < (3 : Int32))).2.2.2 (XS.aload X616.here hx rfl (hb hby at_40) rfl rfl (XS.iconst X616.here hx rfl (hb hby at_42) (XS.iloadN X616.here hx rfl (hb hby at_43) rfl (XS.i2b X616.here hx rfl (hb hby at_44) rfl k))))))) ?_
   show own_Fin p e below (T616.setTop (mkF m 45 #[.val (.int p0), .val (.int p1), .val (.int p2), .val (.int p3), .val (.int 3), .val (.ref b612), .unset, .unset, .unset, .unset, .unset, .unset, .unset, .unset] [(.int (p3.toInt8.toInt32)), (.int 2), (.ref b612)])) _
   obtain ⟨cl618, A618, q618, S618, M618, H618, G618⟩ := id V_b612
   have hin618 : ¬ ((2 : Int32) < 0 ∨ cl618.slots.size ≤ ((2 : Int32)).toNatClampNeg) := inb_of S618 ⟨by decide, by decide⟩
   obtain ⟨T618, h618, X618, e618, W618, st618⟩ := stB X616 hx hZ e616 A618 (j := (2 : Int32)) hin618 (g := (mkF m 45 #[.val (.int p0), .val (.int p1), .val (.int p2), .val (.int p3), .val (.int 3), .val (.ref b612), .unset, .unset, .unset, .unset, .unset, .unset, .unset, .unset] [(.int (p3.toInt8.toInt32)), (.int 2), (.ref b612)])) rfl rfl (hb hby at_45)
   refine own_go (fun _ k => st618 _ k) ?_
   have E_b612 := E_b612.wr W618
   have O := O.wr W618 g_b612
   have K619 := K617.wr W618 (Or.inr sz_b612)
   have V_b612 : Arv Z h618 b612 k612 .byte (3 : Int32) [(.int (nar .byte (p1.toInt8.toInt32))), (.int (nar .byte (p2.toInt8.toInt32))), (.int (nar .byte (p3.toInt8.toInt32)))] (.int 0) := Arv.set A618 q618 S618 M618 H618 G618 (fits_nar_byte _) W618 2 rfl (Nat.le_of_ble_eq_true rfl)
   have N618 := Fr.snoc X618 N616 g_b612
   show own_Fin p e below (T618.setTop (mkF m 46 #[.val (.int p0), .val (.int p1), .val (.int p2), .val (.int p3), .val (.int 3), .val (.ref b612), .unset, .unset, .unset, .unset, .unset, .unset, .unset, .unset] [])) _
   refine own_go (fun _ k => XS.aload X618.here hx rfl (hb hby at_46) rfl rfl k) ?_
   show own_Fin p e below (T618.setTop (mkF m 48 #[.val (.int p0), .val (.int p1), .val (.int p2), .val (.int p3), .val (.int 3), .val (.ref b612), .unset, .unset, .unset, .unset, .unset, .unset, .unset, .unset] [(.ref b612)])) _
   obtain ⟨_, _, ⟨T620, L620, k620, n620⟩, -, X620, ⟨Lc620, hQ620, l620, y620, z620⟩, st620⟩ := Jvm.LawKit.callS X618 hx (y := (⟨"com/example/espalier/espalier/Uris", "encode", "([B)Ljava/lang/String;"⟩ : MethodName)) hown (mvT hZ (ow hw 1)) (mvT hZ (ow hw 2)) (mvT hZ (ow hw 3)) (mvT hZ (ow hw 4)) (by decide) (backOf (W := 0) (en3 l Z a0 hw [] b612 z k612 (nar .byte (p1.toInt8.toInt32)) (nar .byte (p2.toInt8.toInt32)) (nar .byte (p3.toInt8.toInt32)) hxa kh h618 n0 O S_String_COMPACT_STRINGS hz V_b612 S_Uris_HEX V_hxa) hZ (ow hw 4) (ow hw 3) (by decide) (by decide)) (g := (mkF m 48 #[.val (.int p0), .val (.int p1), .val (.int p2), .val (.int p3), .val (.int 3), .val (.ref b612), .unset, .unset, .unset, .unset, .unset, .unset, .unset, .unset] [(.ref b612)])) rfl (by rw [hml]; rfl) (argsL := [(.ref b612)]) (rest := []) (lenOf pd_21 rfl) rfl (by show 2 * 0 + _ ≤ _; exact Nat.le_of_eq rfl) (hb hby at_48) (fun _ _ => ⟨rfl, e618, (by decide : 1 + 13 ≤ _), (by decide : 3 + 182 ≤ _)⟩)
   dsimp only [Pt.U, Pt.locs, Pt.cells, Pt.slots] at X620 l620 y620 z620 st620 hQ620
   subst l620 y620 z620
   obtain ⟨s_621, t2_622, k2_623, rfl, N620q, Kq620, P620_0, P620_1, P620_2, P620_3, P620_4, P620_5⟩ := hQ620
   refine own_go (fun _ k => st620 _ k) ?_
   have N620 := Fr.app N618 N620q
   have ne_b612_s_621 : b612 ≠ s_621 := Nat.ne_of_lt (Nat.lt_of_lt_of_le E_b612.lt P620_0)
   have g_s_621 : n0 ≤ s_621 := Nat.le_trans (own_osz O) P620_0
   have sz_s_621 : h0.size ≤ s_621 := Nat.le_trans K619.1 P620_0
   have ne_b612_t2_622 : b612 ≠ t2_622 := Nat.ne_of_lt (Nat.lt_of_lt_of_le E_b612.lt P620_1)
   have g_t2_622 : n0 ≤ t2_622 := Nat.le_trans (own_osz O) P620_1
   have sz_t2_622 : h0.size ≤ t2_622 := Nat.le_trans K619.1 P620_1
   have E_b612 := E_b612.keep Kq620
   have V_b612 := V_b612.keep Kq620 nin0
   have O := O.keep Kq620 all0
   have K624 := K619.trans Kq620 all0
   have E_s_621 := P620_2
   have F_s_621_String_coder := P620_3
   have F_s_621_String_value := P620_4
   have V_t2_622 := P620_5
   show own_Fin p e below (T620.setTop (mkF m 51 #[.val (.int p0), .val (.int p1), .val (.int p2), .val (.int p3), .val (.int 3), .val (.ref b612), .unset, .unset, .unset, .unset, .unset, .unset, .unset, .unset] [(.ref s_621)])) _
   refine own_go (fun _ k => XS.astore X620.here hx rfl (hb hby at_51) rfl rfl (l' := #[.val (.int p0), .val (.int p1), .val (.int p2), .val (.int p3), .val (.int 3), .val (.ref b612), .val (.ref s_621), .unset, .unset, .unset, .unset, .unset, .unset, .unset]) rfl (XS.iloadN X620.here hx rfl (hb hby at_53) rfl (XS.sipush X620.here hx rfl (hb hby at_54) (XS.iand X620.here hx rfl (hb hby at_57) rfl (XS.istore X620.here hx rfl (hb hby at_58) rfl (l' := #[.val (.int p0), .val (.int p1), .val (.int p2), .val (.int p3), .val (.int 3), .val (.ref b612), .val (.ref s_621), .val (.int (p1 &&& (255 : Int32))), .unset, .unset, .unset, .unset, .unset, .unset]) rfl (XS.iloadN X620.here hx rfl (hb hby at_60) rfl (XS.sipush X620.here hx rfl (hb hby at_61) (XS.iand X620.here hx rfl (hb hby at_64) rfl (XS.istore X620.here hx rfl (hb hby at_65) rfl (l' := #[.val (.int p0), .val (.int p1), .val (.int p2), .val (.int p3), .val (.int 3), .val (.ref b612), .val (.ref s_621), .val (.int (p1 &&& (255 : Int32))), .val (.int (p2 &&& (255 : Int32))), .unset, .unset, .unset, .unset, .unset]) rfl (XS.iloadN X620.here hx rfl (hb hby at_67) rfl k)))))))))) ?_
   show own_Fin p e below (T620.setTop (mkF m 68 #[.val (.int p0), .val (.int p1), .val (.int p2), .val (.int p3), .val (.int 3), .val (.ref b612), .val (.ref s_621), .val (.int (p1 &&& (255 : Int32))), .val (.int (p2 &&& (255 : Int32))), .unset, .unset, .unset, .unset, .unset] [(.int p3)])) _
   refine own_go (fun _ k => XS.sipush X620.here hx rfl (hb hby at_68) (XS.iand X620.here hx rfl (hb hby at_71) rfl (XS.istore X620.here hx rfl (hb hby at_72) rfl (l' := #[.val (.int p0), .val (.int p1), .val (.int p2), .val (.int p3), .val (.int 3), .val (.ref b612), .val (.ref s_621), .val (.int (p1 &&& (255 : Int32))), .val (.int (p2 &&& (255 : Int32))), .val (.int (p3 &&& (255 : Int32))), .unset, .unset, .unset, .unset]) rfl (XS.iload X620.here hx rfl (hb hby at_74) rfl (XS.ifNo X620.here hx rfl (hb hby at_76) rfl ((if0 _ _).trans (tlt (by decide : (0 : Int32) < (3 : Int32))).2.2.2) (XS.iload X620.here hx rfl (hb hby at_79) rfl k)))))) ?_
   show own_Fin p e below (T620.setTop (mkF m 81 #[.val (.int p0), .val (.int p1), .val (.int p2), .val (.int p3), .val (.int 3), .val (.ref b612), .val (.ref s_621), .val (.int (p1 &&& (255 : Int32))), .val (.int (p2 &&& (255 : Int32))), .val (.int (p3 &&& (255 : Int32))), .unset, .unset, .unset, .unset] [(.int (p1 &&& (255 : Int32)))])) _
   obtain ⟨_, _, ⟨T625, L625, k625, n625⟩, -, X625, ⟨Lc625, hQ625, l625, y625, z625⟩, st625⟩ := Jvm.LawKit.callS X620 hx (y := (⟨"com/example/espalier/espalier/UrisEncodePinLaw", "width", "(I)I"⟩ : MethodName)) hown (mvT hZ (ow hw 142)) (mvT hZ (ow hw 143)) (mvT hZ (ow hw 144)) (mvT hZ (ow hw 145)) (by decide) (backOf (W := 0) (rm26 l Z a0 hw [] (p1 &&& (255 : Int32)) (T620.heap) n0 ) hZ (ow hw 145) (ow hw 144) (by decide) (by decide)) (g := (mkF m 81 #[.val (.int p0), .val (.int p1), .val (.int p2), .val (.int p3), .val (.int 3), .val (.ref b612), .val (.ref s_621), .val (.int (p1 &&& (255 : Int32))), .val (.int (p2 &&& (255 : Int32))), .val (.int (p3 &&& (255 : Int32))), .unset, .unset, .unset, .unset] [(.int (p1 &&& (255 : Int32)))])) rfl (by rw [hml]; rfl) (argsL := [(.int (p1 &&& (255 : Int32)))]) (rest := []) (lenOf pd_3 rfl) rfl (by show 2 * 0 + _ ≤ _; exact Nat.le_of_eq rfl) (hb hby at_81) (fun _ _ => ⟨rfl, rfl, (by decide : 14 + 0 ≤ _), (by decide : 185 + 0 ≤ _)⟩)
   dsimp only [Pt.U, Pt.locs, Pt.cells, Pt.slots] at X625 l625 y625 z625 st625 hQ625
   subst l625 y625 z625
   obtain ⟨rfl, N625q, e625⟩ := hQ625
   refine own_go (fun _ k => st625 _ k) ?_
   have N625 := Fr.app N620 N625q
   show own_Fin p e below (T625.setTop (mkF m 84 #[.val (.int p0), .val (.int p1), .val (.int p2), .val (.int p3), .val (.int 3), .val (.ref b612), .val (.ref s_621), .val (.int (p1 &&& (255 : Int32))), .val (.int (p2 &&& (255 : Int32))), .val (.int (p3 &&& (255 : Int32))), .unset, .unset, .unset, .unset] [(.int (own_wd (p1 &&& (255 : Int32))))])) _
   refine own_go (fun _ k => XS.goto X625.here hx rfl (pc0 := 84) (pc' := 88) rfl (hb hby at_84) (by decide) (by decide) (XS.istore X625.here hx rfl (hb hby at_88) rfl (l' := #[.val (.int p0), .val (.int p1), .val (.int p2), .val (.int p3), .val (.int 3), .val (.ref b612), .val (.ref s_621), .val (.int (p1 &&& (255 : Int32))), .val (.int (p2 &&& (255 : Int32))), .val (.int (p3 &&& (255 : Int32))), .val (.int (own_wd (p1 &&& (255 : Int32)))), .unset, .unset, .unset]) rfl (XS.iload X625.here hx rfl (hb hby at_90) rfl (XS.iconst X625.here hx rfl (hb hby at_92) (XS.icmpNo X625.here hx rfl (hb hby at_93) rfl (tlt (by decide : (1 : Int32) < (3 : Int32))).2.2.2 (XS.iload X625.here hx rfl (hb hby at_96) rfl k)))))) ?_
   show own_Fin p e below (T625.setTop (mkF m 98 #[.val (.int p0), .val (.int p1), .val (.int p2), .val (.int p3), .val (.int 3), .val (.ref b612), .val (.ref s_621), .val (.int (p1 &&& (255 : Int32))), .val (.int (p2 &&& (255 : Int32))), .val (.int (p3 &&& (255 : Int32))), .val (.int (own_wd (p1 &&& (255 : Int32)))), .unset, .unset, .unset] [(.int (p2 &&& (255 : Int32)))])) _
   obtain ⟨_, _, ⟨T626, L626, k626, n626⟩, -, X626, ⟨Lc626, hQ626, l626, y626, z626⟩, st626⟩ := Jvm.LawKit.callS X625 hx (y := (⟨"com/example/espalier/espalier/UrisEncodePinLaw", "width", "(I)I"⟩ : MethodName)) hown (mvT hZ (ow hw 142)) (mvT hZ (ow hw 143)) (mvT hZ (ow hw 144)) (mvT hZ (ow hw 145)) (by decide) (backOf (W := 0) (rm26 l Z a0 hw [] (p2 &&& (255 : Int32)) (T620.heap) n0 ) hZ (ow hw 145) (ow hw 144) (by decide) (by decide)) (g := (mkF m 98 #[.val (.int p0), .val (.int p1), .val (.int p2), .val (.int p3), .val (.int 3), .val (.ref b612), .val (.ref s_621), .val (.int (p1 &&& (255 : Int32))), .val (.int (p2 &&& (255 : Int32))), .val (.int (p3 &&& (255 : Int32))), .val (.int (own_wd (p1 &&& (255 : Int32)))), .unset, .unset, .unset] [(.int (p2 &&& (255 : Int32)))])) rfl (by rw [hml]; rfl) (argsL := [(.int (p2 &&& (255 : Int32)))]) (rest := []) (lenOf pd_3 rfl) rfl (by show 2 * 0 + _ ≤ _; exact Nat.le_of_eq rfl) (hb hby at_98) (fun _ _ => ⟨rfl, e625, (by decide : 14 + 0 ≤ _), (by decide : 185 + 0 ≤ _)⟩)
   dsimp only [Pt.U, Pt.locs, Pt.cells, Pt.slots] at X626 l626 y626 z626 st626 hQ626
   subst l626 y626 z626
   obtain ⟨rfl, N626q, e626⟩ := hQ626
   refine own_go (fun _ k => st626 _ k) ?_
   have N626 := Fr.app N625 N626q
   show own_Fin p e below (T626.setTop (mkF m 101 #[.val (.int p0), .val (.int p1), .val (.int p2), .val (.int p3), .val (.int 3), .val (.ref b612), .val (.ref s_621), .val (.int (p1 &&& (255 : Int32))), .val (.int (p2 &&& (255 : Int32))), .val (.int (p3 &&& (255 : Int32))), .val (.int (own_wd (p1 &&& (255 : Int32)))), .unset, .unset, .unset] [(.int (own_wd (p2 &&& (255 : Int32))))])) _
   refine own_go (fun _ k => XS.goto X626.here hx rfl (pc0 := 101) (pc' := 105) rfl (hb hby at_101) (by decide) (by decide) (XS.istore X626.here hx rfl (hb hby at_105) rfl (l' := #[.val (.int p0), .val (.int p1), .val (.int p2), .val (.int p3), .val (.int 3), .val (.ref b612), .val (.ref s_621), .val (.int (p1 &&& (255 : Int32))), .val (.int (p2 &&& (255 : Int32))), .val (.int (p3 &&& (255 : Int32))), .val (.int (own_wd (p1 &&& (255 : Int32)))), .val (.int (own_wd (p2 &&& (255 : Int32)))), .unset, .unset]) rfl (XS.iload X626.here hx rfl (hb hby at_107) rfl (XS.iconst X626.here hx rfl (hb hby at_109) (XS.icmpNo X626.here hx rfl (hb hby at_110) rfl (tlt (by decide : (2 : Int32) < (3 : Int32))).2.2.2 (XS.iload X626.here hx rfl (hb hby at_113) rfl k)))))) ?_
   show own_Fin p e below (T626.setTop (mkF m 115 #[.val (.int p0), .val (.int p1), .val (.int p2), .val (.int p3), .val (.int 3), .val (.ref b612), .val (.ref s_621), .val (.int (p1 &&& (255 : Int32))), .val (.int (p2 &&& (255 : Int32))), .val (.int (p3 &&& (255 : Int32))), .val (.int (own_wd (p1 &&& (255 : Int32)))), .val (.int (own_wd (p2 &&& (255 : Int32)))), .unset, .unset] [(.int (p3 &&& (255 : Int32)))])) _
   obtain ⟨_, _, ⟨T627, L627, k627, n627⟩, -, X627, ⟨Lc627, hQ627, l627, y627, z627⟩, st627⟩ := Jvm.LawKit.callS X626 hx (y := (⟨"com/example/espalier/espalier/UrisEncodePinLaw", "width", "(I)I"⟩ : MethodName)) hown (mvT hZ (ow hw 142)) (mvT hZ (ow hw 143)) (mvT hZ (ow hw 144)) (mvT hZ (ow hw 145)) (by decide) (backOf (W := 0) (rm26 l Z a0 hw [] (p3 &&& (255 : Int32)) (T620.heap) n0 ) hZ (ow hw 145) (ow hw 144) (by decide) (by decide)) (g := (mkF m 115 #[.val (.int p0), .val (.int p1), .val (.int p2), .val (.int p3), .val (.int 3), .val (.ref b612), .val (.ref s_621), .val (.int (p1 &&& (255 : Int32))), .val (.int (p2 &&& (255 : Int32))), .val (.int (p3 &&& (255 : Int32))), .val (.int (own_wd (p1 &&& (255 : Int32)))), .val (.int (own_wd (p2 &&& (255 : Int32)))), .unset, .unset] [(.int (p3 &&& (255 : Int32)))])) rfl (by rw [hml]; rfl) (argsL := [(.int (p3 &&& (255 : Int32)))]) (rest := []) (lenOf pd_3 rfl) rfl (by show 2 * 0 + _ ≤ _; exact Nat.le_of_eq rfl) (hb hby at_115) (fun _ _ => ⟨rfl, e626, (by decide : 14 + 0 ≤ _), (by decide : 185 + 0 ≤ _)⟩)
   dsimp only [Pt.U, Pt.locs, Pt.cells, Pt.slots] at X627 l627 y627 z627 st627 hQ627
   subst l627 y627 z627
   obtain ⟨rfl, N627q, e627⟩ := hQ627
   refine own_go (fun _ k => st627 _ k) ?_
   have N627 := Fr.app N626 N627q
   show own_Fin p e below (T627.setTop (mkF m 118 #[.val (.int p0), .val (.int p1), .val (.int p2), .val (.int p3), .val (.int 3), .val (.ref b612), .val (.ref s_621), .val (.int (p1 &&& (255 : Int32))), .val (.int (p2 &&& (255 : Int32))), .val (.int (p3 &&& (255 : Int32))), .val (.int (own_wd (p1 &&& (255 : Int32)))), .val (.int (own_wd (p2 &&& (255 : Int32)))), .unset, .unset] [(.int (own_wd (p3 &&& (255 : Int32))))])) _
   refine own_go (fun _ k => XS.goto X627.here hx rfl (pc0 := 118) (pc' := 122) rfl (hb hby at_118) (by decide) (by decide) (XS.istore X627.here hx rfl (hb hby at_122) rfl (l' := #[.val (.int p0), .val (.int p1), .val (.int p2), .val (.int p3), .val (.int 3), .val (.ref b612), .val (.ref s_621), .val (.int (p1 &&& (255 : Int32))), .val (.int (p2 &&& (255 : Int32))), .val (.int (p3 &&& (255 : Int32))), .val (.int (own_wd (p1 &&& (255 : Int32)))), .val (.int (own_wd (p2 &&& (255 : Int32)))), .val (.int (own_wd (p3 &&& (255 : Int32)))), .unset]) rfl (XS.aload X627.here hx rfl (hb hby at_124) rfl rfl k))) ?_
   show own_Fin p e below (T627.setTop (mkF m 126 #[.val (.int p0), .val (.int p1), .val (.int p2), .val (.int p3), .val (.int 3), .val (.ref b612), .val (.ref s_621), .val (.int (p1 &&& (255 : Int32))), .val (.int (p2 &&& (255 : Int32))), .val (.int (p3 &&& (255 : Int32))), .val (.int (own_wd (p1 &&& (255 : Int32)))), .val (.int (own_wd (p2 &&& (255 : Int32)))), .val (.int (own_wd (p3 &&& (255 : Int32)))), .unset] [(.ref s_621)])) _
   obtain ⟨cq628, kq628, q628a, q628b, q628c⟩ := isOf hZ e627 E_s_621
   obtain ⟨_, _, ⟨T628, L628, k628, n628⟩, -, X628, ⟨Lc628, hQ628, l628, y628, z628⟩, st628⟩ := X627.virtualBack hx (y := (⟨"java/lang/String", "length", "()I"⟩ : MethodName)) (z := (⟨"java/lang/String", "length", "()I"⟩ : MethodName)) hown (mvT hZ (ow hw 79)) (mvT hZ (ow hw 80)) (notFace_of_selects (args := #[]) (mvT hZ (ow hw 82))) (mvT hZ (ow hw 82)) (mvT hZ (ow hw 81)) (by decide) (backOf (W := 0) (slen l Z a0 hw [] s_621 z t2_622 k2_623 (Int32.ofNat (own_enc (nar .byte (p1.toInt8.toInt32)) ++ own_enc (nar .byte (p2.toInt8.toInt32)) ++ own_enc (nar .byte (p3.toInt8.toInt32))).length) (own_enc (nar .byte (p1.toInt8.toInt32)) ++ own_enc (nar .byte (p2.toInt8.toInt32)) ++ own_enc (nar .byte (p3.toInt8.toInt32))) (T620.heap) n0 O S_String_COMPACT_STRINGS hz E_s_621 F_s_621_String_coder F_s_621_String_value V_t2_622) hZ (ow hw 83) (ow hw 21) (by decide) (by decide)) q628a q628c (g := (mkF m 126 #[.val (.int p0), .val (.int p1), .val (.int p2), .val (.int p3), .val (.int 3), .val (.ref b612), .val (.ref s_621), .val (.int (p1 &&& (255 : Int32))), .val (.int (p2 &&& (255 : Int32))), .val (.int (p3 &&& (255 : Int32))), .val (.int (own_wd (p1 &&& (255 : Int32)))), .val (.int (own_wd (p2 &&& (255 : Int32)))), .val (.int (own_wd (p3 &&& (255 : Int32)))), .unset] [(.ref s_621)])) rfl (by rw [hml]; rfl) (Steps.refl _) (argsL := []) (rest := []) (lenOf pd_8 rfl) rfl (by show 2 * 0 + _ ≤ _; exact Nat.le_of_eq rfl) (hb hby at_126) (fun _ _ => ⟨rfl, e627, (by decide : 14 + 0 ≤ _), (by decide : 185 + 0 ≤ _)⟩)
   dsimp only [Pt.U, Pt.locs, Pt.cells, Pt.slots] at X628 l628 y628 z628 st628 hQ628
   subst l628 y628 z628
   obtain ⟨rfl, N628q, e628⟩ := hQ628
   refine own_go (fun _ k => st628.trans k) ?_
   have N628 := Fr.app N627 N628q
   show own_Fin p e below (T628.setTop (mkF m 129 #[.val (.int p0), .val (.int p1), .val (.int p2), .val (.int p3), .val (.int 3), .val (.ref b612), .val (.ref s_621), .val (.int (p1 &&& (255 : Int32))), .val (.int (p2 &&& (255 : Int32))), .val (.int (p3 &&& (255 : Int32))), .val (.int (own_wd (p1 &&& (255 : Int32)))), .val (.int (own_wd (p2 &&& (255 : Int32)))), .val (.int (own_wd (p3 &&& (255 : Int32)))), .unset] [(.int ((Int32.ofNat (own_enc (nar .byte (p1.toInt8.toInt32)) ++ own_enc (nar .byte (p2.toInt8.toInt32)) ++ own_enc (nar .byte (p3.toInt8.toInt32))).length) >>> ((0 : Int32) &&& 31)))])) _
   refine own_go (fun _ k => XS.iload X628.here hx rfl (hb hby at_129) rfl (XS.iload X628.here hx rfl (hb hby at_131) rfl (XS.iadd X628.here hx rfl (hb hby at_133) rfl (XS.iload X628.here hx rfl (hb hby at_134) rfl (XS.iadd X628.here hx rfl (hb hby at_136) rfl (XS.icmpYes X628.here hx rfl (pc0 := 137) (pc' := 142) rfl (hb hby at_137) rfl (teq (by rw [own_sh0, own_len3] : ((Int32.ofNat (own_enc (nar .byte (p1.toInt8.toInt32)) ++ own_enc (nar .byte (p2.toInt8.toInt32)) ++ own_enc (nar .byte (p3.toInt8.toInt32))).length) >>> ((0 : Int32) &&& 31)) = (((own_wd (p1 &&& (255 : Int32))) + (own_wd (p2 &&& (255 : Int32)))) + (own_wd (p3 &&& (255 : Int32)))))).1 (by decide) (by decide) (XS.iconst X628.here hx rfl (hb hby at_142) (XS.istore X628.here hx rfl (hb hby at_143) rfl (l' := #[.val (.int p0), .val (.int p1), .val (.int p2), .val (.int p3), .val (.int 3), .val (.ref b612), .val (.ref s_621), .val (.int (p1 &&& (255 : Int32))), .val (.int (p2 &&& (255 : Int32))), .val (.int (p3 &&& (255 : Int32))), .val (.int (own_wd (p1 &&& (255 : Int32)))), .val (.int (own_wd (p2 &&& (255 : Int32)))), .val (.int (own_wd (p3 &&& (255 : Int32)))), .val (.int 1)]) rfl (XS.iload X628.here hx rfl (hb hby at_145) rfl (XS.ifNo X628.here hx rfl (hb hby at_147) rfl ((if0 _ _).trans (tlt (by decide : (0 : Int32) < (3 : Int32))).2.2.2) k)))))))))) ?_
   show own_Fin p e below (T628.setTop (mkF m 150 #[.val (.int p0), .val (.int p1), .val (.int p2), .val (.int p3), .val (.int 3), .val (.ref b612), .val (.ref s_621), .val (.int (p1 &&& (255 : Int32))), .val (.int (p2 &&& (255 : Int32))), .val (.int (p3 &&& (255 : Int32))), .val (.int (own_wd (p1 &&& (255 : Int32)))), .val (.int (own_wd (p2 &&& (255 : Int32)))), .val (.int (own_wd (p3 &&& (255 : Int32)))), .val (.int 1)] [])) _
   refine own_go (fun _ k => XS.iload X628.here hx rfl (hb hby at_150) rfl (XS.ifNo X628.here hx rfl (hb hby at_152) rfl ((if0 _ _).trans (feq (by decide : ¬ ((1 : Int32) = (0 : Int32)))).1) (XS.aload X628.here hx rfl (hb hby at_155) rfl rfl (XS.iconst X628.here hx rfl (hb hby at_157) (XS.iload X628.here hx rfl (hb hby at_158) rfl k))))) ?_
   show own_Fin p e below (T628.setTop (mkF m 160 #[.val (.int p0), .val (.int p1), .val (.int p2), .val (.int p3), .val (.int 3), .val (.ref b612), .val (.ref s_621), .val (.int (p1 &&& (255 : Int32))), .val (.int (p2 &&& (255 : Int32))), .val (.int (p3 &&& (255 : Int32))), .val (.int (own_wd (p1 &&& (255 : Int32)))), .val (.int (own_wd (p2 &&& (255 : Int32)))), .val (.int (own_wd (p3 &&& (255 : Int32)))), .val (.int 1)] [(.int (p1 &&& (255 : Int32))), (.int 0), (.ref s_621)])) _
   obtain ⟨_, _, ⟨T629, L629, k629, n629⟩, -, X629, ⟨Lc629, hQ629, l629, y629, z629⟩, st629⟩ := Jvm.LawKit.callS X628 hx (y := (⟨"com/example/espalier/espalier/UrisEncodePinLaw", "at", "(Ljava/lang/String;II)Z"⟩ : MethodName)) hown (mvT hZ (ow hw 149)) (mvT hZ (ow hw 150)) (mvT hZ (ow hw 144)) (mvT hZ (ow hw 151)) (by decide) (backOf (W := 0) (atb l Z a0 hw [] s_621 (0 : Int32) (p1 &&& (255 : Int32)) z t2_622 k2_623 (Int32.ofNat (own_enc (nar .byte (p1.toInt8.toInt32)) ++ own_enc (nar .byte (p2.toInt8.toInt32)) ++ own_enc (nar .byte (p3.toInt8.toInt32))).length) (own_enc (nar .byte (p1.toInt8.toInt32)) ++ own_enc (nar .byte (p2.toInt8.toInt32)) ++ own_enc (nar .byte (p3.toInt8.toInt32))) fm (T620.heap) n0 O S_String_COMPACT_STRINGS hz E_s_621 F_s_621_String_coder F_s_621_String_value V_t2_622 S_Preconditions_SIOOBE_FORMATTER hfm (own_A30 _ _ _)) hZ (ow hw 151) (ow hw 144) (by decide) (by decide)) (g := (mkF m 160 #[.val (.int p0), .val (.int p1), .val (.int p2), .val (.int p3), .val (.int 3), .val (.ref b612), .val (.ref s_621), .val (.int (p1 &&& (255 : Int32))), .val (.int (p2 &&& (255 : Int32))), .val (.int (p3 &&& (255 : Int32))), .val (.int (own_wd (p1 &&& (255 : Int32)))), .val (.int (own_wd (p2 &&& (255 : Int32)))), .val (.int (own_wd (p3 &&& (255 : Int32)))), .val (.int 1)] [(.int (p1 &&& (255 : Int32))), (.int 0), (.ref s_621)])) rfl (by rw [hml]; rfl) (argsL := [(.ref s_621), (.int 0), (.int (p1 &&& (255 : Int32)))]) (rest := []) (lenOf pd_22 rfl) rfl (by show 2 * 0 + _ ≤ _; exact Nat.le_of_eq rfl) (hb hby at_160) (fun _ _ => ⟨rfl, e628, (by decide : 14 + 0 ≤ _), (by decide : 185 + 0 ≤ _)⟩)
   dsimp only [Pt.U, Pt.locs, Pt.cells, Pt.slots] at X629 l629 y629 z629 st629 hQ629
   subst l629 y629 z629
   obtain ⟨rfl, N629q, e629⟩ := hQ629
   refine own_go (fun _ k => st629 _ k) ?_
   have N629 := Fr.app N628 N629q
   show own_Fin p e below (T629.setTop (mkF m 163 #[.val (.int p0), .val (.int p1), .val (.int p2), .val (.int p3), .val (.int 3), .val (.ref b612), .val (.ref s_621), .val (.int (p1 &&& (255 : Int32))), .val (.int (p2 &&& (255 : Int32))), .val (.int (p3 &&& (255 : Int32))), .val (.int (own_wd (p1 &&& (255 : Int32)))), .val (.int (own_wd (p2 &&& (255 : Int32)))), .val (.int (own_wd (p3 &&& (255 : Int32)))), .val (.int 1)] [(.int 1)])) _
   refine own_go (fun _ k => XS.ifNo X629.here hx rfl (hb hby at_163) rfl ((if0 _ _).trans (feq (by decide : ¬ ((1 : Int32) = (0 : Int32)))).1) (XS.iconst X629.here hx rfl (hb hby at_166) (XS.goto X629.here hx rfl (pc0 := 167) (pc' := 171) rfl (hb hby at_167) (by decide) (by decide) (XS.istore X629.here hx rfl (hb hby at_171) rfl (l' := #[.val (.int p0), .val (.int p1), .val (.int p2), .val (.int p3), .val (.int 3), .val (.ref b612), .val (.ref s_621), .val (.int (p1 &&& (255 : Int32))), .val (.int (p2 &&& (255 : Int32))), .val (.int (p3 &&& (255 : Int32))), .val (.int (own_wd (p1 &&& (255 : Int32)))), .val (.int (own_wd (p2 &&& (255 : Int32)))), .val (.int (own_wd (p3 &&& (255 : Int32)))), .val (.int 1)]) rfl (XS.iload X629.here hx rfl (hb hby at_173) rfl (XS.iconst X629.here hx rfl (hb hby at_175) (XS.icmpNo X629.here hx rfl (hb hby at_176) rfl (tlt (by decide : (1 : Int32) < (3 : Int32))).2.2.2 (XS.iload X629.here hx rfl (hb hby at_179) rfl (XS.ifNo X629.here hx rfl (hb hby at_181) rfl ((if0 _ _).trans (feq (by decide : ¬ ((1 : Int32) = (0 : Int32)))).1) (XS.aload X629.here hx rfl (hb hby at_184) rfl rfl k)))))))))) ?_
   show own_Fin p e below (T629.setTop (mkF m 186 #[.val (.int p0), .val (.int p1), .val (.int p2), .val (.int p3), .val (.int 3), .val (.ref b612), .val (.ref s_621), .val (.int (p1 &&& (255 : Int32))), .val (.int (p2 &&& (255 : Int32))), .val (.int (p3 &&& (255 : Int32))), .val (.int (own_wd (p1 &&& (255 : Int32)))), .val (.int (own_wd (p2 &&& (255 : Int32)))), .val (.int (own_wd (p3 &&& (255 : Int32)))), .val (.int 1)] [(.ref s_621)])) _
   refine own_go (fun _ k => XS.iload X629.here hx rfl (hb hby at_186) rfl (XS.iload X629.here hx rfl (hb hby at_188) rfl k)) ?_
   show own_Fin p e below (T629.setTop (mkF m 190 #[.val (.int p0), .val (.int p1), .val (.int p2), .val (.int p3), .val (.int 3), .val (.ref b612), .val (.ref s_621), .val (.int (p1 &&& (255 : Int32))), .val (.int (p2 &&& (255 : Int32))), .val (.int (p3 &&& (255 : Int32))), .val (.int (own_wd (p1 &&& (255 : Int32)))), .val (.int (own_wd (p2 &&& (255 : Int32)))), .val (.int (own_wd (p3 &&& (255 : Int32)))), .val (.int 1)] [(.int (p2 &&& (255 : Int32))), (.int (own_wd (p1 &&& (255 : Int32)))), (.ref s_621)])) _
   obtain ⟨_, _, ⟨T630, L630, k630, n630⟩, -, X630, ⟨Lc630, hQ630, l630, y630, z630⟩, st630⟩ := Jvm.LawKit.callS X629 hx (y := (⟨"com/example/espalier/espalier/UrisEncodePinLaw", "at", "(Ljava/lang/String;II)Z"⟩ : MethodName)) hown (mvT hZ (ow hw 149)) (mvT hZ (ow hw 150)) (mvT hZ (ow hw 144)) (mvT hZ (ow hw 151)) (by decide) (backOf (W := 0) (atb l Z a0 hw [] s_621 (own_wd (p1 &&& (255 : Int32))) (p2 &&& (255 : Int32)) z t2_622 k2_623 (Int32.ofNat (own_enc (nar .byte (p1.toInt8.toInt32)) ++ own_enc (nar .byte (p2.toInt8.toInt32)) ++ own_enc (nar .byte (p3.toInt8.toInt32))).length) (own_enc (nar .byte (p1.toInt8.toInt32)) ++ own_enc (nar .byte (p2.toInt8.toInt32)) ++ own_enc (nar .byte (p3.toInt8.toInt32))) fm (T620.heap) n0 O S_String_COMPACT_STRINGS hz E_s_621 F_s_621_String_coder F_s_621_String_value V_t2_622 S_Preconditions_SIOOBE_FORMATTER hfm (own_A31 _ _ _)) hZ (ow hw 151) (ow hw 144) (by decide) (by decide)) (g := (mkF m 190 #[.val (.int p0), .val (.int p1), .val (.int p2), .val (.int p3), .val (.int 3), .val (.ref b612), .val (.ref s_621), .val (.int (p1 &&& (255 : Int32))), .val (.int (p2 &&& (255 : Int32))), .val (.int (p3 &&& (255 : Int32))), .val (.int (own_wd (p1 &&& (255 : Int32)))), .val (.int (own_wd (p2 &&& (255 : Int32)))), .val (.int (own_wd (p3 &&& (255 : Int32)))), .val (.int 1)] [(.int (p2 &&& (255 : Int32))), (.int (own_wd (p1 &&& (255 : Int32)))), (.ref s_621)])) rfl (by rw [hml]; rfl) (argsL := [(.ref s_621), (.int (own_wd (p1 &&& (255 : Int32)))), (.int (p2 &&& (255 : Int32)))]) (rest := []) (lenOf pd_22 rfl) rfl (by show 2 * 0 + _ ≤ _; exact Nat.le_of_eq rfl) (hb hby at_190) (fun _ _ => ⟨rfl, e629, (by decide : 14 + 0 ≤ _), (by decide : 185 + 0 ≤ _)⟩)
   dsimp only [Pt.U, Pt.locs, Pt.cells, Pt.slots] at X630 l630 y630 z630 st630 hQ630
   subst l630 y630 z630
   obtain ⟨rfl, N630q, e630⟩ := hQ630
   refine own_go (fun _ k => st630 _ k) ?_
   have N630 := Fr.app N629 N630q
   show own_Fin p e below (T630.setTop (mkF m 193 #[.val (.int p0), .val (.int p1), .val (.int p2), .val (.int p3), .val (.int 3), .val (.ref b612), .val (.ref s_621), .val (.int (p1 &&& (255 : Int32))), .val (.int (p2 &&& (255 : Int32))), .val (.int (p3 &&& (255 : Int32))), .val (.int (own_wd (p1 &&& (255 : Int32)))), .val (.int (own_wd (p2 &&& (255 : Int32)))), .val (.int (own_wd (p3 &&& (255 : Int32)))), .val (.int 1)] [(.int 1)])) _
   refine own_go (fun _ k => XS.ifNo X630.here hx rfl (hb hby at_193) rfl ((if0 _ _).trans (feq (by decide : ¬ ((1 : Int32) = (0 : Int32)))).1) (XS.iconst X630.here hx rfl (hb hby at_196) (XS.goto X630.here hx rfl (pc0 := 197) (pc' := 201) rfl (hb hby at_197) (by decide) (by decide) (XS.istore X630.here hx rfl (hb hby at_201) rfl (l' := #[.val (.int p0), .val (.int p1), .val (.int p2), .val (.int p3), .val (.int 3), .val (.ref b612), .val (.ref s_621), .val (.int (p1 &&& (255 : Int32))), .val (.int (p2 &&& (255 : Int32))), .val (.int (p3 &&& (255 : Int32))), .val (.int (own_wd (p1 &&& (255 : Int32)))), .val (.int (own_wd (p2 &&& (255 : Int32)))), .val (.int (own_wd (p3 &&& (255 : Int32)))), .val (.int 1)]) rfl (XS.iload X630.here hx rfl (hb hby at_203) rfl (XS.iconst X630.here hx rfl (hb hby at_205) (XS.icmpNo X630.here hx rfl (hb hby at_206) rfl (tlt (by decide : (2 : Int32) < (3 : Int32))).2.2.2 (XS.iload X630.here hx rfl (hb hby at_209) rfl (XS.ifNo X630.here hx rfl (hb hby at_211) rfl ((if0 _ _).trans (feq (by decide : ¬ ((1 : Int32) = (0 : Int32)))).1) (XS.aload X630.here hx rfl (hb hby at_214) rfl rfl k)))))))))) ?_
   show own_Fin p e below (T630.setTop (mkF m 216 #[.val (.int p0), .val (.int p1), .val (.int p2), .val (.int p3), .val (.int 3), .val (.ref b612), .val (.ref s_621), .val (.int (p1 &&& (255 : Int32))), .val (.int (p2 &&& (255 : Int32))), .val (.int (p3 &&& (255 : Int32))), .val (.int (own_wd (p1 &&& (255 : Int32)))), .val (.int (own_wd (p2 &&& (255 : Int32)))), .val (.int (own_wd (p3 &&& (255 : Int32)))), .val (.int 1)] [(.ref s_621)])) _
   refine own_go (fun _ k => XS.iload X630.here hx rfl (hb hby at_216) rfl (XS.iload X630.here hx rfl (hb hby at_218) rfl (XS.iadd X630.here hx rfl (hb hby at_220) rfl (XS.iload X630.here hx rfl (hb hby at_221) rfl k)))) ?_
   show own_Fin p e below (T630.setTop (mkF m 223 #[.val (.int p0), .val (.int p1), .val (.int p2), .val (.int p3), .val (.int 3), .val (.ref b612), .val (.ref s_621), .val (.int (p1 &&& (255 : Int32))), .val (.int (p2 &&& (255 : Int32))), .val (.int (p3 &&& (255 : Int32))), .val (.int (own_wd (p1 &&& (255 : Int32)))), .val (.int (own_wd (p2 &&& (255 : Int32)))), .val (.int (own_wd (p3 &&& (255 : Int32)))), .val (.int 1)] [(.int (p3 &&& (255 : Int32))), (.int ((own_wd (p1 &&& (255 : Int32))) + (own_wd (p2 &&& (255 : Int32))))), (.ref s_621)])) _
   obtain ⟨_, _, ⟨T631, L631, k631, n631⟩, -, X631, ⟨Lc631, hQ631, l631, y631, z631⟩, st631⟩ := Jvm.LawKit.callS X630 hx (y := (⟨"com/example/espalier/espalier/UrisEncodePinLaw", "at", "(Ljava/lang/String;II)Z"⟩ : MethodName)) hown (mvT hZ (ow hw 149)) (mvT hZ (ow hw 150)) (mvT hZ (ow hw 144)) (mvT hZ (ow hw 151)) (by decide) (backOf (W := 0) (atb l Z a0 hw [] s_621 ((own_wd (p1 &&& (255 : Int32))) + (own_wd (p2 &&& (255 : Int32)))) (p3 &&& (255 : Int32)) z t2_622 k2_623 (Int32.ofNat (own_enc (nar .byte (p1.toInt8.toInt32)) ++ own_enc (nar .byte (p2.toInt8.toInt32)) ++ own_enc (nar .byte (p3.toInt8.toInt32))).length) (own_enc (nar .byte (p1.toInt8.toInt32)) ++ own_enc (nar .byte (p2.toInt8.toInt32)) ++ own_enc (nar .byte (p3.toInt8.toInt32))) fm (T620.heap) n0 O S_String_COMPACT_STRINGS hz E_s_621 F_s_621_String_coder F_s_621_String_value V_t2_622 S_Preconditions_SIOOBE_FORMATTER hfm (own_A32 _ _ _)) hZ (ow hw 151) (ow hw 144) (by decide) (by decide)) (g := (mkF m 223 #[.val (.int p0), .val (.int p1), .val (.int p2), .val (.int p3), .val (.int 3), .val (.ref b612), .val (.ref s_621), .val (.int (p1 &&& (255 : Int32))), .val (.int (p2 &&& (255 : Int32))), .val (.int (p3 &&& (255 : Int32))), .val (.int (own_wd (p1 &&& (255 : Int32)))), .val (.int (own_wd (p2 &&& (255 : Int32)))), .val (.int (own_wd (p3 &&& (255 : Int32)))), .val (.int 1)] [(.int (p3 &&& (255 : Int32))), (.int ((own_wd (p1 &&& (255 : Int32))) + (own_wd (p2 &&& (255 : Int32))))), (.ref s_621)])) rfl (by rw [hml]; rfl) (argsL := [(.ref s_621), (.int ((own_wd (p1 &&& (255 : Int32))) + (own_wd (p2 &&& (255 : Int32))))), (.int (p3 &&& (255 : Int32)))]) (rest := []) (lenOf pd_22 rfl) rfl (by show 2 * 0 + _ ≤ _; exact Nat.le_of_eq rfl) (hb hby at_223) (fun _ _ => ⟨rfl, e630, (by decide : 14 + 0 ≤ _), (by decide : 185 + 0 ≤ _)⟩)
   dsimp only [Pt.U, Pt.locs, Pt.cells, Pt.slots] at X631 l631 y631 z631 st631 hQ631
   subst l631 y631 z631
   obtain ⟨rfl, N631q, e631⟩ := hQ631
   refine own_go (fun _ k => st631 _ k) ?_
   have N631 := Fr.app N630 N631q
   show own_Fin p e below (T631.setTop (mkF m 226 #[.val (.int p0), .val (.int p1), .val (.int p2), .val (.int p3), .val (.int 3), .val (.ref b612), .val (.ref s_621), .val (.int (p1 &&& (255 : Int32))), .val (.int (p2 &&& (255 : Int32))), .val (.int (p3 &&& (255 : Int32))), .val (.int (own_wd (p1 &&& (255 : Int32)))), .val (.int (own_wd (p2 &&& (255 : Int32)))), .val (.int (own_wd (p3 &&& (255 : Int32)))), .val (.int 1)] [(.int 1)])) _
   refine own_go (fun _ k => XS.ifNo X631.here hx rfl (hb hby at_226) rfl ((if0 _ _).trans (feq (by decide : ¬ ((1 : Int32) = (0 : Int32)))).1) (XS.iconst X631.here hx rfl (hb hby at_229) (XS.goto X631.here hx rfl (pc0 := 230) (pc' := 234) rfl (hb hby at_230) (by decide) (by decide) (XS.istore X631.here hx rfl (hb hby at_234) rfl (l' := #[.val (.int p0), .val (.int p1), .val (.int p2), .val (.int p3), .val (.int 3), .val (.ref b612), .val (.ref s_621), .val (.int (p1 &&& (255 : Int32))), .val (.int (p2 &&& (255 : Int32))), .val (.int (p3 &&& (255 : Int32))), .val (.int (own_wd (p1 &&& (255 : Int32)))), .val (.int (own_wd (p2 &&& (255 : Int32)))), .val (.int (own_wd (p3 &&& (255 : Int32)))), .val (.int 1)]) rfl (XS.iload X631.here hx rfl (hb hby at_236) rfl k))))) ?_
   show own_Fin p e below (T631.setTop (mkF m 238 #[.val (.int p0), .val (.int p1), .val (.int p2), .val (.int p3), .val (.int 3), .val (.ref b612), .val (.ref s_621), .val (.int (p1 &&& (255 : Int32))), .val (.int (p2 &&& (255 : Int32))), .val (.int (p3 &&& (255 : Int32))), .val (.int (own_wd (p1 &&& (255 : Int32)))), .val (.int (own_wd (p2 &&& (255 : Int32)))), .val (.int (own_wd (p3 &&& (255 : Int32)))), .val (.int 1)] [(.int 1)])) _
   obtain ⟨fs, hr, hrun, hended, hW, hsame⟩ := X631.leave (v := some (.int 1)) (fun h => by rw [Bd.returns] at h; cases h)
   refine ⟨_, _, ?_, hrun, hended, _, _, rfl, ?_, ⟨_, rfl⟩, hW, hsame.mono (by decide) (by decide)⟩
   ·exact retN X631 hx (t := .boolean) Bd.returns (by simp) (hb hby at_238) hr
   ·show Qrm0 Z p0 p1 p2 p3 z fm hxa kh h0 n0 _ T631.heap _
    rw [e631]
    exact ⟨rfl, N631, K624⟩
theorem own_lenlt {args : Array Value} {s : State} {t : Term} {x : Addr} {cl : Cell} {n : Int32} (h : (Term.length t).eval args s none [] s = some (.int n)) (ht : t.eval args s none [] s = some (.ref x)) (ha : s.arrayAt? x = some cl) : cl.slots.size < 2 ^ 31 := by
  by_cases q : cl.slots.size < 2 ^ 31
  · exact q
  · simp [Term.eval, ht, ha, q] at h
theorem own_lenv {args : Array Value} {s : State} {t : Term} {x : Addr} {cl : Cell} {n : Int32} (h : (Term.length t).eval args s none [] s = some (.int n)) (ht : t.eval args s none [] s = some (.ref x)) (ha : s.arrayAt? x = some cl) (hl : cl.slots.size < 2 ^ 31) : cl.slots.size.toInt32 = n := by
  have := len_f (o := none) (idx := []) (first := s) ht ha hl
  rw [this] at h; cases h; rfl
theorem own_hexat {args : Array Value} {s : State} {C n d : String} {x : Addr} {cl : Cell} (hf : Fit s) (ev : (Term.static C n d).eval args s none [] s = some (.ref x)) (A : Arr s s.heap x cl .char) (hsz : cl.slots.size = 16)
    (h1 : (Jvm.Cond.all (.static C n d) (.or (.le (.int 10) (.index 0)) (.eq (.op1 .i2l (.elem (.static C n d) (.index 0))) (.op2 .ladd (.op1 .i2l (.index 0)) (.long 48))))).value args s none s [] = some true)
    (h2 : (Jvm.Cond.all (.static C n d) (.or (.lt (.index 0) (.int 10)) (.eq (.op1 .i2l (.elem (.static C n d) (.index 0))) (.op2 .ladd (.op1 .i2l (.index 0)) (.long 55))))).value args s none s [] = some true) (k : Nat) (hk : k < 16) :
    cl.slots[k]? = some (.int (Int32.ofNat (if k < 10 then k + 48 else k + 55))) := by
  have hA : s.arrayAt? x = some cl := Arr.fin (Vm.Alike.refl _) A
  have g1 := Cond.all_elim ev hA h1 k (by omega)
  have g2 := Cond.all_elim ev hA h2 k (by omega)
  have hki : (k.toInt32).toInt = k := Int32.toInt_ofNat_of_lt (by omega)
  have hk0 : ¬ (k.toInt32 < 0) := own_nn (by omega)
  have hcl : (k.toInt32).toNatClampNeg = k := by
    have := own_cn (N := k.toInt32) (by omega)
    omega
  have hin : ¬ (k.toInt32 < 0 ∨ cl.slots.size ≤ (k.toInt32).toNatClampNeg) := by
    rw [hcl, hsz]
    rintro (q | q)
    · exact hk0 q
    · omega
  obtain ⟨v, hv, hfv⟩ := elem_fit hf A hin
  obtain ⟨c, rfl⟩ := fit_I hfv (by simp)
  rw [hcl] at hv
  have ei : (Term.index 0).eval args s none [k] s = some (.int k.toInt32) := Term.index_eval _
  have ee : (Term.elem (.static C n d) (.index 0)).eval args s none [k] s = some (.int c) := by
    rw [elem_f (x := x) (cl := cl) (show (Term.static C n d).eval args s none [k] s = some (.ref x) from ev) ei hA hk0, hcl]; exact hv
  have eL : (Term.op1 .i2l (.elem (.static C n d) (.index 0))).eval args s none [k] s = some (.long c.toInt64) := op1_f ee
  have eI : (Term.op1 .i2l (.index 0)).eval args s none [k] s = some (.long k.toInt32.toInt64) := op1_f ei
  have e48 : (Term.op2 .ladd (.op1 .i2l (.index 0)) (.long 48)).eval args s none [k] s = some (.long (k.toInt32.toInt64 + 48)) := op2_f eI (long_at _)
  have e55 : (Term.op2 .ladd (.op1 .i2l (.index 0)) (.long 55)).eval args s none [k] s = some (.long (k.toInt32.toInt64 + 55)) := op2_f eI (long_at _)
  have r1 := or_e2 (Cond.le_ints (Term.int_eval 10) ei) (eq_L eL e48) g1
  have r2 := or_e2 (Cond.lt_ints ei (Term.int_eval 10)) (eq_L eL e55) g2
  rw [hv]
  have e10 : (10 : Int32).toInt = 10 := by decide
  have q1 := c_i2l c
  have q2 := c_i2l k.toInt32
  have q3 := c_ladd k.toInt32.toInt64 48
  have q4 := c_ladd k.toInt32.toInt64 55
  have q5 := rng64 (k.toInt32.toInt64 + 48)
  have q6 := rng64 (k.toInt32.toInt64 + 55)
  have l48 : (48 : Int64).toInt = 48 := by decide
  have l55 : (55 : Int64).toInt = 55 := by decide
  congr 2
  rw [← Int32.toInt_inj]
  rw [Int32.toInt_ofNat_of_lt (by split <;> omega)]
  rw [Int32.le_iff_toInt_le, ← Int64.toInt_inj] at r1
  rw [Int32.lt_iff_toInt_lt, ← Int64.toInt_inj] at r2
  split <;> omega
set_option maxRecDepth 65536 in
set_option maxHeartbeats 40000000 in
theorem comes_1 {Post : Tables → Env → Array Value → State → Outcome → State → Prop} (hpost : ∀ tb e args s v u, (limb_1_1.after args s (.returned v) u = true ∧ limb_1_2.after args s (.returned v) u = true ∧ True) → FrameEnd s (.returned v) u (Jvm.fieldLocs frame_1_writes args s ++ Jvm.arrayLocs frame_1_arrays args s ++ Jvm.staticLocs frame_1_statics s) 24 192 → Post tb e args s (.returned v) u) :
    ArmFor flags0 classFile x code maxLocals ret World_1 tables_1 room_1 Calls_1 rest_1 Pre_1 Post := by
  intro l hfl _ _ p e ha hc hk s m args below hf hA hF happ hP
  obtain ⟨hcalls, hrest, hpre⟩ := hP
  obtain ⟨-, -, -, hnamed, -, -, -, hat⟩ := (Spec.applies_iff hf).mp happ
  obtain ⟨hg, hn⟩ := and_e (Cond.before_iff.mp (show (Jvm.Cond.and given_1 narrow_1).before args s = true from hpre))
  obtain ⟨g1, g2⟩ := and_e hg
  obtain ⟨g3, g4⟩ := and_e g2
  obtain ⟨g5, g6⟩ := and_e g4
  obtain ⟨g7, g8⟩ := and_e g6
  obtain ⟨w0, w1, w2, w3, rfl⟩ : ∃ w0 w1 w2 w3 : Value, args = #[w0, w1, w2, w3] := by
    have hs : args.size = 4 := by simpa [Cond.value, given_1] using g1
    obtain ⟨L⟩ := args
    match L, hs with
    | [w0, w1, w2, w3], _ => exact ⟨w0, w1, w2, w3, rfl⟩
  have hw := fun d (hd : d ∈ tables_1) => atoms_spec (ws := Jvm.Cond.code x code maxLocals ret :: tables_1) hat d (List.mem_cons_of_mem _ hd)
  have hfit : Fit s := fun {y c} hc i hi => by
    obtain ⟨ha, rfl⟩ := Array.getElem?_eq_some_iff.mp hc
    have q := List.all_eq_true.mp ((Array.all_eq_true_iff_forall_mem.mp hF) _ (Array.getElem_mem ha)) i (List.mem_range.mpr hi)
    simpa [Array.getElem?_eq_getElem hi] using q
  obtain ⟨hsets, hown0⟩ := atoms_of _ (rest_1_c_eq ▸ (show rest_1_c.before _ s = true from hrest))
  obtain ⟨i0, ei0⟩ := is_v g3
  obtain rfl : w0 = (.int i0) := Option.some.inj ei0
  obtain ⟨i1, ei1⟩ := is_v g5
  obtain rfl : w1 = (.int i1) := Option.some.inj ei1
  obtain ⟨i2, ei2⟩ := is_v g7
  obtain rfl : w2 = (.int i2) := Option.some.inj ei2
  obtain ⟨i3, ei3⟩ := is_v g8
  obtain rfl : w3 = (.int i3) := Option.some.inj ei3
  obtain ⟨m1, m2⟩ := and_e hn
  obtain ⟨m3, m4⟩ := and_e m2
  obtain ⟨m5, m6⟩ := and_e m4
  obtain ⟨st_COMPACT_STRINGS, ev_st_COMPACT_STRINGS⟩ := is_v (Cond.before_iff.mp (hsets _ (List.mem_of_getElem? (i := 1) rfl)))
  have S_st_COMPACT_STRINGS := Sta.start ev_st_COMPACT_STRINGS (Or.inl (hsets _ (List.mem_of_getElem? (i := 0) rfl)))
  have nz_st_COMPACT_STRINGS := own_nez ev_st_COMPACT_STRINGS (Cond.before_iff.mp (hsets _ (List.mem_of_getElem? (i := 2) rfl)))
  obtain ⟨st_SIOOBE_FORMATTER, ev_st_SIOOBE_FORMATTER, hr_st_SIOOBE_FORMATTER⟩ := isR_v (Cond.before_iff.mp (hsets _ (List.mem_of_getElem? (i := 8) rfl)))
  have S_st_SIOOBE_FORMATTER := Sta.start ev_st_SIOOBE_FORMATTER (Or.inl (hsets _ (List.mem_of_getElem? (i := 7) rfl)))
  obtain ⟨w1, wr1⟩ := and_e hn
  obtain ⟨w2, wr2⟩ := and_e wr1
  obtain ⟨w3, w4⟩ := and_e wr2
  obtain ⟨hx, evp⟩ := arr_v w1
  obtain ⟨cl, Ap⟩ := Arr.start evp w1
  have Sp := Sta.start evp (Or.inr ⟨(ow hw 3), (ow hw 110)⟩)
  have hlen := own_eqv w2 (Term.int_eval _) rfl
  have hAp : s.arrayAt? hx = some cl := Arr.fin (Vm.Alike.refl _) Ap
  have hlt : cl.slots.size < 2 ^ 31 := own_lenlt hlen evp hAp
  have hsz : cl.slots.size.toInt32 = 16 := own_lenv hlen evp hAp hlt
  have hsz16 : cl.slots.size = 16 := by
    have q1 := congrArg Int32.toInt hsz
    rw [len_toInt hlt] at q1
    have e : (16 : Int32).toInt = 16 := by decide
    omega
  have hat := own_hexat hfit evp Ap hsz16 w3 w4
  have Vp : Arv s s.heap hx cl.cls .char (16 : Int32) (own_hl.map Value.int) (.int 0) := Arv.start hfit Ap hlt hsz (by decide) (by decide) ⟨hat 0 (by decide), hat 1 (by decide), hat 2 (by decide), hat 3 (by decide), hat 4 (by decide), hat 5 (by decide), hat 6 (by decide), hat 7 (by decide), hat 8 (by decide), hat 9 (by decide), hat 10 (by decide), hat 11 (by decide), hat 12 (by decide), hat 13 (by decide), hat 14 (by decide), hat 15 (by decide), trivial⟩
  obtain ⟨n, o, h1, h2, h3, _, L, rfl, ⟨rfl, N, hK⟩, hq⟩ := rm0 l s _ hw tables_1 i0 i1 i2 i3 st_COMPACT_STRINGS st_SIOOBE_FORMATTER hx cl.cls s.heap s.heap.size (Old.start s) S_st_COMPACT_STRINGS nz_st_COMPACT_STRINGS S_st_SIOOBE_FORMATTER hr_st_SIOOBE_FORMATTER Sp Vp p e ha hc hk s m _ below hf ((Spec.applies_iff_loose hf).mp happ).1 ⟨rfl, State.Warmed39.refl s, rfl⟩ trivial
  refine ⟨n, _, h1, h2, h3, hpost _ _ _ _ _ _ ⟨Cond.after_iff.mpr rfl, Cond.after_iff.mpr (eq_i res_at (Term.int_eval (1)) rfl), trivial⟩ ⟨hq.1, hq.2.1, (hq.2.2.sift fun y hy => Or.inr (N y hy)).mono (by decide) (by decide)⟩⟩
theorem main_1_1 : Claimed_1_1 := comes_1 fun _ _ _ _ _ _ h hF => ⟨h.1, hF⟩
theorem main_1_2 : Claimed_1_2 := comes_1 fun _ _ _ _ _ _ h hF => ⟨h.2.1, hF⟩
end Jvm.Pilot.@@N@@
namespace Jvm.Pilot.@@N@@
open Jvm Jvm.ClassFile Sem Op Lib Jvm.Free Jvm.Stand Jvm.Pilot.@@N@@.Jvm.D
/-! MADE BY PROGRAM (witnessworld.py) out of the Statement's table words and the real class files: 25 classes; the members and pool entries that the words name. The judged class is class 1, her method 5. -/
namespace start1
open Jvm.ClassFile
def u (s : String) : CpInfo := .utf8 (stringToUtf16 s)
/-- a pool by its gaps: so many unusable entries, then the entry; so many at the end -/
def gap : Nat → List CpInfo → List CpInfo
  | 0, r => r
  | n + 1, r => .unusable :: gap n r
def poolList (es : List (Nat × CpInfo)) (last : Nat) : List CpInfo := es.foldr (fun e r => gap e.1 (e.2 :: r)) (gap last [])
def pool (es : List (Nat × CpInfo)) (last : Nat) : Array CpInfo := ⟨poolList es last⟩
def fileOf (pool : Array CpInfo) (this : Nat) (attrs : Array Attribute := #[]) (ms : Array MethodInfo := #[]) (fl : Nat := 33) (sup : Nat := 0) (ifs : Array Nat := #[]) (fds : Array FieldInfo := #[]) : ClassFile where
  minorVersion := 0
  majorVersion := 65
  constantPool := pool
  accessFlags := fl
  thisClass := this
  superClass := sup
  interfaces := ifs
  fields := fds
  methods := ms
  attributes := attrs
def plain (name : String) (sup : Option ClassId) : Class where
  name := name
  kind := .ordinary
  loader := none
  accessFlags := 33
  super := sup
  interfaces := #[]
  cf := none
  fields := #[]
  methods := #[]
  instanceTypes := #[]
  staticTypes := #[]
  resolved := #[]
  callSites := []
  init := .initialized
  statics := none
  mirror := none

def pool0 : Array CpInfo := pool [(5, u "<init>"), (0, u "()V"), (1, .class_ 10), (1, u "java/lang/Object"), (85, u "clone"), (0, u "()Ljava/lang/Object;")] 26

def k0c0 : Code := { maxStack := 0, maxLocals := 1, code := object_method_1_code, exceptionTable := #[], attributes := #[] }
def k0m0 : Method := { name := "<init>", desc := "()V", sig := { parameters := [], returnType := none }, accessFlags := 1, code := some k0c0 }
def k0m1 : Method := { name := "clone", desc := "()Ljava/lang/Object;", sig := { parameters := [], returnType := some (.object "java/lang/Object") }, accessFlags := 260, code := none }
/-- java/lang/Object -/
def k0 : Class := { plain "java/lang/Object" none with
  accessFlags := 33
  interfaces := #[]
  cf := some (fileOf pool0 8 #[] #[{ accessFlags := 1, nameIndex := 5, descriptorIndex := 6, attributes := #[] }, { accessFlags := 260, nameIndex := 96, descriptorIndex := 97, attributes := #[] }] 33 0 #[] #[])
  fields := #[]
  methods := #[k0m0, k0m1]
  instanceTypes := #[]
  staticTypes := #[]
  resolved := Array.replicate 124 none
  statics := none }

def pool1 : Array CpInfo := pool [(2, .class_ 4), (1, u "java/lang/Object"), (0, u "<init>"), (0, u "()V"), (0, .methodref 8 9), (0, .class_ 10), (0, .nameAndType 11 12), (0, u "com/example/espalier/espalier/UrisEncodePinLaw"), (0, u "unreserved"), (0, u "(I)Z"), (0, .methodref 14 15), (0, .class_ 16), (0, .nameAndType 17 18), (0, u "java/lang/String"), (0, u "charAt"), (0, u "(I)C"), (0, .methodref 8 20), (0, .nameAndType 21 18), (0, u "hex"), (0, .methodref 23 24), (0, .class_ 25), (0, .nameAndType 26 27), (0, u "com/example/espalier/espalier/Uris"), (0, u "encode"), (0, u "([B)Ljava/lang/String;"), (0, .methodref 8 29), (0, .nameAndType 30 31), (0, u "width"), (0, u "(I)I"), (0, .methodref 14 33), (0, .nameAndType 34 35), (0, u "length"), (0, u "()I"), (0, .methodref 8 37), (0, .nameAndType 38 39), (0, u "at"), (0, u "(Ljava/lang/String;II)Z"), (3, u "law"), (0, u "(IIII)Z")] 4

def k1m0 : Method := { name := "<init>", desc := "()V", sig := { parameters := [], returnType := none }, accessFlags := 2, code := none }
def k1c1 : Code := { maxStack := 2, maxLocals := 1, code := method_2_code, exceptionTable := #[], attributes := #[] }
def k1m1 : Method := { name := "unreserved", desc := "(I)Z", sig := { parameters := [.int], returnType := some .boolean }, accessFlags := 10, code := some k1c1 }
def k1c2 : Code := { maxStack := 1, maxLocals := 1, code := method_3_code, exceptionTable := #[], attributes := #[] }
def k1m2 : Method := { name := "width", desc := "(I)I", sig := { parameters := [.int], returnType := some .int }, accessFlags := 10, code := some k1c2 }
def k1c3 : Code := { maxStack := 2, maxLocals := 1, code := method_4_code, exceptionTable := #[], attributes := #[] }
def k1m3 : Method := { name := "hex", desc := "(I)C", sig := { parameters := [.int], returnType := some .char }, accessFlags := 10, code := some k1c3 }
def k1c4 : Code := { maxStack := 3, maxLocals := 3, code := method_5_code, exceptionTable := #[], attributes := #[] }
def k1m4 : Method := { name := "at", desc := "(Ljava/lang/String;II)Z", sig := { parameters := [(.object "java/lang/String"), .int, .int], returnType := some .boolean }, accessFlags := 10, code := some k1c4 }
def k1c5 : Code := { maxStack := 3, maxLocals := 14, code := code, exceptionTable := #[], attributes := #[] }
def k1m5 : Method := { name := "law", desc := "(IIII)Z", sig := { parameters := [.int, .int, .int, .int], returnType := some .boolean }, accessFlags := 9, code := some k1c5 }
/-- com/example/espalier/espalier/UrisEncodePinLaw -/
def k1 : Class := { plain "com/example/espalier/espalier/UrisEncodePinLaw" (some 0) with
  accessFlags := 49
  interfaces := #[]
  cf := some (fileOf pool1 8 #[] #[{ accessFlags := 2, nameIndex := 5, descriptorIndex := 6, attributes := #[] }, { accessFlags := 10, nameIndex := 11, descriptorIndex := 12, attributes := #[] }, { accessFlags := 10, nameIndex := 30, descriptorIndex := 31, attributes := #[] }, { accessFlags := 10, nameIndex := 21, descriptorIndex := 18, attributes := #[] }, { accessFlags := 10, nameIndex := 38, descriptorIndex := 39, attributes := #[] }, { accessFlags := 9, nameIndex := 43, descriptorIndex := 44, attributes := #[] }] 49 2 #[] #[])
  fields := #[]
  methods := #[k1m0, k1m1, k1m2, k1m3, k1m4, k1m5]
  instanceTypes := #[]
  staticTypes := #[]
  resolved := Array.replicate 49 none
  statics := none }

def pool2 : Array CpInfo := pool [(2, .class_ 4), (1, u "java/lang/Object"), (0, u "<init>"), (0, u "()V"), (0, .class_ 8), (0, u "java/lang/StringBuilder"), (0, .methodref 7 10), (0, .nameAndType 5 11), (0, u "(I)V"), (0, .methodref 7 13), (0, .nameAndType 14 15), (0, u "append"), (0, u "(C)Ljava/lang/StringBuilder;"), (0, .fieldref 17 18), (0, .class_ 19), (0, .nameAndType 20 21), (0, u "com/example/espalier/espalier/Uris"), (0, u "HEX"), (0, u "[C"), (0, .methodref 7 23), (0, .nameAndType 24 25), (0, u "toString"), (0, u "()Ljava/lang/String;"), (76, u "encode"), (0, u "([B)Ljava/lang/String;")] 24

def k2m0 : Method := { name := "<init>", desc := "()V", sig := { parameters := [], returnType := none }, accessFlags := 2, code := none }
def k2c1 : Code := { maxStack := 4, maxLocals := 8, code := prog_29_method_2_code, exceptionTable := #[], attributes := #[] }
def k2m1 : Method := { name := "encode", desc := "([B)Ljava/lang/String;", sig := { parameters := [(.array .byte)], returnType := some (.object "java/lang/String") }, accessFlags := 8, code := some k2c1 }
/-- com/example/espalier/espalier/Uris -/
def k2 : Class := { plain "com/example/espalier/espalier/Uris" (some 0) with
  accessFlags := 48
  interfaces := #[]
  cf := some (fileOf pool2 17 #[] #[{ accessFlags := 2, nameIndex := 5, descriptorIndex := 6, attributes := #[] }, { accessFlags := 8, nameIndex := 102, descriptorIndex := 103, attributes := #[] }] 48 2 #[] #[{ accessFlags := 26, nameIndex := 20, descriptorIndex := 21, attributes := #[] }])
  fields := #[{ name := "HEX", type := (.array .char), accessFlags := 26, slot := 0, constantValue := 0 }]
  methods := #[k2m0, k2m1]
  instanceTypes := #[]
  staticTypes := #[(.array .char)]
  resolved := Array.replicate 128 none
  statics := some 0 }

def pool3 : Array CpInfo := pool [(1, .class_ 2), (0, u "java/lang/Appendable"), (0, .class_ 4), (0, u "java/lang/Object")] 9

/-- java/lang/Appendable -/
def k3 : Class := { plain "java/lang/Appendable" (some 0) with
  accessFlags := 1537
  interfaces := #[]
  cf := some (fileOf pool3 1 #[] #[] 1537 3 #[] #[])
  fields := #[]
  methods := #[]
  instanceTypes := #[]
  staticTypes := #[]
  resolved := Array.replicate 14 none
  statics := none }

def pool4 : Array CpInfo := pool [(2, .class_ 4), (1, u "java/lang/CharSequence"), (42, .class_ 48), (0, u "java/lang/CharSequence$1CodePointIterator"), (10, .class_ 60), (0, u "java/lang/CharSequence$1CharIterator"), (5, .class_ 67), (0, u "java/lang/Object")] 63

/-- java/lang/CharSequence -/
def k4 : Class := { plain "java/lang/CharSequence" (some 0) with
  accessFlags := 1537
  interfaces := #[]
  cf := some (fileOf pool4 2 #[.nestMembers #[47, 59]] #[] 1537 66 #[] #[])
  fields := #[]
  methods := #[]
  instanceTypes := #[]
  staticTypes := #[]
  resolved := Array.replicate 131 none
  statics := none }

def pool5 : Array CpInfo := pool [(1, .class_ 2), (0, u "java/lang/String"), (0, .methodref 4 5), (0, .class_ 6), (0, .nameAndType 7 8), (0, u "java/lang/Object"), (0, u "<init>"), (0, u "()V"), (1, .class_ 12), (1, u "java/lang/AbstractStringBuilder"), (0, u "EMPTYVALUE"), (0, u "[B"), (0, .fieldref 10 16), (0, .nameAndType 17 14), (0, u "value"), (0, .fieldref 1 19), (0, .nameAndType 20 21), (0, u "COMPACT_STRINGS"), (0, u "Z"), (0, .fieldref 10 23), (0, .nameAndType 24 25), (0, u "coder"), (0, u "B"), (8, u "length"), (0, u "()I"), (3, .integer 2147483647), (5, u "append"), (2, .class_ 49), (0, u "java/lang/CharSequence"), (25, u "maybeLatin1"), (3, .fieldref 10 80), (0, .nameAndType 81 82), (0, u "count"), (0, u "I"), (0, .methodref 10 84), (0, .nameAndType 85 86), (0, u "isLatin1"), (0, u "()Z"), (1, .class_ 90), (1, u "java/lang/StringLatin1"), (9, .methodref 10 101), (0, .nameAndType 102 103), (0, u "ensureCapacityInternal"), (0, u "(I)V"), (0, .methodref 10 105), (0, .nameAndType 106 107), (0, u "newCapacity"), (0, u "(I)I"), (0, .methodref 109 110), (0, .class_ 111), (0, .nameAndType 112 113), (0, u "java/util/Arrays"), (0, u "copyOf"), (0, u "([BI)[B"), (0, .methodref 115 116), (0, .class_ 117), (0, .nameAndType 118 119), (0, u "jdk/internal/util/ArraysSupport"), (0, u "newLength"), (0, u "(III)I"), (71, .methodref 88 192), (0, .nameAndType 193 194), (0, u "canEncode"), (0, u "(C)Z"), (97, u "(C)Ljava/lang/AbstractStringBuilder;"), (110, u "()[B"), (40, .class_ 445), (0, u "java/lang/Appendable"), (106, u "getValue")] 56

def k5m0 : Method := { name := "<init>", desc := "()V", sig := { parameters := [], returnType := none }, accessFlags := 0, code := none }
def k5c1 : Code := { maxStack := 2, maxLocals := 2, code := jdk_68_method_2_code, exceptionTable := #[], attributes := #[] }
def k5m1 : Method := { name := "<init>", desc := "(I)V", sig := { parameters := [.int], returnType := none }, accessFlags := 0, code := some k5c1 }
def k5c2 : Code := { maxStack := 1, maxLocals := 1, code := jdk_68_method_6_code, exceptionTable := #[], attributes := #[] }
def k5m2 : Method := { name := "length", desc := "()I", sig := { parameters := [], returnType := some .int }, accessFlags := 1, code := some k5c2 }
def k5c3 : Code := { maxStack := 4, maxLocals := 3, code := jdk_68_method_9_code, exceptionTable := #[], attributes := #[] }
def k5m3 : Method := { name := "ensureCapacityInternal", desc := "(I)V", sig := { parameters := [.int], returnType := none }, accessFlags := 2, code := some k5c3 }
def k5c4 : Code := { maxStack := 5, maxLocals := 6, code := jdk_68_method_10_code, exceptionTable := #[], attributes := #[] }
def k5m4 : Method := { name := "newCapacity", desc := "(I)I", sig := { parameters := [.int], returnType := some .int }, accessFlags := 2, code := some k5c4 }
def k5c5 : Code := { maxStack := 5, maxLocals := 2, code := jdk_68_method_31_code, exceptionTable := #[], attributes := #[] }
def k5m5 : Method := { name := "append", desc := "(C)Ljava/lang/AbstractStringBuilder;", sig := { parameters := [.char], returnType := some (.object "java/lang/AbstractStringBuilder") }, accessFlags := 1, code := some k5c5 }
def k5c6 : Code := { maxStack := 1, maxLocals := 1, code := jdk_68_method_64_code, exceptionTable := #[], attributes := #[] }
def k5m6 : Method := { name := "getValue", desc := "()[B", sig := { parameters := [], returnType := some (.array .byte) }, accessFlags := 16, code := some k5c6 }
def k5c7 : Code := { maxStack := 1, maxLocals := 1, code := jdk_68_method_68_code, exceptionTable := #[], attributes := #[] }
def k5m7 : Method := { name := "isLatin1", desc := "()Z", sig := { parameters := [], returnType := some .boolean }, accessFlags := 16, code := some k5c7 }
/-- java/lang/AbstractStringBuilder -/
def k5 : Class := { plain "java/lang/AbstractStringBuilder" (some 0) with
  accessFlags := 1056
  interfaces := #[3, 4]
  cf := some (fileOf pool5 10 #[] #[{ accessFlags := 0, nameIndex := 7, descriptorIndex := 8, attributes := #[] }, { accessFlags := 0, nameIndex := 7, descriptorIndex := 103, attributes := #[] }, { accessFlags := 1, nameIndex := 34, descriptorIndex := 35, attributes := #[] }, { accessFlags := 2, nameIndex := 102, descriptorIndex := 103, attributes := #[] }, { accessFlags := 2, nameIndex := 106, descriptorIndex := 107, attributes := #[] }, { accessFlags := 1, nameIndex := 45, descriptorIndex := 292, attributes := #[] }, { accessFlags := 16, nameIndex := 552, descriptorIndex := 403, attributes := #[] }, { accessFlags := 16, nameIndex := 85, descriptorIndex := 86, attributes := #[] }] 1056 4 #[444, 48] #[{ accessFlags := 0, nameIndex := 17, descriptorIndex := 14, attributes := #[] }, { accessFlags := 0, nameIndex := 24, descriptorIndex := 25, attributes := #[] }, { accessFlags := 0, nameIndex := 75, descriptorIndex := 21, attributes := #[] }, { accessFlags := 0, nameIndex := 81, descriptorIndex := 82, attributes := #[] }, { accessFlags := 26, nameIndex := 13, descriptorIndex := 14, attributes := #[] }])
  fields := #[{ name := "value", type := (.array .byte), accessFlags := 0, slot := 0, constantValue := 0 }, { name := "coder", type := .byte, accessFlags := 0, slot := 1, constantValue := 0 }, { name := "maybeLatin1", type := .boolean, accessFlags := 0, slot := 2, constantValue := 0 }, { name := "count", type := .int, accessFlags := 0, slot := 3, constantValue := 0 }, { name := "EMPTYVALUE", type := (.array .byte), accessFlags := 26, slot := 0, constantValue := 0 }]
  methods := #[k5m0, k5m1, k5m2, k5m3, k5m4, k5m5, k5m6, k5m7]
  instanceTypes := #[(.array .byte), .byte, .boolean, .int]
  staticTypes := #[(.array .byte)]
  resolved := Array.replicate 609 none
  statics := none }

def pool6 : Array CpInfo := pool [(1, .class_ 2), (0, u "java/io/Serializable"), (0, .class_ 4), (0, u "java/lang/Object")] 2

/-- java/io/Serializable -/
def k6 : Class := { plain "java/io/Serializable" (some 0) with
  accessFlags := 1537
  interfaces := #[]
  cf := some (fileOf pool6 1 #[] #[] 1537 3 #[] #[])
  fields := #[]
  methods := #[]
  instanceTypes := #[]
  staticTypes := #[]
  resolved := Array.replicate 7 none
  statics := none }

def pool7 : Array CpInfo := pool [(1, .class_ 2), (0, u "java/lang/Comparable"), (0, .class_ 4), (0, u "java/lang/Object")] 7

/-- java/lang/Comparable -/
def k7 : Class := { plain "java/lang/Comparable" (some 0) with
  accessFlags := 1537
  interfaces := #[]
  cf := some (fileOf pool7 1 #[] #[] 1537 3 #[] #[])
  fields := #[]
  methods := #[]
  instanceTypes := #[]
  staticTypes := #[]
  resolved := Array.replicate 12 none
  statics := none }

def pool8 : Array CpInfo := pool [(1, .methodref 2 3), (0, .class_ 4), (0, .nameAndType 5 6), (0, u "java/lang/AbstractStringBuilder"), (0, u "<init>"), (0, u "(I)V"), (11, .class_ 20), (1, u "java/lang/String"), (3, .class_ 26), (1, u "java/lang/StringBuilder"), (0, u "append"), (22, .methodref 2 51), (0, .nameAndType 27 52), (0, u "(C)Ljava/lang/AbstractStringBuilder;"), (84, .methodref 18 138), (0, .nameAndType 5 139), (0, u "(Ljava/lang/StringBuilder;)V"), (5, u "()V"), (10, u "()I"), (129, u "(C)Ljava/lang/StringBuilder;"), (56, .methodref 2 344), (0, .nameAndType 345 156), (0, u "length"), (3, .class_ 350), (0, u "java/lang/Appendable"), (0, .class_ 352), (0, u "java/io/Serializable"), (0, .class_ 354), (0, u "java/lang/Comparable"), (0, .class_ 356), (0, u "java/lang/CharSequence"), (0, u "serialVersionUID"), (0, u "J"), (40, u "toString"), (0, u "()Ljava/lang/String;")] 21

def k8m0 : Method := { name := "<init>", desc := "()V", sig := { parameters := [], returnType := none }, accessFlags := 1, code := none }
def k8c1 : Code := { maxStack := 2, maxLocals := 2, code := jdk_67_method_2_code, exceptionTable := #[], attributes := #[] }
def k8m1 : Method := { name := "<init>", desc := "(I)V", sig := { parameters := [.int], returnType := none }, accessFlags := 1, code := some k8c1 }
def k8c2 : Code := { maxStack := 2, maxLocals := 2, code := jdk_67_method_14_code, exceptionTable := #[], attributes := #[] }
def k8m2 : Method := { name := "append", desc := "(C)Ljava/lang/StringBuilder;", sig := { parameters := [.char], returnType := some (.object "java/lang/StringBuilder") }, accessFlags := 1, code := some k8c2 }
def k8c3 : Code := { maxStack := 3, maxLocals := 1, code := jdk_67_method_42_code, exceptionTable := #[], attributes := #[] }
def k8m3 : Method := { name := "toString", desc := "()Ljava/lang/String;", sig := { parameters := [], returnType := some (.object "java/lang/String") }, accessFlags := 1, code := some k8c3 }
def k8c4 : Code := { maxStack := 1, maxLocals := 1, code := jdk_67_method_93_code, exceptionTable := #[], attributes := #[] }
def k8m4 : Method := { name := "length", desc := "()I", sig := { parameters := [], returnType := some .int }, accessFlags := 4161, code := some k8c4 }
/-- java/lang/StringBuilder -/
def k8 : Class := { plain "java/lang/StringBuilder" (some 5) with
  accessFlags := 49
  interfaces := #[3, 6, 7, 4]
  cf := some (fileOf pool8 24 #[] #[{ accessFlags := 1, nameIndex := 5, descriptorIndex := 145, attributes := #[] }, { accessFlags := 1, nameIndex := 5, descriptorIndex := 6, attributes := #[] }, { accessFlags := 1, nameIndex := 27, descriptorIndex := 286, attributes := #[] }, { accessFlags := 1, nameIndex := 399, descriptorIndex := 400, attributes := #[] }, { accessFlags := 4161, nameIndex := 345, descriptorIndex := 156, attributes := #[] }] 49 2 #[349, 351, 353, 355] #[{ accessFlags := 24, nameIndex := 357, descriptorIndex := 358, attributes := #[] }])
  fields := #[{ name := "serialVersionUID", type := .long, accessFlags := 24, slot := 0, constantValue := 0 }]
  methods := #[k8m0, k8m1, k8m2, k8m3, k8m4]
  instanceTypes := #[(.array .byte), .byte, .boolean, .int]
  staticTypes := #[.long]
  resolved := Array.replicate 422 none
  statics := none }

def pool9 : Array CpInfo := pool [(1, .class_ 2), (0, u "java/lang/constant/Constable"), (0, .class_ 4), (0, u "java/lang/Object")] 6

/-- java/lang/constant/Constable -/
def k9 : Class := { plain "java/lang/constant/Constable" (some 0) with
  accessFlags := 1537
  interfaces := #[]
  cf := some (fileOf pool9 1 #[] #[] 1537 3 #[] #[])
  fields := #[]
  methods := #[]
  instanceTypes := #[]
  staticTypes := #[]
  resolved := Array.replicate 11 none
  statics := none }

def pool10 : Array CpInfo := pool [(1, .class_ 2), (0, u "java/lang/constant/ConstantDesc"), (0, .class_ 4), (0, u "java/lang/Object")] 32

/-- java/lang/constant/ConstantDesc -/
def k10 : Class := { plain "java/lang/constant/ConstantDesc" (some 0) with
  accessFlags := 1537
  interfaces := #[]
  cf := some (fileOf pool10 1 #[] #[] 1537 3 #[] #[])
  fields := #[]
  methods := #[]
  instanceTypes := #[]
  staticTypes := #[]
  resolved := Array.replicate 37 none
  statics := none }

def pool11 : Array CpInfo := pool [(1, .methodref 2 3), (0, .class_ 4), (0, .nameAndType 5 6), (0, u "java/lang/Object"), (0, u "<init>"), (0, u "()V"), (2, .fieldref 10 11), (0, .class_ 12), (0, .nameAndType 13 14), (0, u "java/lang/String"), (0, u "value"), (0, u "[B"), (0, .fieldref 10 16), (0, .nameAndType 17 18), (0, u "coder"), (0, u "B"), (2, u "hash"), (0, u "I"), (2, u "hashIsZero"), (0, u "Z"), (11, .fieldref 10 39), (0, .nameAndType 40 26), (0, u "COMPACT_STRINGS"), (13, .methodref 55 56), (0, .class_ 57), (0, .nameAndType 58 59), (0, u "java/util/Arrays"), (0, u "copyOfRange"), (0, u "([BII)[B"), (47, .class_ 109), (1, u "java/lang/StringLatin1"), (32, u "()Z"), (191, u "()I"), (0, .methodref 10 336), (0, .nameAndType 17 337), (0, u "()B"), (2, u "()[B"), (22, u "([BI)C"), (27, u "(II)V"), (35, u "(I)C"), (61, .methodref 10 490), (0, .nameAndType 5 491), (0, u "(Ljava/lang/AbstractStringBuilder;Ljava/lang/Void;)V"), (0, .methodref 10 493), (0, .nameAndType 494 142), (0, u "isLatin1"), (0, .methodref 107 496), (0, .nameAndType 497 363), (0, u "charAt"), (3, u "checkIndex"), (4, .nameAndType 507 334), (0, u "length"), (41, .methodref 550 506), (0, .class_ 551), (0, u "java/lang/AbstractStringBuilder"), (0, .methodref 550 553), (0, .nameAndType 554 340), (0, u "getValue"), (20, .class_ 576), (0, u "java/lang/CharSequence"), (22, u "CASE_INSENSITIVE_ORDER"), (0, u "Ljava/util/Comparator;"), (446, .methodref 550 493), (5, .fieldref 1054 1055), (0, .class_ 1056), (0, .nameAndType 1057 1058), (0, u "jdk/internal/util/Preconditions"), (0, u "SIOOBE_FORMATTER"), (0, u "Ljava/util/function/BiFunction;"), (0, .methodref 1054 1060), (0, .nameAndType 501 1061), (0, u "(IILjava/util/function/BiFunction;)I"), (39, u "serialPersistentFields"), (0, u "[Ljava/io/ObjectStreamField;"), (0, .class_ 1104), (0, u "java/lang/String$CaseInsensitiveComparator"), (1, .class_ 1107), (0, u "java/io/Serializable"), (0, .class_ 1109), (0, u "java/lang/Comparable"), (0, .class_ 1111), (0, u "java/lang/constant/Constable"), (0, .class_ 1113), (0, u "java/lang/constant/ConstantDesc"), (2, u "serialVersionUID"), (0, u "J"), (3, u "REPL"), (0, u "C"), (2, u "LATIN1"), (1, u "UTF16"), (105, u "(Ljava/lang/StringBuilder;)V")] 217

def k11m0 : Method := { name := "<init>", desc := "()V", sig := { parameters := [], returnType := none }, accessFlags := 1, code := none }
def k11c1 : Code := { maxStack := 3, maxLocals := 2, code := jdk_42_method_53_code, exceptionTable := #[], attributes := #[] }
def k11m1 : Method := { name := "<init>", desc := "(Ljava/lang/StringBuilder;)V", sig := { parameters := [(.object "java/lang/StringBuilder")], returnType := none }, accessFlags := 1, code := some k11c1 }
def k11c2 : Code := { maxStack := 2, maxLocals := 1, code := jdk_42_method_54_code, exceptionTable := #[], attributes := #[] }
def k11m2 : Method := { name := "length", desc := "()I", sig := { parameters := [], returnType := some .int }, accessFlags := 1, code := some k11c2 }
def k11c3 : Code := { maxStack := 2, maxLocals := 2, code := jdk_42_method_56_code, exceptionTable := #[], attributes := #[] }
def k11m3 : Method := { name := "charAt", desc := "(I)C", sig := { parameters := [.int], returnType := some .char }, accessFlags := 1, code := some k11c3 }
def k11c4 : Code := { maxStack := 5, maxLocals := 5, code := jdk_42_method_150_code, exceptionTable := #[], attributes := #[] }
def k11m4 : Method := { name := "<init>", desc := "(Ljava/lang/AbstractStringBuilder;Ljava/lang/Void;)V", sig := { parameters := [(.object "java/lang/AbstractStringBuilder"), (.object "java/lang/Void")], returnType := none }, accessFlags := 0, code := some k11c4 }
def k11c5 : Code := { maxStack := 1, maxLocals := 1, code := jdk_42_method_152_code, exceptionTable := #[], attributes := #[] }
def k11m5 : Method := { name := "coder", desc := "()B", sig := { parameters := [], returnType := some .byte }, accessFlags := 0, code := some k11c5 }
def k11c6 : Code := { maxStack := 1, maxLocals := 1, code := jdk_42_method_154_code, exceptionTable := #[], attributes := #[] }
def k11m6 : Method := { name := "isLatin1", desc := "()Z", sig := { parameters := [], returnType := some .boolean }, accessFlags := 0, code := some k11c6 }
def k11c7 : Code := { maxStack := 3, maxLocals := 2, code := jdk_42_method_155_code, exceptionTable := #[], attributes := #[] }
def k11m7 : Method := { name := "checkIndex", desc := "(II)V", sig := { parameters := [.int, .int], returnType := none }, accessFlags := 8, code := some k11c7 }
/-- java/lang/String -/
def k11 : Class := { plain "java/lang/String" (some 0) with
  accessFlags := 49
  interfaces := #[6, 7, 4, 9, 10]
  cf := some (fileOf pool11 10 #[.nestMembers #[1103]] #[{ accessFlags := 1, nameIndex := 5, descriptorIndex := 6, attributes := #[] }, { accessFlags := 1, nameIndex := 5, descriptorIndex := 1233, attributes := #[] }, { accessFlags := 1, nameIndex := 507, descriptorIndex := 334, attributes := #[] }, { accessFlags := 1, nameIndex := 497, descriptorIndex := 427, attributes := #[] }, { accessFlags := 0, nameIndex := 5, descriptorIndex := 491, attributes := #[] }, { accessFlags := 0, nameIndex := 17, descriptorIndex := 337, attributes := #[] }, { accessFlags := 0, nameIndex := 494, descriptorIndex := 142, attributes := #[] }, { accessFlags := 8, nameIndex := 501, descriptorIndex := 391, attributes := #[] }] 49 2 #[1106, 1108, 575, 1110, 1112] #[{ accessFlags := 18, nameIndex := 13, descriptorIndex := 14, attributes := #[] }, { accessFlags := 18, nameIndex := 17, descriptorIndex := 18, attributes := #[] }, { accessFlags := 2, nameIndex := 21, descriptorIndex := 22, attributes := #[] }, { accessFlags := 2, nameIndex := 25, descriptorIndex := 26, attributes := #[] }, { accessFlags := 26, nameIndex := 1116, descriptorIndex := 1117, attributes := #[] }, { accessFlags := 24, nameIndex := 40, descriptorIndex := 26, attributes := #[] }, { accessFlags := 26, nameIndex := 1101, descriptorIndex := 1102, attributes := #[] }, { accessFlags := 26, nameIndex := 1121, descriptorIndex := 1122, attributes := #[] }, { accessFlags := 25, nameIndex := 599, descriptorIndex := 600, attributes := #[] }, { accessFlags := 24, nameIndex := 1125, descriptorIndex := 18, attributes := #[] }, { accessFlags := 24, nameIndex := 1127, descriptorIndex := 18, attributes := #[] }])
  fields := #[{ name := "value", type := (.array .byte), accessFlags := 18, slot := 0, constantValue := 0 }, { name := "coder", type := .byte, accessFlags := 18, slot := 1, constantValue := 0 }, { name := "hash", type := .int, accessFlags := 2, slot := 2, constantValue := 0 }, { name := "hashIsZero", type := .boolean, accessFlags := 2, slot := 3, constantValue := 0 }, { name := "serialVersionUID", type := .long, accessFlags := 26, slot := 0, constantValue := 0 }, { name := "COMPACT_STRINGS", type := .boolean, accessFlags := 24, slot := 1, constantValue := 0 }, { name := "serialPersistentFields", type := (.array (.object "java/io/ObjectStreamField")), accessFlags := 26, slot := 2, constantValue := 0 }, { name := "REPL", type := .char, accessFlags := 26, slot := 3, constantValue := 0 }, { name := "CASE_INSENSITIVE_ORDER", type := (.object "java/util/Comparator"), accessFlags := 25, slot := 4, constantValue := 0 }, { name := "LATIN1", type := .byte, accessFlags := 24, slot := 5, constantValue := 0 }, { name := "UTF16", type := .byte, accessFlags := 24, slot := 6, constantValue := 0 }]
  methods := #[k11m0, k11m1, k11m2, k11m3, k11m4, k11m5, k11m6, k11m7]
  instanceTypes := #[(.array .byte), .byte, .int, .boolean]
  staticTypes := #[.long, .boolean, (.array (.object "java/io/ObjectStreamField")), .char, (.object "java/util/Comparator"), .byte, .byte]
  resolved := Array.replicate 1451 none
  statics := some 1 }

def pool12 : Array CpInfo := pool [(2, .class_ 4), (1, u "java/lang/Object"), (0, u "<init>"), (0, u "()V"), (7, .class_ 16), (1, u "java/util/Arrays"), (57, .class_ 76), (1, u "java/util/Arrays$NaturalOrder"), (32, u "()Ljava/lang/Object;"), (3, .class_ 115), (1, u "java/util/Arrays$LegacyMergeSort"), (1, u "Z"), (10, .nameAndType 129 109), (0, u "clone"), (9, u "copyOfRange"), (10, .methodref 151 152), (0, .class_ 153), (0, .nameAndType 154 155), (0, u "java/lang/System"), (0, u "arraycopy"), (0, u "(Ljava/lang/Object;ILjava/lang/Object;II)V"), (146, u "copyOf"), (1, .methodref 305 306), (0, .class_ 307), (0, .nameAndType 308 309), (0, u "java/lang/Math"), (0, u "min"), (0, u "(II)I"), (0, .methodref 311 128), (0, .class_ 312), (0, u "[B"), (26, .methodref 14 340), (0, .nameAndType 341 342), (0, u "copyOfRangeByte"), (0, u "([BII)[B"), (0, .methodref 14 344), (0, .nameAndType 345 346), (0, u "checkLength"), (0, u "(II)V"), (28, .class_ 376), (0, u "java/util/Arrays$ArrayList"), (68, u "$assertionsDisabled"), (269, u "MIN_ARRAY_SORT_GRAN"), (0, u "I"), (2, u "INSERTIONSORT_THRESHOLD"), (149, u "([BI)[B"), (105, .class_ 976), (0, u "java/util/Arrays$ArrayItr")] 52

def k12m0 : Method := { name := "<init>", desc := "()V", sig := { parameters := [], returnType := none }, accessFlags := 2, code := none }
def k12c1 : Code := { maxStack := 6, maxLocals := 3, code := jdk_65_method_121_code, exceptionTable := #[], attributes := #[] }
def k12m1 : Method := { name := "copyOf", desc := "([BI)[B", sig := { parameters := [(.array .byte), .int], returnType := some (.array .byte) }, accessFlags := 9, code := some k12c1 }
def k12c2 : Code := { maxStack := 4, maxLocals := 2, code := jdk_65_method_131_code, exceptionTable := #[], attributes := #[] }
def k12m2 : Method := { name := "checkLength", desc := "(II)V", sig := { parameters := [.int, .int], returnType := none }, accessFlags := 10, code := some k12c2 }
def k12c3 : Code := { maxStack := 3, maxLocals := 3, code := jdk_65_method_132_code, exceptionTable := #[], attributes := #[] }
def k12m3 : Method := { name := "copyOfRange", desc := "([BII)[B", sig := { parameters := [(.array .byte), .int, .int], returnType := some (.array .byte) }, accessFlags := 9, code := some k12c3 }
def k12c4 : Code := { maxStack := 6, maxLocals := 5, code := jdk_65_method_133_code, exceptionTable := #[], attributes := #[] }
def k12m4 : Method := { name := "copyOfRangeByte", desc := "([BII)[B", sig := { parameters := [(.array .byte), .int, .int], returnType := some (.array .byte) }, accessFlags := 10, code := some k12c4 }
/-- java/util/Arrays -/
def k12 : Class := { plain "java/util/Arrays" (some 0) with
  accessFlags := 49
  interfaces := #[]
  cf := some (fileOf pool12 14 #[.nestMembers #[975, 375, 113, 74]] #[{ accessFlags := 2, nameIndex := 5, descriptorIndex := 6, attributes := #[] }, { accessFlags := 9, nameIndex := 302, descriptorIndex := 869, attributes := #[] }, { accessFlags := 10, nameIndex := 345, descriptorIndex := 346, attributes := #[] }, { accessFlags := 9, nameIndex := 139, descriptorIndex := 342, attributes := #[] }, { accessFlags := 10, nameIndex := 341, descriptorIndex := 342, attributes := #[] }] 49 2 #[] #[{ accessFlags := 26, nameIndex := 715, descriptorIndex := 716, attributes := #[] }, { accessFlags := 26, nameIndex := 719, descriptorIndex := 716, attributes := #[] }, { accessFlags := 4120, nameIndex := 445, descriptorIndex := 117, attributes := #[] }])
  fields := #[{ name := "MIN_ARRAY_SORT_GRAN", type := .int, accessFlags := 26, slot := 0, constantValue := 0 }, { name := "INSERTIONSORT_THRESHOLD", type := .int, accessFlags := 26, slot := 1, constantValue := 0 }, { name := "$assertionsDisabled", type := .boolean, accessFlags := 4120, slot := 2, constantValue := 0 }]
  methods := #[k12m0, k12m1, k12m2, k12m3, k12m4]
  instanceTypes := #[]
  staticTypes := #[.int, .int, .boolean]
  resolved := Array.replicate 1029 none
  statics := none }

def pool13 : Array CpInfo := pool [(1, .class_ 2), (0, u "java/lang/Cloneable"), (0, .class_ 4), (0, u "java/lang/Object")] 2

/-- java/lang/Cloneable -/
def k13 : Class := { plain "java/lang/Cloneable" (some 0) with
  accessFlags := 1537
  interfaces := #[]
  cf := some (fileOf pool13 1 #[] #[] 1537 3 #[] #[])
  fields := #[]
  methods := #[]
  instanceTypes := #[]
  staticTypes := #[]
  resolved := Array.replicate 7 none
  statics := none }

def pool14 : Array CpInfo := pool [(1, .class_ 2), (0, u "java/lang/String"), (1, .class_ 6), (1, u "java/lang/Object"), (0, u "<init>"), (0, u "()V"), (0, .methodref 1 10), (0, .nameAndType 11 12), (0, u "checkIndex"), (0, u "(II)V"), (1, .class_ 16), (1, u "java/lang/StringLatin1"), (36, u "([BI)C"), (36, u "canEncode"), (14, u "(C)Z"), (15, u "$assertionsDisabled"), (0, u "Z"), (98, .class_ 223), (1, u "java/lang/StringLatin1$LinesSpliterator"), (28, u "charAt"), (137, .class_ 391), (0, u "java/lang/StringLatin1$CharsSpliterator")] 3

def k14m0 : Method := { name := "<init>", desc := "()V", sig := { parameters := [], returnType := none }, accessFlags := 0, code := none }
def k14c1 : Code := { maxStack := 2, maxLocals := 2, code := jdk_43_method_2_code, exceptionTable := #[], attributes := #[] }
def k14m1 : Method := { name := "charAt", desc := "([BI)C", sig := { parameters := [(.array .byte), .int], returnType := some .char }, accessFlags := 9, code := some k14c1 }
def k14c2 : Code := { maxStack := 2, maxLocals := 1, code := jdk_43_method_3_code, exceptionTable := #[], attributes := #[] }
def k14m2 : Method := { name := "canEncode", desc := "(C)Z", sig := { parameters := [.char], returnType := some .boolean }, accessFlags := 9, code := some k14c2 }
/-- java/lang/StringLatin1 -/
def k14 : Class := { plain "java/lang/StringLatin1" (some 0) with
  accessFlags := 48
  interfaces := #[]
  cf := some (fileOf pool14 14 #[.nestMembers #[390, 221]] #[{ accessFlags := 0, nameIndex := 7, descriptorIndex := 8, attributes := #[] }, { accessFlags := 9, nameIndex := 252, descriptorIndex := 53, attributes := #[] }, { accessFlags := 9, nameIndex := 90, descriptorIndex := 105, attributes := #[] }] 48 4 #[] #[{ accessFlags := 4120, nameIndex := 121, descriptorIndex := 122, attributes := #[] }])
  fields := #[{ name := "$assertionsDisabled", type := .boolean, accessFlags := 4120, slot := 0, constantValue := 0 }]
  methods := #[k14m0, k14m1, k14m2]
  instanceTypes := #[]
  staticTypes := #[.boolean]
  resolved := Array.replicate 395 none
  statics := none }

def pool15 : Array CpInfo := pool [(9, u "<init>"), (6, .class_ 18), (1, u "java/lang/Object"), (0, u "()V"), (1, .class_ 23), (1, u "jdk/internal/util/ArraysSupport"), (0, u "LOG2_ARRAY_LONG_INDEX_SCALE"), (0, u "I"), (2, u "U"), (0, u "Ljdk/internal/misc/Unsafe;"), (8, u "BIG_ENDIAN"), (0, u "Z"), (8, u "LOG2_BYTE_BIT_SIZE"), (4, u "LOG2_ARRAY_INT_INDEX_SCALE"), (54, u "JLA"), (0, u "Ljdk/internal/access/JavaLangAccess;"), (11, u "LOG2_ARRAY_BOOLEAN_INDEX_SCALE"), (9, u "LOG2_ARRAY_BYTE_INDEX_SCALE"), (5, u "LOG2_ARRAY_CHAR_INDEX_SCALE"), (5, u "LOG2_ARRAY_SHORT_INDEX_SCALE"), (18, u "LOG2_ARRAY_FLOAT_INDEX_SCALE"), (24, u "LOG2_ARRAY_DOUBLE_INDEX_SCALE"), (6, .methodref 195 196), (0, .class_ 197), (0, .nameAndType 198 199), (0, u "java/lang/Math"), (0, u "max"), (0, u "(II)I"), (0, .integer 2147483639), (76, u "T_BOOLEAN"), (2, u "T_CHAR"), (1, u "T_FLOAT"), (1, u "T_DOUBLE"), (1, u "T_BYTE"), (1, u "T_SHORT"), (1, u "T_INT"), (1, u "T_LONG"), (1, u "SOFT_MAX_ARRAY_LENGTH"), (56, u "newLength"), (0, u "(III)I")] 25

def k15m0 : Method := { name := "<init>", desc := "()V", sig := { parameters := [], returnType := none }, accessFlags := 2, code := none }
def k15c1 : Code := { maxStack := 3, maxLocals := 4, code := jdk_48_method_27_code, exceptionTable := #[], attributes := #[] }
def k15m1 : Method := { name := "newLength", desc := "(III)I", sig := { parameters := [.int, .int, .int], returnType := some .int }, accessFlags := 9, code := some k15c1 }
/-- jdk/internal/util/ArraysSupport -/
def k15 : Class := { plain "jdk/internal/util/ArraysSupport" (some 0) with
  accessFlags := 33
  interfaces := #[]
  cf := some (fileOf pool15 21 #[] #[{ accessFlags := 2, nameIndex := 9, descriptorIndex := 19, attributes := #[] }, { accessFlags := 9, nameIndex := 351, descriptorIndex := 352, attributes := #[] }] 33 16 #[] #[{ accessFlags := 24, nameIndex := 28, descriptorIndex := 29, attributes := #[] }, { accessFlags := 26, nameIndex := 38, descriptorIndex := 39, attributes := #[] }, { accessFlags := 25, nameIndex := 121, descriptorIndex := 25, attributes := #[] }, { accessFlags := 25, nameIndex := 131, descriptorIndex := 25, attributes := #[] }, { accessFlags := 25, nameIndex := 137, descriptorIndex := 25, attributes := #[] }, { accessFlags := 25, nameIndex := 143, descriptorIndex := 25, attributes := #[] }, { accessFlags := 25, nameIndex := 53, descriptorIndex := 25, attributes := #[] }, { accessFlags := 25, nameIndex := 24, descriptorIndex := 25, attributes := #[] }, { accessFlags := 25, nameIndex := 162, descriptorIndex := 25, attributes := #[] }, { accessFlags := 25, nameIndex := 187, descriptorIndex := 25, attributes := #[] }, { accessFlags := 26, nameIndex := 48, descriptorIndex := 25, attributes := #[] }, { accessFlags := 25, nameIndex := 277, descriptorIndex := 25, attributes := #[] }, { accessFlags := 25, nameIndex := 280, descriptorIndex := 25, attributes := #[] }, { accessFlags := 25, nameIndex := 282, descriptorIndex := 25, attributes := #[] }, { accessFlags := 25, nameIndex := 284, descriptorIndex := 25, attributes := #[] }, { accessFlags := 25, nameIndex := 286, descriptorIndex := 25, attributes := #[] }, { accessFlags := 25, nameIndex := 288, descriptorIndex := 25, attributes := #[] }, { accessFlags := 25, nameIndex := 290, descriptorIndex := 25, attributes := #[] }, { accessFlags := 25, nameIndex := 292, descriptorIndex := 25, attributes := #[] }, { accessFlags := 26, nameIndex := 108, descriptorIndex := 109, attributes := #[] }, { accessFlags := 25, nameIndex := 294, descriptorIndex := 25, attributes := #[] }])
  fields := #[{ name := "U", type := (.object "jdk/internal/misc/Unsafe"), accessFlags := 24, slot := 0, constantValue := 0 }, { name := "BIG_ENDIAN", type := .boolean, accessFlags := 26, slot := 1, constantValue := 0 }, { name := "LOG2_ARRAY_BOOLEAN_INDEX_SCALE", type := .int, accessFlags := 25, slot := 2, constantValue := 0 }, { name := "LOG2_ARRAY_BYTE_INDEX_SCALE", type := .int, accessFlags := 25, slot := 3, constantValue := 0 }, { name := "LOG2_ARRAY_CHAR_INDEX_SCALE", type := .int, accessFlags := 25, slot := 4, constantValue := 0 }, { name := "LOG2_ARRAY_SHORT_INDEX_SCALE", type := .int, accessFlags := 25, slot := 5, constantValue := 0 }, { name := "LOG2_ARRAY_INT_INDEX_SCALE", type := .int, accessFlags := 25, slot := 6, constantValue := 0 }, { name := "LOG2_ARRAY_LONG_INDEX_SCALE", type := .int, accessFlags := 25, slot := 7, constantValue := 0 }, { name := "LOG2_ARRAY_FLOAT_INDEX_SCALE", type := .int, accessFlags := 25, slot := 8, constantValue := 0 }, { name := "LOG2_ARRAY_DOUBLE_INDEX_SCALE", type := .int, accessFlags := 25, slot := 9, constantValue := 0 }, { name := "LOG2_BYTE_BIT_SIZE", type := .int, accessFlags := 26, slot := 10, constantValue := 0 }, { name := "T_BOOLEAN", type := .int, accessFlags := 25, slot := 11, constantValue := 0 }, { name := "T_CHAR", type := .int, accessFlags := 25, slot := 12, constantValue := 0 }, { name := "T_FLOAT", type := .int, accessFlags := 25, slot := 13, constantValue := 0 }, { name := "T_DOUBLE", type := .int, accessFlags := 25, slot := 14, constantValue := 0 }, { name := "T_BYTE", type := .int, accessFlags := 25, slot := 15, constantValue := 0 }, { name := "T_SHORT", type := .int, accessFlags := 25, slot := 16, constantValue := 0 }, { name := "T_INT", type := .int, accessFlags := 25, slot := 17, constantValue := 0 }, { name := "T_LONG", type := .int, accessFlags := 25, slot := 18, constantValue := 0 }, { name := "JLA", type := (.object "jdk/internal/access/JavaLangAccess"), accessFlags := 26, slot := 19, constantValue := 0 }, { name := "SOFT_MAX_ARRAY_LENGTH", type := .int, accessFlags := 25, slot := 20, constantValue := 0 }]
  methods := #[k15m0, k15m1]
  instanceTypes := #[]
  staticTypes := #[(.object "jdk/internal/misc/Unsafe"), .boolean, .int, .int, .int, .int, .int, .int, .int, .int, .int, .int, .int, .int, .int, .int, .int, .int, .int, (.object "jdk/internal/access/JavaLangAccess"), .int]
  resolved := Array.replicate 378 none
  statics := none }

def pool16 : Array CpInfo := pool [(1, .class_ 2), (0, u "java/lang/Math"), (1, .class_ 6), (1, u "java/lang/Object"), (0, u "<init>"), (0, u "()V"), (89, .class_ 100), (1, u "java/lang/Math$RandomNumberGeneratorHolder"), (71, u "negativeZeroFloatBits"), (0, u "J"), (2, u "negativeZeroDoubleBits"), (21, u "max"), (2, u "min"), (43, u "$assertionsDisabled"), (0, u "Z"), (88, u "(II)I"), (2, u "twoToTheDoubleScaleDown"), (0, u "D"), (4, u "twoToTheDoubleScaleUp"), (9, u "E"), (3, u "PI"), (2, u "TAU"), (2, u "DEGREES_TO_RADIANS"), (0, u "RADIANS_TO_DEGREES")] 94

def k16m0 : Method := { name := "<init>", desc := "()V", sig := { parameters := [], returnType := none }, accessFlags := 2, code := none }
def k16c1 : Code := { maxStack := 2, maxLocals := 2, code := jdk_29_method_65_code, exceptionTable := #[], attributes := #[] }
def k16m1 : Method := { name := "max", desc := "(II)I", sig := { parameters := [.int, .int], returnType := some .int }, accessFlags := 9, code := some k16c1 }
def k16c2 : Code := { maxStack := 2, maxLocals := 2, code := jdk_29_method_69_code, exceptionTable := #[], attributes := #[] }
def k16m2 : Method := { name := "min", desc := "(II)I", sig := { parameters := [.int, .int], returnType := some .int }, accessFlags := 9, code := some k16c2 }
/-- java/lang/Math -/
def k16 : Class := { plain "java/lang/Math" (some 0) with
  accessFlags := 49
  interfaces := #[]
  cf := some (fileOf pool16 1 #[.nestMembers #[98]] #[{ accessFlags := 2, nameIndex := 7, descriptorIndex := 8, attributes := #[] }, { accessFlags := 9, nameIndex := 198, descriptorIndex := 335, attributes := #[] }, { accessFlags := 9, nameIndex := 201, descriptorIndex := 335, attributes := #[] }] 49 4 #[] #[{ accessFlags := 25, nameIndex := 354, descriptorIndex := 339, attributes := #[] }, { accessFlags := 25, nameIndex := 358, descriptorIndex := 339, attributes := #[] }, { accessFlags := 25, nameIndex := 361, descriptorIndex := 339, attributes := #[] }, { accessFlags := 26, nameIndex := 364, descriptorIndex := 339, attributes := #[] }, { accessFlags := 26, nameIndex := 365, descriptorIndex := 339, attributes := #[] }, { accessFlags := 26, nameIndex := 172, descriptorIndex := 173, attributes := #[] }, { accessFlags := 26, nameIndex := 176, descriptorIndex := 173, attributes := #[] }, { accessFlags := 8, nameIndex := 344, descriptorIndex := 339, attributes := #[] }, { accessFlags := 8, nameIndex := 338, descriptorIndex := 339, attributes := #[] }, { accessFlags := 4120, nameIndex := 245, descriptorIndex := 246, attributes := #[] }])
  fields := #[{ name := "E", type := .double, accessFlags := 25, slot := 0, constantValue := 0 }, { name := "PI", type := .double, accessFlags := 25, slot := 1, constantValue := 0 }, { name := "TAU", type := .double, accessFlags := 25, slot := 2, constantValue := 0 }, { name := "DEGREES_TO_RADIANS", type := .double, accessFlags := 26, slot := 3, constantValue := 0 }, { name := "RADIANS_TO_DEGREES", type := .double, accessFlags := 26, slot := 4, constantValue := 0 }, { name := "negativeZeroFloatBits", type := .long, accessFlags := 26, slot := 5, constantValue := 0 }, { name := "negativeZeroDoubleBits", type := .long, accessFlags := 26, slot := 6, constantValue := 0 }, { name := "twoToTheDoubleScaleUp", type := .double, accessFlags := 8, slot := 7, constantValue := 0 }, { name := "twoToTheDoubleScaleDown", type := .double, accessFlags := 8, slot := 8, constantValue := 0 }, { name := "$assertionsDisabled", type := .boolean, accessFlags := 4120, slot := 9, constantValue := 0 }]
  methods := #[k16m0, k16m1, k16m2]
  instanceTypes := #[]
  staticTypes := #[.double, .double, .double, .double, .double, .long, .long, .double, .double, .boolean]
  resolved := Array.replicate 460 none
  statics := none }

def pool17 : Array CpInfo := pool [(2, .class_ 4), (1, u "java/lang/Object"), (0, u "<init>"), (0, u "()V"), (1, .class_ 10), (1, u "java/lang/System"), (0, u "allowSecurityManager"), (0, u "I"), (16, u "cons"), (0, u "Ljava/io/Console;"), (77, .class_ 110), (1, u "java/lang/System$CallersHolder"), (43, u "initialErrStream"), (0, u "Ljava/io/PrintStream;"), (19, u "security"), (0, u "Ljava/lang/SecurityManager;"), (31, .class_ 209), (0, u "java/lang/System$1"), (7, u "props"), (0, u "Ljava/util/Properties;"), (2, u "lineSeparator"), (0, u "Ljava/lang/String;"), (96, .class_ 321), (1, u "java/lang/System$LoggerFinder"), (5, .class_ 328), (0, u "java/lang/System$Logger"), (67, u "err"), (2, u "out"), (91, u "notSupportedJnuEncoding"), (15, u "in"), (17, u "initialIn"), (0, u "Ljava/io/InputStream;"), (35, u "bootLayer"), (0, u "Ljava/lang/ModuleLayer;"), (99, .class_ 664), (0, u "java/lang/System$2"), (9, u "NEVER"), (2, u "MAYBE"), (49, u "arraycopy"), (0, u "(Ljava/lang/Object;ILjava/lang/Object;II)V"), (72, .class_ 802), (0, u "java/lang/System$Logger$Level")] 31

def k17m0 : Method := { name := "<init>", desc := "()V", sig := { parameters := [], returnType := none }, accessFlags := 2, code := none }
def k17m1 : Method := { name := "arraycopy", desc := "(Ljava/lang/Object;ILjava/lang/Object;II)V", sig := { parameters := [(.object "java/lang/Object"), .int, (.object "java/lang/Object"), .int, .int], returnType := none }, accessFlags := 265, code := none }
/-- java/lang/System -/
def k17 : Class := { plain "java/lang/System" (some 0) with
  accessFlags := 49
  interfaces := #[]
  cf := some (fileOf pool17 8 #[.nestMembers #[319, 327, 801, 108, 663, 208]] #[{ accessFlags := 2, nameIndex := 5, descriptorIndex := 6, attributes := #[] }, { accessFlags := 265, nameIndex := 727, descriptorIndex := 728, attributes := #[] }] 49 2 #[] #[{ accessFlags := 25, nameIndex := 507, descriptorIndex := 526, attributes := #[] }, { accessFlags := 25, nameIndex := 399, descriptorIndex := 155, attributes := #[] }, { accessFlags := 25, nameIndex := 396, descriptorIndex := 155, attributes := #[] }, { accessFlags := 10, nameIndex := 525, descriptorIndex := 526, attributes := #[] }, { accessFlags := 26, nameIndex := 674, descriptorIndex := 12, attributes := #[] }, { accessFlags := 26, nameIndex := 677, descriptorIndex := 12, attributes := #[] }, { accessFlags := 10, nameIndex := 11, descriptorIndex := 12, attributes := #[] }, { accessFlags := 74, nameIndex := 175, descriptorIndex := 176, attributes := #[] }, { accessFlags := 10, nameIndex := 491, descriptorIndex := 222, attributes := #[] }, { accessFlags := 74, nameIndex := 29, descriptorIndex := 30, attributes := #[] }, { accessFlags := 74, nameIndex := 154, descriptorIndex := 155, attributes := #[] }, { accessFlags := 10, nameIndex := 217, descriptorIndex := 218, attributes := #[] }, { accessFlags := 10, nameIndex := 221, descriptorIndex := 222, attributes := #[] }, { accessFlags := 8, nameIndex := 562, descriptorIndex := 563, attributes := #[] }])
  fields := #[{ name := "in", type := (.object "java/io/InputStream"), accessFlags := 25, slot := 0, constantValue := 0 }, { name := "out", type := (.object "java/io/PrintStream"), accessFlags := 25, slot := 1, constantValue := 0 }, { name := "err", type := (.object "java/io/PrintStream"), accessFlags := 25, slot := 2, constantValue := 0 }, { name := "initialIn", type := (.object "java/io/InputStream"), accessFlags := 10, slot := 3, constantValue := 0 }, { name := "NEVER", type := .int, accessFlags := 26, slot := 4, constantValue := 0 }, { name := "MAYBE", type := .int, accessFlags := 26, slot := 5, constantValue := 0 }, { name := "allowSecurityManager", type := .int, accessFlags := 10, slot := 6, constantValue := 0 }, { name := "security", type := (.object "java/lang/SecurityManager"), accessFlags := 74, slot := 7, constantValue := 0 }, { name := "notSupportedJnuEncoding", type := (.object "java/lang/String"), accessFlags := 10, slot := 8, constantValue := 0 }, { name := "cons", type := (.object "java/io/Console"), accessFlags := 74, slot := 9, constantValue := 0 }, { name := "initialErrStream", type := (.object "java/io/PrintStream"), accessFlags := 74, slot := 10, constantValue := 0 }, { name := "props", type := (.object "java/util/Properties"), accessFlags := 10, slot := 11, constantValue := 0 }, { name := "lineSeparator", type := (.object "java/lang/String"), accessFlags := 10, slot := 12, constantValue := 0 }, { name := "bootLayer", type := (.object "java/lang/ModuleLayer"), accessFlags := 8, slot := 13, constantValue := 0 }]
  methods := #[k17m0, k17m1]
  instanceTypes := #[]
  staticTypes := #[(.object "java/io/InputStream"), (.object "java/io/PrintStream"), (.object "java/io/PrintStream"), (.object "java/io/InputStream"), .int, .int, .int, (.object "java/lang/SecurityManager"), (.object "java/lang/String"), (.object "java/io/Console"), (.object "java/io/PrintStream"), (.object "java/util/Properties"), (.object "java/lang/String"), (.object "java/lang/ModuleLayer")]
  resolved := Array.replicate 834 none
  statics := none }

def pool18 : Array CpInfo := pool [(2, .class_ 4), (1, u "java/lang/Object"), (0, u "<init>"), (0, u "()V"), (17, .class_ 26), (1, u "jdk/internal/util/Preconditions"), (6, u "checkIndex"), (21, .class_ 56), (0, u "jdk/internal/util/Preconditions$4"), (57, .class_ 115), (0, u "jdk/internal/util/Preconditions$1"), (7, u "SIOOBE_FORMATTER"), (0, u "Ljava/util/function/BiFunction;"), (0, .class_ 126), (0, u "jdk/internal/util/Preconditions$2"), (3, u "AIOOBE_FORMATTER"), (0, .class_ 132), (0, u "jdk/internal/util/Preconditions$3"), (3, u "IOOBE_FORMATTER"), (41, u "(IILjava/util/function/BiFunction;)I")] 15

def k18m0 : Method := { name := "<init>", desc := "()V", sig := { parameters := [], returnType := none }, accessFlags := 1, code := none }
def k18c1 : Code := { maxStack := 3, maxLocals := 3, code := jdk_41_method_11_code, exceptionTable := #[], attributes := #[] }
def k18m1 : Method := { name := "checkIndex", desc := "(IILjava/util/function/BiFunction;)I", sig := { parameters := [.int, .int, (.object "java/util/function/BiFunction")], returnType := some .int }, accessFlags := 9, code := some k18c1 }
/-- jdk/internal/util/Preconditions -/
def k18 : Class := { plain "jdk/internal/util/Preconditions" (some 0) with
  accessFlags := 33
  interfaces := #[]
  cf := some (fileOf pool18 24 #[.nestMembers #[55, 131, 125, 114]] #[{ accessFlags := 1, nameIndex := 5, descriptorIndex := 6, attributes := #[] }, { accessFlags := 9, nameIndex := 33, descriptorIndex := 178, attributes := #[] }] 33 2 #[] #[{ accessFlags := 25, nameIndex := 123, descriptorIndex := 124, attributes := #[] }, { accessFlags := 25, nameIndex := 130, descriptorIndex := 124, attributes := #[] }, { accessFlags := 25, nameIndex := 136, descriptorIndex := 124, attributes := #[] }])
  fields := #[{ name := "SIOOBE_FORMATTER", type := (.object "java/util/function/BiFunction"), accessFlags := 25, slot := 0, constantValue := 0 }, { name := "AIOOBE_FORMATTER", type := (.object "java/util/function/BiFunction"), accessFlags := 25, slot := 1, constantValue := 0 }, { name := "IOOBE_FORMATTER", type := (.object "java/util/function/BiFunction"), accessFlags := 25, slot := 2, constantValue := 0 }]
  methods := #[k18m0, k18m1]
  instanceTypes := #[]
  staticTypes := #[(.object "java/util/function/BiFunction"), (.object "java/util/function/BiFunction"), (.object "java/util/function/BiFunction")]
  resolved := Array.replicate 194 none
  statics := some 2 }

/-- the primitive byte -/
def k19 : Class := { plain "byte" none with kind := .primitive 'B', accessFlags := 0x411 }
/-- [B -/
def k20 : Class := { plain "[B" (some 0) with kind := .array 19 .byte, interfaces := #[13, 6], accessFlags := 1041 }

/-- the primitive char -/
def k21 : Class := { plain "char" none with kind := .primitive 'C', accessFlags := 0x411 }
/-- [C -/
def k22 : Class := { plain "[C" (some 0) with kind := .array 21 .char, interfaces := #[13, 6], accessFlags := 1041 }

/-- the primitive int -/
def k23 : Class := { plain "int" none with kind := .primitive 'I', accessFlags := 0x411 }
/-- [I -/
def k24 : Class := { plain "[I" (some 0) with kind := .array 23 .int, interfaces := #[13, 6], accessFlags := 1041 }

def heap : Heap := #[{ cls := 2, slots := #[.ref 3], vm := .statics 2 },
  { cls := 11, slots := #[.long 0, .int 1, .null, .int 0, .null, .int 0, .int 0], vm := .statics 11 },
  { cls := 18, slots := #[.null, .null, .null], vm := .statics 18 },
  { cls := 22, slots := #[.int 48, .int 49, .int 50, .int 51, .int 52, .int 53, .int 54, .int 55, .int 56, .int 57, .int 65, .int 66, .int 67, .int 68, .int 69, .int 70], vm := .none }]
def classes : Array Class := #[k0, k1, k2, k3, k4, k5, k6, k7, k8, k9, k10, k11, k12, k13, k14, k15, k16, k17, k18, k19, k20, k21, k22, k23, k24]
def interned : List (Array UInt16 × Addr) := []
def slotsUsed : Nat := 27
def theMethod : MethodId := ⟨1, 5⟩
def args0 : Array Value := #[.int 1, .int 2, .int 3, .int 4]
def aboutOver (below : List Frame) : State where
  vm := { classes := classes, interned := interned.toArray }
  heap := heap
  slotsUsed := slotsUsed
  threads := #[{ frames := .invoking theMethod args0 :: below }]
def below0 : List Frame := [.native { method := ⟨0, 0⟩, args := #[] }]
def about1 : State := aboutOver below0
def p0 : Program := .bare "" "" ""
def e0 : Env := launch0.env 0 0 0
theorem w_frames : about1.frames = Frame.invoking theMethod args0 :: below0 := rfl
set_option maxRecDepth 65536 in
theorem w_args : argsFit about1.vm theMethod args0 = true := by decide +kernel
set_option maxRecDepth 65536 in
theorem w_heap : heapFits about1 = true := by decide +kernel
set_option maxRecDepth 65536 in
theorem w_runnable : about1.curStatus? = some .runnable := by decide +kernel
set_option maxRecDepth 65536 in
theorem w_alone : about1.alone = true := by decide +kernel
set_option maxRecDepth 65536 in
theorem w_named : about1.methodNamed? x = some theMethod := by decide +kernel
set_option maxRecDepth 65536 in
theorem w_hears : about1.hears theMethod below0 = true := by decide +kernel
set_option maxRecDepth 65536 in
theorem w_ripe : about1.ripe theMethod args0 below0 = true := by decide +kernel
theorem w_running : about1.status = .running := rfl
set_option maxRecDepth 65536 in
theorem w_room : about1.hasRoom e0.platform room_1 = true :=
  launch0.hasRoom_least _ room_1 (by decide +kernel) (by decide +kernel) (by decide +kernel) (by decide +kernel) (by decide +kernel) (by decide +kernel)
theorem allAtoms_all (ts : List Jvm.Cond) (a : Array Jvm.Value) (st : Jvm.State) : (allAtoms ts).before a st = ts.all (fun c => c.before a st) := by
  induction ts with
  | nil => rfl
  | cons c t ih =>
    show (Jvm.Cond.and c (allAtoms t)).before a st = _
    rw [Jvm.Cond.before_and, ih, List.all_cons]
def words1 : List Jvm.Cond := Jvm.Cond.code x code maxLocals ret :: tables_1
/-- a 'code' word, met by the world's own term for the bytes: nothing is compared byte by byte -/
theorem code_word {y : MethodName} {bytes : ByteArray} {mx : Nat} {rt : Option FieldType} {a : Array Value} {s : State} {m : MethodId} {meth : Method} {c : Code} (h1 : s.methodNamed? y = some m) (h2 : s.vm.method? m = some meth) (h3 : meth.code = some c) (h4 : c.code = bytes)
    (h5 : (c.maxLocals == mx && c.exceptionTable.isEmpty && decide (c.maxStack ≤ mostOperands) && decide (meth.sig.returnType = rt) && !meth.locks && decide (parseMethodDescriptor y.desc = some meth.sig)) = true) : (Jvm.Cond.code y bytes mx rt).before a s = true := by
  simp only [Bool.and_eq_true, beq_iff_eq, Bool.not_eq_true', decide_eq_true_eq] at h5
  obtain ⟨⟨⟨⟨⟨g1, g2⟩, g3⟩, g4⟩, g5⟩, g6⟩ := h5
  simp [Cond.before, Cond.holds, Cond.value, h1, h2, h3, h4, g1, g2, g3, g4, g5, g6]
def isCode : Jvm.Cond → Bool
  | .code _ _ _ _ => true
  | _ => false
theorem all_split {L : List Jvm.Cond} {P : Jvm.Cond → Bool} (h1 : L.all (fun c => isCode c || P c) = true) (h2 : ∀ c ∈ L.filter isCode, P c = true) : L.all P = true := by
  refine List.all_eq_true.mpr fun c hc => ?_
  have h := List.all_eq_true.mp h1 c hc
  rcases Bool.eq_false_or_eq_true (isCode c) with hi | hi
  · exact h2 c (List.mem_filter.mpr ⟨hc, hi⟩)
  · simpa [hi] using h
set_option maxRecDepth 65536 in
theorem w_c0 : (Jvm.Cond.code x code maxLocals ret).before args0 about1 = true := code_word (m := ⟨1, 5⟩) (meth := k1m5) (c := k1c5) (by decide +kernel) rfl rfl rfl (by decide +kernel)
set_option maxRecDepth 65536 in
theorem w_c1 : (Jvm.Cond.code ({ cls := "com/example/espalier/espalier/Uris", name := "encode", desc := "([B)Ljava/lang/String;" } : Jvm.MethodName) prog_29_method_2_code (8 : Nat) (Option.some (Jvm.ClassFile.FieldType.object "java/lang/String"))).before args0 about1 = true := code_word (m := ⟨2, 1⟩) (meth := k2m1) (c := k2c1) (by decide +kernel) rfl rfl rfl (by decide +kernel)
set_option maxRecDepth 65536 in
theorem w_c2 : (Jvm.Cond.code ({ cls := "java/lang/StringBuilder", name := "<init>", desc := "(I)V" } : Jvm.MethodName) jdk_67_method_2_code (2 : Nat) (Option.none : Option Jvm.ClassFile.FieldType)).before args0 about1 = true := code_word (m := ⟨8, 1⟩) (meth := k8m1) (c := k8c1) (by decide +kernel) rfl rfl rfl (by decide +kernel)
set_option maxRecDepth 65536 in
theorem w_c3 : (Jvm.Cond.code ({ cls := "java/lang/AbstractStringBuilder", name := "<init>", desc := "(I)V" } : Jvm.MethodName) jdk_68_method_2_code (2 : Nat) (Option.none : Option Jvm.ClassFile.FieldType)).before args0 about1 = true := code_word (m := ⟨5, 1⟩) (meth := k5m1) (c := k5c1) (by decide +kernel) rfl rfl rfl (by decide +kernel)
set_option maxRecDepth 65536 in
theorem w_c4 : (Jvm.Cond.code ({ cls := "java/lang/Object", name := "<init>", desc := "()V" } : Jvm.MethodName) object_method_1_code (1 : Nat) (Option.none : Option Jvm.ClassFile.FieldType)).before args0 about1 = true := code_word (m := ⟨0, 0⟩) (meth := k0m0) (c := k0c0) (by decide +kernel) rfl rfl rfl (by decide +kernel)
set_option maxRecDepth 65536 in
theorem w_c5 : (Jvm.Cond.code ({ cls := "java/lang/StringBuilder", name := "toString", desc := "()Ljava/lang/String;" } : Jvm.MethodName) jdk_67_method_42_code (1 : Nat) (Option.some (Jvm.ClassFile.FieldType.object "java/lang/String"))).before args0 about1 = true := code_word (m := ⟨8, 3⟩) (meth := k8m3) (c := k8c3) (by decide +kernel) rfl rfl rfl (by decide +kernel)
set_option maxRecDepth 65536 in
theorem w_c6 : (Jvm.Cond.code ({ cls := "java/lang/String", name := "<init>", desc := "(Ljava/lang/StringBuilder;)V" } : Jvm.MethodName) jdk_42_method_53_code (2 : Nat) (Option.none : Option Jvm.ClassFile.FieldType)).before args0 about1 = true := code_word (m := ⟨11, 1⟩) (meth := k11m1) (c := k11c1) (by decide +kernel) rfl rfl rfl (by decide +kernel)
set_option maxRecDepth 65536 in
theorem w_c7 : (Jvm.Cond.code ({ cls := "java/lang/String", name := "<init>", desc := "(Ljava/lang/AbstractStringBuilder;Ljava/lang/Void;)V" } : Jvm.MethodName) jdk_42_method_150_code (5 : Nat) (Option.none : Option Jvm.ClassFile.FieldType)).before args0 about1 = true := code_word (m := ⟨11, 4⟩) (meth := k11m4) (c := k11c4) (by decide +kernel) rfl rfl rfl (by decide +kernel)
set_option maxRecDepth 65536 in
theorem w_c8 : (Jvm.Cond.code ({ cls := "java/lang/AbstractStringBuilder", name := "getValue", desc := "()[B" } : Jvm.MethodName) jdk_68_method_64_code (1 : Nat) (Option.some (Jvm.ClassFile.FieldType.array Jvm.ClassFile.FieldType.byte))).before args0 about1 = true := code_word (m := ⟨5, 6⟩) (meth := k5m6) (c := k5c6) (by decide +kernel) rfl rfl rfl (by decide +kernel)
set_option maxRecDepth 65536 in
theorem w_c9 : (Jvm.Cond.code ({ cls := "java/lang/StringBuilder", name := "length", desc := "()I" } : Jvm.MethodName) jdk_67_method_93_code (1 : Nat) (Option.some Jvm.ClassFile.FieldType.int)).before args0 about1 = true := code_word (m := ⟨8, 4⟩) (meth := k8m4) (c := k8c4) (by decide +kernel) rfl rfl rfl (by decide +kernel)
set_option maxRecDepth 65536 in
theorem w_c10 : (Jvm.Cond.code ({ cls := "java/lang/AbstractStringBuilder", name := "length", desc := "()I" } : Jvm.MethodName) jdk_68_method_6_code (1 : Nat) (Option.some Jvm.ClassFile.FieldType.int)).before args0 about1 = true := code_word (m := ⟨5, 2⟩) (meth := k5m2) (c := k5c2) (by decide +kernel) rfl rfl rfl (by decide +kernel)
set_option maxRecDepth 65536 in
theorem w_c11 : (Jvm.Cond.code ({ cls := "java/lang/AbstractStringBuilder", name := "isLatin1", desc := "()Z" } : Jvm.MethodName) jdk_68_method_68_code (1 : Nat) (Option.some Jvm.ClassFile.FieldType.boolean)).before args0 about1 = true := code_word (m := ⟨5, 7⟩) (meth := k5m7) (c := k5c7) (by decide +kernel) rfl rfl rfl (by decide +kernel)
set_option maxRecDepth 65536 in
theorem w_c12 : (Jvm.Cond.code ({ cls := "java/util/Arrays", name := "copyOfRange", desc := "([BII)[B" } : Jvm.MethodName) jdk_65_method_132_code (3 : Nat) (Option.some (Jvm.ClassFile.FieldType.array Jvm.ClassFile.FieldType.byte))).before args0 about1 = true := code_word (m := ⟨12, 3⟩) (meth := k12m3) (c := k12c3) (by decide +kernel) rfl rfl rfl (by decide +kernel)
set_option maxRecDepth 65536 in
theorem w_c13 : (Jvm.Cond.code ({ cls := "java/lang/String", name := "length", desc := "()I" } : Jvm.MethodName) jdk_42_method_54_code (1 : Nat) (Option.some Jvm.ClassFile.FieldType.int)).before args0 about1 = true := code_word (m := ⟨11, 2⟩) (meth := k11m2) (c := k11c2) (by decide +kernel) rfl rfl rfl (by decide +kernel)
set_option maxRecDepth 65536 in
theorem w_c14 : (Jvm.Cond.code ({ cls := "java/lang/String", name := "coder", desc := "()B" } : Jvm.MethodName) jdk_42_method_152_code (1 : Nat) (Option.some Jvm.ClassFile.FieldType.byte)).before args0 about1 = true := code_word (m := ⟨11, 5⟩) (meth := k11m5) (c := k11c5) (by decide +kernel) rfl rfl rfl (by decide +kernel)
set_option maxRecDepth 65536 in
theorem w_c15 : (Jvm.Cond.code ({ cls := "java/lang/StringBuilder", name := "append", desc := "(C)Ljava/lang/StringBuilder;" } : Jvm.MethodName) jdk_67_method_14_code (2 : Nat) (Option.some (Jvm.ClassFile.FieldType.object "java/lang/StringBuilder"))).before args0 about1 = true := code_word (m := ⟨8, 2⟩) (meth := k8m2) (c := k8c2) (by decide +kernel) rfl rfl rfl (by decide +kernel)
set_option maxRecDepth 65536 in
theorem w_c16 : (Jvm.Cond.code ({ cls := "java/lang/AbstractStringBuilder", name := "append", desc := "(C)Ljava/lang/AbstractStringBuilder;" } : Jvm.MethodName) jdk_68_method_31_code (2 : Nat) (Option.some (Jvm.ClassFile.FieldType.object "java/lang/AbstractStringBuilder"))).before args0 about1 = true := code_word (m := ⟨5, 5⟩) (meth := k5m5) (c := k5c5) (by decide +kernel) rfl rfl rfl (by decide +kernel)
set_option maxRecDepth 65536 in
theorem w_c17 : (Jvm.Cond.code ({ cls := "java/lang/AbstractStringBuilder", name := "ensureCapacityInternal", desc := "(I)V" } : Jvm.MethodName) jdk_68_method_9_code (3 : Nat) (Option.none : Option Jvm.ClassFile.FieldType)).before args0 about1 = true := code_word (m := ⟨5, 3⟩) (meth := k5m3) (c := k5c3) (by decide +kernel) rfl rfl rfl (by decide +kernel)
set_option maxRecDepth 65536 in
theorem w_c18 : (Jvm.Cond.code ({ cls := "java/lang/StringLatin1", name := "canEncode", desc := "(C)Z" } : Jvm.MethodName) jdk_43_method_3_code (1 : Nat) (Option.some Jvm.ClassFile.FieldType.boolean)).before args0 about1 = true := code_word (m := ⟨14, 2⟩) (meth := k14m2) (c := k14c2) (by decide +kernel) rfl rfl rfl (by decide +kernel)
set_option maxRecDepth 65536 in
theorem w_c19 : (Jvm.Cond.code ({ cls := "java/lang/AbstractStringBuilder", name := "newCapacity", desc := "(I)I" } : Jvm.MethodName) jdk_68_method_10_code (6 : Nat) (Option.some Jvm.ClassFile.FieldType.int)).before args0 about1 = true := code_word (m := ⟨5, 4⟩) (meth := k5m4) (c := k5c4) (by decide +kernel) rfl rfl rfl (by decide +kernel)
set_option maxRecDepth 65536 in
theorem w_c20 : (Jvm.Cond.code ({ cls := "jdk/internal/util/ArraysSupport", name := "newLength", desc := "(III)I" } : Jvm.MethodName) jdk_48_method_27_code (4 : Nat) (Option.some Jvm.ClassFile.FieldType.int)).before args0 about1 = true := code_word (m := ⟨15, 1⟩) (meth := k15m1) (c := k15c1) (by decide +kernel) rfl rfl rfl (by decide +kernel)
set_option maxRecDepth 65536 in
theorem w_c21 : (Jvm.Cond.code ({ cls := "java/lang/Math", name := "max", desc := "(II)I" } : Jvm.MethodName) jdk_29_method_65_code (2 : Nat) (Option.some Jvm.ClassFile.FieldType.int)).before args0 about1 = true := code_word (m := ⟨16, 1⟩) (meth := k16m1) (c := k16c1) (by decide +kernel) rfl rfl rfl (by decide +kernel)
set_option maxRecDepth 65536 in
theorem w_c22 : (Jvm.Cond.code ({ cls := "java/util/Arrays", name := "copyOf", desc := "([BI)[B" } : Jvm.MethodName) jdk_65_method_121_code (3 : Nat) (Option.some (Jvm.ClassFile.FieldType.array Jvm.ClassFile.FieldType.byte))).before args0 about1 = true := code_word (m := ⟨12, 1⟩) (meth := k12m1) (c := k12c1) (by decide +kernel) rfl rfl rfl (by decide +kernel)
set_option maxRecDepth 65536 in
theorem w_c23 : (Jvm.Cond.code ({ cls := "java/lang/Math", name := "min", desc := "(II)I" } : Jvm.MethodName) jdk_29_method_69_code (2 : Nat) (Option.some Jvm.ClassFile.FieldType.int)).before args0 about1 = true := code_word (m := ⟨16, 2⟩) (meth := k16m2) (c := k16c2) (by decide +kernel) rfl rfl rfl (by decide +kernel)
set_option maxRecDepth 65536 in
theorem w_c24 : (Jvm.Cond.code ({ cls := "java/util/Arrays", name := "copyOfRangeByte", desc := "([BII)[B" } : Jvm.MethodName) jdk_65_method_133_code (5 : Nat) (Option.some (Jvm.ClassFile.FieldType.array Jvm.ClassFile.FieldType.byte))).before args0 about1 = true := code_word (m := ⟨12, 4⟩) (meth := k12m4) (c := k12c4) (by decide +kernel) rfl rfl rfl (by decide +kernel)
set_option maxRecDepth 65536 in
theorem w_c25 : (Jvm.Cond.code ({ cls := "java/util/Arrays", name := "checkLength", desc := "(II)V" } : Jvm.MethodName) jdk_65_method_131_code (2 : Nat) (Option.none : Option Jvm.ClassFile.FieldType)).before args0 about1 = true := code_word (m := ⟨12, 2⟩) (meth := k12m2) (c := k12c2) (by decide +kernel) rfl rfl rfl (by decide +kernel)
set_option maxRecDepth 65536 in
theorem w_c26 : (Jvm.Cond.code ({ cls := "com/example/espalier/espalier/UrisEncodePinLaw", name := "width", desc := "(I)I" } : Jvm.MethodName) method_3_code (1 : Nat) (Option.some Jvm.ClassFile.FieldType.int)).before args0 about1 = true := code_word (m := ⟨1, 2⟩) (meth := k1m2) (c := k1c2) (by decide +kernel) rfl rfl rfl (by decide +kernel)
set_option maxRecDepth 65536 in
theorem w_c27 : (Jvm.Cond.code ({ cls := "com/example/espalier/espalier/UrisEncodePinLaw", name := "unreserved", desc := "(I)Z" } : Jvm.MethodName) method_2_code (1 : Nat) (Option.some Jvm.ClassFile.FieldType.boolean)).before args0 about1 = true := code_word (m := ⟨1, 1⟩) (meth := k1m1) (c := k1c1) (by decide +kernel) rfl rfl rfl (by decide +kernel)
set_option maxRecDepth 65536 in
theorem w_c28 : (Jvm.Cond.code ({ cls := "com/example/espalier/espalier/UrisEncodePinLaw", name := "at", desc := "(Ljava/lang/String;II)Z" } : Jvm.MethodName) method_5_code (3 : Nat) (Option.some Jvm.ClassFile.FieldType.boolean)).before args0 about1 = true := code_word (m := ⟨1, 4⟩) (meth := k1m4) (c := k1c4) (by decide +kernel) rfl rfl rfl (by decide +kernel)
set_option maxRecDepth 65536 in
theorem w_c29 : (Jvm.Cond.code ({ cls := "java/lang/String", name := "charAt", desc := "(I)C" } : Jvm.MethodName) jdk_42_method_56_code (2 : Nat) (Option.some Jvm.ClassFile.FieldType.char)).before args0 about1 = true := code_word (m := ⟨11, 3⟩) (meth := k11m3) (c := k11c3) (by decide +kernel) rfl rfl rfl (by decide +kernel)
set_option maxRecDepth 65536 in
theorem w_c30 : (Jvm.Cond.code ({ cls := "java/lang/String", name := "isLatin1", desc := "()Z" } : Jvm.MethodName) jdk_42_method_154_code (1 : Nat) (Option.some Jvm.ClassFile.FieldType.boolean)).before args0 about1 = true := code_word (m := ⟨11, 6⟩) (meth := k11m6) (c := k11c6) (by decide +kernel) rfl rfl rfl (by decide +kernel)
set_option maxRecDepth 65536 in
theorem w_c31 : (Jvm.Cond.code ({ cls := "java/lang/StringLatin1", name := "charAt", desc := "([BI)C" } : Jvm.MethodName) jdk_43_method_2_code (2 : Nat) (Option.some Jvm.ClassFile.FieldType.char)).before args0 about1 = true := code_word (m := ⟨14, 1⟩) (meth := k14m1) (c := k14c1) (by decide +kernel) rfl rfl rfl (by decide +kernel)
set_option maxRecDepth 65536 in
theorem w_c32 : (Jvm.Cond.code ({ cls := "java/lang/String", name := "checkIndex", desc := "(II)V" } : Jvm.MethodName) jdk_42_method_155_code (2 : Nat) (Option.none : Option Jvm.ClassFile.FieldType)).before args0 about1 = true := code_word (m := ⟨11, 7⟩) (meth := k11m7) (c := k11c7) (by decide +kernel) rfl rfl rfl (by decide +kernel)
set_option maxRecDepth 65536 in
theorem w_c33 : (Jvm.Cond.code ({ cls := "jdk/internal/util/Preconditions", name := "checkIndex", desc := "(IILjava/util/function/BiFunction;)I" } : Jvm.MethodName) jdk_41_method_11_code (3 : Nat) (Option.some Jvm.ClassFile.FieldType.int)).before args0 about1 = true := code_word (m := ⟨18, 1⟩) (meth := k18m1) (c := k18c1) (by decide +kernel) rfl rfl rfl (by decide +kernel)
set_option maxRecDepth 65536 in
theorem w_c34 : (Jvm.Cond.code ({ cls := "com/example/espalier/espalier/UrisEncodePinLaw", name := "hex", desc := "(I)C" } : Jvm.MethodName) method_4_code (1 : Nat) (Option.some Jvm.ClassFile.FieldType.char)).before args0 about1 = true := code_word (m := ⟨1, 3⟩) (meth := k1m3) (c := k1c3) (by decide +kernel) rfl rfl rfl (by decide +kernel)
def codes1 : List Jvm.Cond := [Jvm.Cond.code x code maxLocals ret, Jvm.Cond.code ({ cls := "com/example/espalier/espalier/Uris", name := "encode", desc := "([B)Ljava/lang/String;" } : Jvm.MethodName) prog_29_method_2_code (8 : Nat) (Option.some (Jvm.ClassFile.FieldType.object "java/lang/String")), Jvm.Cond.code ({ cls := "java/lang/StringBuilder", name := "<init>", desc := "(I)V" } : Jvm.MethodName) jdk_67_method_2_code (2 : Nat) (Option.none : Option Jvm.ClassFile.FieldType), Jvm.Cond.code ({ cls := "java/lang/AbstractStringBuilder", name := "<init>", desc := "(I)V" } : Jvm.MethodName) jdk_68_method_2_code (2 : Nat) (Option.none : Option Jvm.ClassFile.FieldType), Jvm.Cond.code ({ cls := "java/lang/Object", name := "<init>", desc := "()V" } : Jvm.MethodName) object_method_1_code (1 : Nat) (Option.none : Option Jvm.ClassFile.FieldType), Jvm.Cond.code ({ cls := "java/lang/StringBuilder", name := "toString", desc := "()Ljava/lang/String;" } : Jvm.MethodName) jdk_67_method_42_code (1 : Nat) (Option.some (Jvm.ClassFile.FieldType.object "java/lang/String")), Jvm.Cond.code ({ cls := "java/lang/String", name := "<init>", desc := "(Ljava/lang/StringBuilder;)V" } : Jvm.MethodName) jdk_42_method_53_code (2 : Nat) (Option.none : Option Jvm.ClassFile.FieldType), Jvm.Cond.code ({ cls := "java/lang/String", name := "<init>", desc := "(Ljava/lang/AbstractStringBuilder;Ljava/lang/Void;)V" } : Jvm.MethodName) jdk_42_method_150_code (5 : Nat) (Option.none : Option Jvm.ClassFile.FieldType), Jvm.Cond.code ({ cls := "java/lang/AbstractStringBuilder", name := "getValue", desc := "()[B" } : Jvm.MethodName) jdk_68_method_64_code (1 : Nat) (Option.some (Jvm.ClassFile.FieldType.array Jvm.ClassFile.FieldType.byte)), Jvm.Cond.code ({ cls := "java/lang/StringBuilder", name := "length", desc := "()I" } : Jvm.MethodName) jdk_67_method_93_code (1 : Nat) (Option.some Jvm.ClassFile.FieldType.int), Jvm.Cond.code ({ cls := "java/lang/AbstractStringBuilder", name := "length", desc := "()I" } : Jvm.MethodName) jdk_68_method_6_code (1 : Nat) (Option.some Jvm.ClassFile.FieldType.int), Jvm.Cond.code ({ cls := "java/lang/AbstractStringBuilder", name := "isLatin1", desc := "()Z" } : Jvm.MethodName) jdk_68_method_68_code (1 : Nat) (Option.some Jvm.ClassFile.FieldType.boolean), Jvm.Cond.code ({ cls := "java/util/Arrays", name := "copyOfRange", desc := "([BII)[B" } : Jvm.MethodName) jdk_65_method_132_code (3 : Nat) (Option.some (Jvm.ClassFile.FieldType.array Jvm.ClassFile.FieldType.byte)), Jvm.Cond.code ({ cls := "java/lang/String", name := "length", desc := "()I" } : Jvm.MethodName) jdk_42_method_54_code (1 : Nat) (Option.some Jvm.ClassFile.FieldType.int), Jvm.Cond.code ({ cls := "java/lang/String", name := "coder", desc := "()B" } : Jvm.MethodName) jdk_42_method_152_code (1 : Nat) (Option.some Jvm.ClassFile.FieldType.byte), Jvm.Cond.code ({ cls := "java/lang/StringBuilder", name := "append", desc := "(C)Ljava/lang/StringBuilder;" } : Jvm.MethodName) jdk_67_method_14_code (2 : Nat) (Option.some (Jvm.ClassFile.FieldType.object "java/lang/StringBuilder")), Jvm.Cond.code ({ cls := "java/lang/AbstractStringBuilder", name := "append", desc := "(C)Ljava/lang/AbstractStringBuilder;" } : Jvm.MethodName) jdk_68_method_31_code (2 : Nat) (Option.some (Jvm.ClassFile.FieldType.object "java/lang/AbstractStringBuilder")), Jvm.Cond.code ({ cls := "java/lang/AbstractStringBuilder", name := "ensureCapacityInternal", desc := "(I)V" } : Jvm.MethodName) jdk_68_method_9_code (3 : Nat) (Option.none : Option Jvm.ClassFile.FieldType), Jvm.Cond.code ({ cls := "java/lang/StringLatin1", name := "canEncode", desc := "(C)Z" } : Jvm.MethodName) jdk_43_method_3_code (1 : Nat) (Option.some Jvm.ClassFile.FieldType.boolean), Jvm.Cond.code ({ cls := "java/lang/AbstractStringBuilder", name := "newCapacity", desc := "(I)I" } : Jvm.MethodName) jdk_68_method_10_code (6 : Nat) (Option.some Jvm.ClassFile.FieldType.int), Jvm.Cond.code ({ cls := "jdk/internal/util/ArraysSupport", name := "newLength", desc := "(III)I" } : Jvm.MethodName) jdk_48_method_27_code (4 : Nat) (Option.some Jvm.ClassFile.FieldType.int), Jvm.Cond.code ({ cls := "java/lang/Math", name := "max", desc := "(II)I" } : Jvm.MethodName) jdk_29_method_65_code (2 : Nat) (Option.some Jvm.ClassFile.FieldType.int), Jvm.Cond.code ({ cls := "java/util/Arrays", name := "copyOf", desc := "([BI)[B" } : Jvm.MethodName) jdk_65_method_121_code (3 : Nat) (Option.some (Jvm.ClassFile.FieldType.array Jvm.ClassFile.FieldType.byte)), Jvm.Cond.code ({ cls := "java/lang/Math", name := "min", desc := "(II)I" } : Jvm.MethodName) jdk_29_method_69_code (2 : Nat) (Option.some Jvm.ClassFile.FieldType.int), Jvm.Cond.code ({ cls := "java/util/Arrays", name := "copyOfRangeByte", desc := "([BII)[B" } : Jvm.MethodName) jdk_65_method_133_code (5 : Nat) (Option.some (Jvm.ClassFile.FieldType.array Jvm.ClassFile.FieldType.byte)), Jvm.Cond.code ({ cls := "java/util/Arrays", name := "checkLength", desc := "(II)V" } : Jvm.MethodName) jdk_65_method_131_code (2 : Nat) (Option.none : Option Jvm.ClassFile.FieldType), Jvm.Cond.code ({ cls := "com/example/espalier/espalier/UrisEncodePinLaw", name := "width", desc := "(I)I" } : Jvm.MethodName) method_3_code (1 : Nat) (Option.some Jvm.ClassFile.FieldType.int), Jvm.Cond.code ({ cls := "com/example/espalier/espalier/UrisEncodePinLaw", name := "unreserved", desc := "(I)Z" } : Jvm.MethodName) method_2_code (1 : Nat) (Option.some Jvm.ClassFile.FieldType.boolean), Jvm.Cond.code ({ cls := "com/example/espalier/espalier/UrisEncodePinLaw", name := "at", desc := "(Ljava/lang/String;II)Z" } : Jvm.MethodName) method_5_code (3 : Nat) (Option.some Jvm.ClassFile.FieldType.boolean), Jvm.Cond.code ({ cls := "java/lang/String", name := "charAt", desc := "(I)C" } : Jvm.MethodName) jdk_42_method_56_code (2 : Nat) (Option.some Jvm.ClassFile.FieldType.char), Jvm.Cond.code ({ cls := "java/lang/String", name := "isLatin1", desc := "()Z" } : Jvm.MethodName) jdk_42_method_154_code (1 : Nat) (Option.some Jvm.ClassFile.FieldType.boolean), Jvm.Cond.code ({ cls := "java/lang/StringLatin1", name := "charAt", desc := "([BI)C" } : Jvm.MethodName) jdk_43_method_2_code (2 : Nat) (Option.some Jvm.ClassFile.FieldType.char), Jvm.Cond.code ({ cls := "java/lang/String", name := "checkIndex", desc := "(II)V" } : Jvm.MethodName) jdk_42_method_155_code (2 : Nat) (Option.none : Option Jvm.ClassFile.FieldType), Jvm.Cond.code ({ cls := "jdk/internal/util/Preconditions", name := "checkIndex", desc := "(IILjava/util/function/BiFunction;)I" } : Jvm.MethodName) jdk_41_method_11_code (3 : Nat) (Option.some Jvm.ClassFile.FieldType.int), Jvm.Cond.code ({ cls := "com/example/espalier/espalier/UrisEncodePinLaw", name := "hex", desc := "(I)C" } : Jvm.MethodName) method_4_code (1 : Nat) (Option.some Jvm.ClassFile.FieldType.char)]
set_option maxRecDepth 65536 in
theorem codes_eq : words1.filter isCode = codes1 := rfl
theorem w_codes : ∀ c ∈ words1.filter isCode, c.before args0 about1 = true := by
  rw [codes_eq]
  intro c hc
  simp only [codes1, List.mem_cons, List.not_mem_nil, or_false] at hc
  rcases hc with rfl | rfl | rfl | rfl | rfl | rfl | rfl | rfl | rfl | rfl | rfl | rfl | rfl | rfl | rfl | rfl | rfl | rfl | rfl | rfl | rfl | rfl | rfl | rfl | rfl | rfl | rfl | rfl | rfl | rfl | rfl | rfl | rfl | rfl | rfl
  · exact w_c0
  · exact w_c1
  · exact w_c2
  · exact w_c3
  · exact w_c4
  · exact w_c5
  · exact w_c6
  · exact w_c7
  · exact w_c8
  · exact w_c9
  · exact w_c10
  · exact w_c11
  · exact w_c12
  · exact w_c13
  · exact w_c14
  · exact w_c15
  · exact w_c16
  · exact w_c17
  · exact w_c18
  · exact w_c19
  · exact w_c20
  · exact w_c21
  · exact w_c22
  · exact w_c23
  · exact w_c24
  · exact w_c25
  · exact w_c26
  · exact w_c27
  · exact w_c28
  · exact w_c29
  · exact w_c30
  · exact w_c31
  · exact w_c32
  · exact w_c33
  · exact w_c34
set_option maxRecDepth 65536 in
theorem w_t1 : (words1.take 24).all (fun c => isCode c || c.before args0 about1) = true := by decide +kernel
set_option maxRecDepth 65536 in
theorem w_t2 : ((words1.drop 24).take 24).all (fun c => isCode c || c.before args0 about1) = true := by decide +kernel
set_option maxRecDepth 65536 in
theorem w_t3 : (((words1.drop 24).drop 24).take 24).all (fun c => isCode c || c.before args0 about1) = true := by decide +kernel
set_option maxRecDepth 65536 in
theorem w_t4 : ((((words1.drop 24).drop 24).drop 24).take 24).all (fun c => isCode c || c.before args0 about1) = true := by decide +kernel
set_option maxRecDepth 65536 in
theorem w_t5 : (((((words1.drop 24).drop 24).drop 24).drop 24).take 24).all (fun c => isCode c || c.before args0 about1) = true := by decide +kernel
set_option maxRecDepth 65536 in
theorem w_t6 : ((((((words1.drop 24).drop 24).drop 24).drop 24).drop 24).take 24).all (fun c => isCode c || c.before args0 about1) = true := by decide +kernel
set_option maxRecDepth 65536 in
theorem w_t7 : (((((((words1.drop 24).drop 24).drop 24).drop 24).drop 24).drop 24).take 24).all (fun c => isCode c || c.before args0 about1) = true := by decide +kernel
set_option maxRecDepth 65536 in
theorem w_t8 : (((((((words1.drop 24).drop 24).drop 24).drop 24).drop 24).drop 24).drop 24).all (fun c => isCode c || c.before args0 about1) = true := by decide +kernel
theorem w_tables : (allAtoms (Jvm.Cond.code x code maxLocals ret :: tables_1)).before args0 about1 = true := by
  rw [allAtoms_all]
  show words1.all (fun c => c.before args0 about1) = true
  refine all_split ?_ w_codes
  rw [← List.take_append_drop 24 words1, List.all_append, w_t1, ← List.take_append_drop 24 (words1.drop 24), List.all_append, w_t2, ← List.take_append_drop 24 ((words1.drop 24).drop 24), List.all_append, w_t3, ← List.take_append_drop 24 (((words1.drop 24).drop 24).drop 24), List.all_append, w_t4, ← List.take_append_drop 24 ((((words1.drop 24).drop 24).drop 24).drop 24), List.all_append, w_t5, ← List.take_append_drop 24 (((((words1.drop 24).drop 24).drop 24).drop 24).drop 24), List.all_append, w_t6, ← List.take_append_drop 24 ((((((words1.drop 24).drop 24).drop 24).drop 24).drop 24).drop 24), List.all_append, w_t7, w_t8]
  rfl
set_option maxRecDepth 65536 in
theorem w_rest : rest_1_c.before args0 about1 = true := by decide +kernel
set_option maxRecDepth 65536 in
theorem w_case : (Jvm.Cond.and given_1 narrow_1).before args0 about1 = true := by decide +kernel
theorem w_applies : (headSpec (Jvm.Cond.code x code maxLocals ret :: tables_1) room_1).applies x e0.platform about1 = true :=
  (Spec.applies_iff w_frames).mpr ⟨w_running, w_runnable, w_alone, w_named, w_hears, w_ripe, w_room, w_tables⟩
theorem atStart : AtStart classFile x code maxLocals ret World_1 tables_1 room_1 Calls_1 rest_1 Pre_1 launch0 p0 e0 about1 theMethod args0 below0 :=
  ⟨lists_1, trivial, launch0.admits_env _ _ _, launch0.least_env, fairChoices_fair.cas, fairChoices_fair.clock, w_frames, w_args, w_heap, w_applies, trivial, w_rest, w_case⟩
end start1
theorem witness_1 : WitnessClaimed_1 := ⟨start1.p0, start1.e0, start1.about1, start1.theMethod, start1.args0, start1.below0, start1.atStart⟩
end Jvm.Pilot.@@N@@
