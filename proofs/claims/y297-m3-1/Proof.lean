import JvmDerived
import JvmDerived.Pilot.@@N@@Statement
import JvmDerived.Pilot.@@N@@Code
set_option linter.unusedVariables false
set_option linter.unusedSimpArgs false
namespace Jvm.RoadKit
open Sem ClassFile Op Lib Jvm.Stand Jvm.Free Jvm.LawKit
section New
variable {p : Program} {l : Launch} {e : Env} {R : Room} {s : State} {m : MethodId} {args : Array Value} {below : List Frame} {meth : Method} {c : Code} {T : State} {locs : List Loc} {cells slots : Nat}
theorem own_retI (X : Stand p l e R s m args below meth c T locs cells slots) (hx : p.tables.exec = Jvm.exec) {pc : Nat} {Ls : Array Slot} {z : Int32} {rest : List Value} (hret : meth.sig.returnType = some .int) (hd : decode c.code pc = .ok (.ireturn, 1)) {fs : List Frame}
    (hl : ∀ (f : JFrame) (acts : List Action), f.method = m → f.locked = none → f.entered = [] → (doReturn e (T.setTop f) acts (some (.int z))).1 = T.setFrames fs) : Steps p.tables e below (T.setTop (mkF m pc Ls (.int z :: rest))) (T.setFrames fs) :=
  retOut X hx hret rfl (Or.inl ⟨rfl, Or.inl rfl, z, rfl⟩) hd hl
theorem own_retJ (X : Stand p l e R s m args below meth c T locs cells slots) (hx : p.tables.exec = Jvm.exec) {pc : Nat} {Ls : Array Slot} {z : Int64} {rest : List Value} (hret : meth.sig.returnType = some .long) (hd : decode c.code pc = .ok (.lreturn, 1)) {fs : List Frame}
    (hl : ∀ (f : JFrame) (acts : List Action), f.method = m → f.locked = none → f.entered = [] → (doReturn e (T.setTop f) acts (some (.long z))).1 = T.setFrames fs) : Steps p.tables e below (T.setTop (mkF m pc Ls (.long z :: rest))) (T.setFrames fs) :=
  retOut X hx hret rfl (Or.inr (Or.inl ⟨rfl, rfl, z, rfl⟩)) hd hl
end New
/-- the rest of a walk: from here the run comes to an end with Q -/
def own_Fin (p : Program) (e : Env) (below : List Frame) (A : State) (Q : Outcome → State → Prop) : Prop :=
  ∃ t o, Steps p.tables e below A t ∧ t.status = .running ∧ Ended t below o ∧ Q o t
theorem own_go {p : Program} {e : Env} {below : List Frame} {A B : State} {Q : Outcome → State → Prop} (st : ∀ t, Steps p.tables e below A t → Steps p.tables e below B t) (k : own_Fin p e below A Q) : own_Fin p e below B Q := by
  obtain ⟨t, o, h, r⟩ := k; exact ⟨t, o, st t h, r⟩
theorem own_start {p : Program} {e : Env} {below : List Frame} {T : State} {g g' : JFrame} {Q : Outcome → State → Prop} (q : g = g') (k : own_Fin p e below (T.setTop g') Q) :
    ∃ t o, Steps p.tables e below (T.setTop g) t ∧ t.status = .running ∧ Ended t below o ∧ Q o t := by subst q; exact k
theorem own_cat {v : Value} (h : v.isRef = true) : v.category = 1 := by cases v <;> simp [Value.isRef] at h <;> rfl
theorem own_st1 {l l' : Array Slot} {i : Nat} {v : Value} (hold : (match l[i]? with | some .unset => true | some (.val w) => w.category == 1 | _ => false) = true) (hv : v.isRef = true) (e : l.setIfInBounds i (.val v) = l') : storeLocals l i v = some l' := by
  subst e
  cases h : l[i]? with
  | none => simp [h] at hold
  | some o =>
    refine Jvm.Free.XS.store1 h ?_ (own_cat hv)
    cases o with
    | unset => exact Or.inl rfl
    | second => simp [h] at hold
    | val w => simp [h] at hold; exact Or.inr ⟨w, rfl, hold⟩
theorem own_st2 {l l' : Array Slot} {i : Nat} {v : Value} {o : Slot} (hold : l[i]? = some o) (ho : One o) (hv : v.category = 1) (e : l.setIfInBounds i (.val v) = l') : storeLocals l i v = some l' := by
  subst e; exact Jvm.Free.XS.store1 hold ho hv
theorem own_fitR {v : Value} {C : String} (h : v.isRef = true) : fits (.object C) v = true := by cases v <;> simp [Value.isRef, fits] at h ⊢
theorem own_osz {Z : State} {n0 : Nat} {h : Heap} (O : Old Z n0 h) : n0 ≤ h.size := O.1 ▸ O.2.1
def own_bi (P : Prop) [Decidable P] : Int32 := if P then 1 else 0
theorem own_bi1 {P : Prop} [Decidable P] (h : P) : own_bi P = 1 := if_pos h
theorem own_bi0 {P : Prop} [Decidable P] (h : ¬ P) : own_bi P = 0 := if_neg h
theorem own_bz {P : Prop} [Decidable P] (h : ¬ P) : own_bi P = 0 := if_neg h
theorem own_bn {P : Prop} [Decidable P] (h : P) : ¬ own_bi P = 0 := by rw [own_bi1 h]; decide
theorem own_narb {P : Prop} [Decidable P] : nar .boolean (own_bi P) = own_bi P := by unfold own_bi; split <;> decide
theorem own_narbi (P : Prop) [Decidable P] : narrow .boolean (.int (own_bi P)) = .int (own_bi P) := by unfold own_bi; split <;> rfl
theorem own_fitbi (P : Prop) [Decidable P] : fits .boolean (.int (own_bi P)) = true := by unfold own_bi; split <;> rfl
theorem own_e1 {P : Prop} [Decidable P] (h : P) : ¬ own_bi P = 0 := by rw [own_bi1 h]; decide
theorem own_e0 {P : Prop} [Decidable P] (h : ¬ P) : ¬ own_bi P = 1 := by rw [own_bi0 h]; decide
theorem own_retB {p : Program} {l : Launch} {e : Env} {R : Room} {s : State} {m : MethodId} {args : Array Value} {below : List Frame} {meth : Method} {c : Code} {T : State} {locs : List Loc} {cells slots : Nat} (X : Stand p l e R s m args below meth c T locs cells slots) (hx : p.tables.exec = Jvm.exec) {pc : Nat} {Ls : Array Slot} {P : Prop} [Decidable P] {rest : List Value} (hret : meth.sig.returnType = some .boolean) (hd : decode c.code pc = .ok (.ireturn, 1)) {fs : List Frame}
    (hl : ∀ (f : JFrame) (acts : List Action), f.method = m → f.locked = none → f.entered = [] → (doReturn e (T.setTop f) acts (some (.int (own_bi P)))).1 = T.setFrames fs) : Steps p.tables e below (T.setTop (mkF m pc Ls (.int (own_bi P) :: rest))) (T.setFrames fs) :=
  retN X hx (t := .boolean) hret (by simp) hd (by rw [own_narb]; exact hl)
theorem own_eqv {args : Array Value} {f s : State} {o : Option Outcome} {idx : List Nat} {a b : Term} {v : Value} (h : (Cond.eq a b).value args f o s idx = some true) (hb : b.eval args f o idx s = some v) (hk : (match v with | .int _ => true | .long _ => true | .ref _ => true | .null => true | _ => false) = true) : a.eval args f o idx s = some v := by
  obtain ⟨x, y, h1, h2, h3, h4⟩ := cmp_v (Or.inl h)
  rw [hb] at h2; cases h2
  rw [h1]
  cases x <;> cases v <;> simp [Kin, Value.isRef] at h3 h4 hk <;> simp [Cond.value, h1, hb] at h ⊢ <;> exact h
theorem own_eqBi {v : Option Value} {P : Prop} [Decidable P] (h : (v = some (.int 1) ∧ P) ∨ (v = some (.int 0) ∧ ¬ P)) : v = some (.int (own_bi P)) := by
  rcases h with ⟨h, q⟩ | ⟨h, q⟩
  · rw [h, own_bi1 q]
  · rw [h, own_bi0 q]
theorem own_up {cs : List Int32} (h : ∀ c ∈ cs, ¬ c < 0 ∧ ¬ (255 : Int32) < c) : ∀ c ∈ cs, ¬ c < 0 ∧ ¬ (65535 : Int32) < c := fun c hc => ⟨(h c hc).1, fun q => (h c hc).2 (by
  rw [Int32.lt_iff_toInt_lt] at q ⊢
  have e1 : (65535 : Int32).toInt = 65535 := by decide
  have e2 : (255 : Int32).toInt = 255 := by decide
  omega)⟩
theorem own_narid {a : Int32} (h : ¬ a < 0 ∧ ¬ (255 : Int32) < a) : nar .char a = a := by
  have e0 : (0 : Int32).toInt = 0 := by decide
  have e2 : (255 : Int32).toInt = 255 := by decide
  obtain ⟨h1, h2⟩ := h
  rw [Int32.lt_iff_toInt_lt] at h1 h2
  have q := c_i2c a
  rw [← Int32.toInt_inj]
  show a.toUInt32.toUInt16.toUInt32.toInt32.toInt = a.toInt
  omega
theorem own_nez {args : Array Value} {f s : State} {o : Option Outcome} {idx : List Nat} {t : Term} {z : Int32} (ev : t.eval args f o idx s = some (.int z)) (h : (Cond.not (Cond.eq t (Term.int 0))).value args f o s idx = some true) : ¬ z = 0 := by
  intro q; subst q; have h' := not_v h; simp [Cond.value, ev, Term.eval] at h'
theorem own_notOf {Z : State} {a0 : Array Value} {C O K : String} {n : Nat} (w : (Cond.superclass C O).before a0 Z = true) (w0 : (Cond.noSuperclass O).before a0 Z = true) (wi : (Cond.instantiable K n).before a0 Z = true) (hn : C ≠ K) (ho : O ≠ K) : ∃ c t, Z.vm.findClass C = some c ∧ Z.vm.findClass K = some t ∧ Z.vm.assignable c t = false := by
  obtain ⟨t, kt, g0, g2, g5, g7, -⟩ := Cond.instantiable_spec wi
  obtain ⟨c, h0⟩ := found_sup w
  obtain ⟨p, k, kp, h1, h2, h3, h4, h5, -, h7⟩ := Cond.superclass_spec h0 w
  obtain ⟨c', k', j1, j2, j3, -, -⟩ := Cond.noSuperclass_spec w0
  cases j1.symm.trans h1
  have ne := ids_ne h0 g0 hn
  have neo := ids_ne h1 g0 ho
  have g7' : kt.isInterface = false := by cases h : kt.isInterface <;> simp [h] at g7 ⊢
  have hs : ∀ fuel, Z.vm.isSubclassAux fuel c t = false := by
    intro fuel
    cases fuel with
    | zero => rfl
    | succ f =>
      cases f with
      | zero => simp [Vm.isSubclassAux, ne, h2, h4]
      | succ f => simp [Vm.isSubclassAux, ne, h2, h4, neo, j2, j3]
  refine ⟨c, t, h0, g0, ?_⟩
  show Z.vm.assignableAux (255 + 1) c t = false
  simp [Vm.assignableAux, ne, h2, g2, h5, g5, g7', Vm.isSubclass, hs]
theorem own_selS {args : Array Value} {s : State} {y w z : MethodName} {C : String} (h : (Cond.selects C w z).before args s = true) (e : z.cls = y.cls) (hpriv : s.PrivateAt y) (hinst : (Cond.instanceMethod y).before args s = true) (hy : y.cls ≠ "java/lang/invoke/MethodHandle" ∧ y.cls ≠ "java/lang/invoke/VarHandle") : (Cond.selects y.cls y y).before args s = true := by
  obtain ⟨c2, r2, m2, q1, q2, q3, q4, kP, hkP, hkPi⟩ := Cond.selects_spec h
  exact selects_self_of_private (c := m2.cls) (by rw [← e]; exact findClass_of_methodNamed q3) hkP hkPi hpriv hinst hy
theorem own_same {args : Array Value} {s : State} {y w z : MethodName} {C : String} (hinst : (Cond.instanceMethod y).before args s = true) (h : (Cond.selects C w z).before args s = true) (e : z.cls = y.cls) (hy : y.cls ≠ "java/lang/invoke/MethodHandle" ∧ y.cls ≠ "java/lang/invoke/VarHandle") : (Cond.sameMethod y.cls y.cls y.name y.desc).before args s = true := by
  obtain ⟨c2, r2, m2, q1, q2, q3, q4, kP, hkP, hkPi⟩ := Cond.selects_spec h
  obtain ⟨mk, methM, hnamed, hmethM, -, -⟩ := Cond.instanceMethod_spec hinst
  have hf : s.methodFound? y.cls y.name y.desc = some mk := State.methodFound?_of_named hnamed hy
  have hc : s.vm.findClass y.cls = some m2.cls := by rw [← e]; exact findClass_of_methodNamed q3
  have hn : s.methodNamed? ⟨y.cls, y.name, y.desc⟩ = some mk := hnamed
  simp [Cond.before, Cond.holds, Cond.value, hc, hf, hn, hkP, hkPi]
theorem own_nf {args : Array Value} {s : State} {y w z : MethodName} {C : String} (h : (Cond.selects C w z).before args s = true) (e : z.cls = y.cls) : NotFace s y := fun r0 h0 => by
  obtain ⟨c2, r2, m2, q1, q2, q3, q4, kP, hkP, hkPi⟩ := Cond.selects_spec h
  have a := findClass_of_methodNamed q3
  have b := findClass_of_methodNamed h0
  rw [e] at a
  have hc : m2.cls = r0.cls := Option.some.inj (a.symm.trans b)
  exact ⟨kP, by rw [← hc]; exact hkP, hkPi⟩
theorem own_selI {args : Array Value} {s : State} {y : MethodName} {n : Nat} (h : (Cond.instantiable y.cls n).before args s = true) (hpriv : s.PrivateAt y) (hinst : (Cond.instanceMethod y).before args s = true) (hy : y.cls ≠ "java/lang/invoke/MethodHandle" ∧ y.cls ≠ "java/lang/invoke/VarHandle") : (Cond.selects y.cls y y).before args s = true := by
  obtain ⟨c, k, h1, h2, h3, h4, -⟩ := Cond.instantiable_spec h
  exact selects_self_of_private h1 h2 (by cases hq : k.isInterface <;> simp [hq] at h4 ⊢) hpriv hinst hy
theorem own_selP {args : Array Value} {s : State} {y : MethodName} {S : String} (h : (Cond.superclass y.cls S).before args s = true) (hpriv : s.PrivateAt y) (hinst : (Cond.instanceMethod y).before args s = true) (hy : y.cls ≠ "java/lang/invoke/MethodHandle" ∧ y.cls ≠ "java/lang/invoke/VarHandle") : (Cond.selects y.cls y y).before args s = true := by
  obtain ⟨c, hc⟩ := found_sup h
  obtain ⟨p, k, kp, h1, h2, h3, h4, h5, h6, h7⟩ := Cond.superclass_spec hc h
  exact selects_self_of_private hc h2 h7 hpriv hinst hy
end Jvm.RoadKit
namespace Jvm.Pilot.@@N@@
open Jvm Jvm.ClassFile Sem Op Lib Jvm.Free Jvm.Stand Jvm.LawKit Jvm.RoadKit Bundle Jvm.Pilot.@@N@@.Jvm.D
theorem ow {Z : State} {a0 : Array Value} (hw : ∀ d ∈ tables_1, d.before a0 Z = true) (i : Nat) {d : Jvm.Cond} (h : tables_1[i]? = some d := by rfl) : d.before a0 Z = true := hw d (List.mem_of_getElem? h)
theorem d1_0 : decode prog_7_method_4_code 0 = .ok (.aload_n 0, 1) := by decide +kernel
theorem d1_1 : decode prog_7_method_4_code 1 = .ok (.getstatic 3, 3) := by decide +kernel
theorem d1_4 : decode prog_7_method_4_code 4 = .ok (.if_acmp .eq 7, 3) := by decide +kernel
theorem d1_11 : decode prog_7_method_4_code 11 = .ok (.iconst 0, 1) := by decide +kernel
theorem d1_12 : decode prog_7_method_4_code 12 = .ok (.ireturn, 1) := by decide +kernel
theorem d1_7 : decode prog_7_method_4_code 7 = .ok (.iconst 1, 1) := by decide +kernel
theorem d1_8 : decode prog_7_method_4_code 8 = .ok (.goto 4, 3) := by decide +kernel
theorem pn_0 : plainName "com/example/state3/state3/internal/RowLock" = true := by first | (simp [plainName, overriddenIn]; done) | decide +kernel
theorem ef_rm1 (m : MethodId) (x0 : Addr) : entryFrame m #[(.ref x0)] 1 = mkF m 0 #[.val (.ref x0)] [] := by first | (simp [entryFrame, mkF, argsToLocals, Value.category]; done) | rfl
def Qrm1 (Z : State) (a : Addr) (w : Addr) (h0 : Heap) (n0 : Nat) (v : Option Value) (h : Heap) (L : List Loc) : Prop := v = some (.int (own_bi (¬ (a = w)))) ∧ Fr n0 L ∧ h = h0
set_option maxRecDepth 65536 in
set_option maxHeartbeats 40000000 in
theorem rm1 (l : Launch) (Z : State) (a0 : Array Value) (hw : ∀ d ∈ tables_1, d.before a0 Z = true) (ws : List Jvm.Cond) (a : Addr) (w : Addr) (h0 : Heap) (n0 : Nat) (O : Old Z n0 h0) (S_RowLock_NONE : Sta Z Z.heap "com/example/state3/state3/internal/RowLock" "NONE" "Lcom/example/state3/state3/internal/RowLock;" (.ref w)) :
    MetFree l (⟨"com/example/state3/state3/internal/RowLock", "checksRow", "()Z"⟩ : MethodName) (head1 (Jvm.Cond.code (⟨"com/example/state3/state3/internal/RowLock", "checksRow", "()Z"⟩ : MethodName) prog_7_method_4_code 1 (some .boolean) :: ws) ({ frames := 0, cells := 0, slots := 0, locals := 0 } : Room)) (fun a' U' => a' = #[(.ref a)] ∧ Z.Warmed39 U'.vm ∧ U'.heap = h0) (fun _ _ _ _ _ => True) (fun _ U' o' W' => ∃ v' L', o' = .returned v' ∧ Qrm1 Z a w h0 n0 v' W'.heap L' ∧ FrameEnd U' o' W' L' ({ frames := 0, cells := 0, slots := 0, locals := 0 } : Room).cells ({ frames := 0, cells := 0, slots := 0, locals := 0 } : Room).slots) := by
  refine MetFree.of_bodySF (plainFor_of_name pn_0) hisR ?_
  intro p e s m args below meth c s₁ Bd hml0 hP hK
  obtain ⟨rfl, hZ, hh⟩ := hP
  have hx := Bd.exec
  have hby := Bd.bytes
  have hml : c.maxLocals = 1 := hml0
  have hown : s.vm.findClass "com/example/state3/state3/internal/RowLock" = some m.cls := findClass_of_methodNamed Bd.named
  have hnm := (name_of_methodNamed Bd.named Bd.method).1
  have X0 : Stand p l e ({ frames := 0, cells := 0, slots := 0, locals := 0 } : Room) s m #[(.ref a)] below meth c s₁ [] 0 0 := Stand.of_body Bd
  have e0 : s₁.heap = h0 := by rw [← hh, Bd.state]; rfl
  have N0 := Fr.nil n0
  refine own_start (ef_rm1 m a) (Q := fun o' t' => ∃ v' L', o' = .returned v' ∧ Qrm1 Z a w h0 n0 v' t'.heap L' ∧ FrameEnd s o' t' L' ({ frames := 0, cells := 0, slots := 0, locals := 0 } : Room).cells ({ frames := 0, cells := 0, slots := 0, locals := 0 } : Room).slots) ?_
  show own_Fin p e below (s₁.setTop (mkF m 0 #[.val (.ref a)] [])) _
  refine own_go (fun _ k => XS.aloadN X0.here hx rfl (hb hby d1_0) rfl rfl k) ?_
  show own_Fin p e below (s₁.setTop (mkF m 1 #[.val (.ref a)] [(.ref a)])) _
  obtain ⟨T1, X1, e1, st1⟩ := getS2 X0 hx hZ hown (host := "") (Or.inl (ow hw 9)) Via.refl e0 (S_RowLock_NONE.ext O.2) (g := (mkF m 1 #[.val (.ref a)] [(.ref a)])) rfl (hb hby d1_1)
  refine own_go (fun _ k => st1 _ k) ?_
  show own_Fin p e below (T1.setTop (mkF m 4 #[.val (.ref a)] [(.ref w), (.ref a)])) _
  by_cases hc4_2 : a = w
  ·refine own_go (fun _ k => Jvm.RoadKit.acmp (g := (mkF m 4 #[.val (.ref a)] [(.ref w), (.ref a)])) X1 hx rfl rfl rfl (pc0 := 4) (pc' := 11) (same := true) rfl (hb hby d1_4) rfl (decide_eq_true (congrArg Value.ref hc4_2)) (by decide) (by decide) k) ?_
   show own_Fin p e below (T1.setTop (mkF m 11 #[.val (.ref a)] [])) _
   refine own_go (fun _ k => XS.iconst X1.here hx rfl (hb hby d1_11) k) ?_
   show own_Fin p e below (T1.setTop (mkF m 12 #[.val (.ref a)] [(.int 0)])) _
   obtain ⟨fs, hr, hrun, hended, hW, hsame⟩ := X1.leave (v := some (.int 0)) (fun h => by rw [Bd.returns] at h; cases h)
   refine ⟨_, _, ?_, hrun, hended, _, _, rfl, ?_, ⟨_, rfl⟩, hW, hsame.mono (by decide) (by decide)⟩
   ·exact retN X1 hx (t := .boolean) Bd.returns (by simp) (hb hby d1_12) hr
   ·show Qrm1 Z a w h0 n0 _ T1.heap _
    rw [e1]
    exact ⟨(by simp [own_bi, *]), N0, rfl⟩
  ·refine own_go (fun _ k => Jvm.RoadKit.acmp (g := (mkF m 4 #[.val (.ref a)] [(.ref w), (.ref a)])) X1 hx rfl rfl rfl (pc0 := 4) (pc' := 7) (same := false) rfl (hb hby d1_4) rfl (decide_eq_false fun q => hc4_2 (Value.ref.inj q)) (by decide) (by decide) k) ?_
   show own_Fin p e below (T1.setTop (mkF m 7 #[.val (.ref a)] [])) _
   refine own_go (fun _ k => XS.iconst X1.here hx rfl (hb hby d1_7) (XS.goto X1.here hx rfl (pc0 := 8) (pc' := 12) rfl (hb hby d1_8) (by decide) (by decide) k)) ?_
   show own_Fin p e below (T1.setTop (mkF m 12 #[.val (.ref a)] [(.int 1)])) _
   obtain ⟨fs, hr, hrun, hended, hW, hsame⟩ := X1.leave (v := some (.int 1)) (fun h => by rw [Bd.returns] at h; cases h)
   refine ⟨_, _, ?_, hrun, hended, _, _, rfl, ?_, ⟨_, rfl⟩, hW, hsame.mono (by decide) (by decide)⟩
   ·exact retN X1 hx (t := .boolean) Bd.returns (by simp) (hb hby d1_12) hr
   ·show Qrm1 Z a w h0 n0 _ T1.heap _
    rw [e1]
    exact ⟨(by simp [own_bi, *]), N0, rfl⟩
theorem d2_0 : decode prog_7_method_5_code 0 = .ok (.aload_n 0, 1) := by decide +kernel
theorem d2_1 : decode prog_7_method_5_code 1 = .ok (.getstatic 10, 3) := by decide +kernel
theorem d2_4 : decode prog_7_method_5_code 4 = .ok (.if_acmp .ne 7, 3) := by decide +kernel
theorem d2_7 : decode prog_7_method_5_code 7 = .ok (.iconst 1, 1) := by decide +kernel
theorem d2_8 : decode prog_7_method_5_code 8 = .ok (.goto 4, 3) := by decide +kernel
theorem d2_12 : decode prog_7_method_5_code 12 = .ok (.ireturn, 1) := by decide +kernel
theorem d2_11 : decode prog_7_method_5_code 11 = .ok (.iconst 0, 1) := by decide +kernel
theorem ef_rm2 (m : MethodId) (x0 : Addr) : entryFrame m #[(.ref x0)] 1 = mkF m 0 #[.val (.ref x0)] [] := by first | (simp [entryFrame, mkF, argsToLocals, Value.category]; done) | rfl
def Qrm2 (Z : State) (a : Addr) (w : Addr) (h0 : Heap) (n0 : Nat) (v : Option Value) (h : Heap) (L : List Loc) : Prop := v = some (.int (own_bi (a = w))) ∧ Fr n0 L ∧ h = h0
set_option maxRecDepth 65536 in
set_option maxHeartbeats 40000000 in
theorem rm2 (l : Launch) (Z : State) (a0 : Array Value) (hw : ∀ d ∈ tables_1, d.before a0 Z = true) (ws : List Jvm.Cond) (a : Addr) (w : Addr) (h0 : Heap) (n0 : Nat) (O : Old Z n0 h0) (S_RowLock_LOCKED : Sta Z Z.heap "com/example/state3/state3/internal/RowLock" "LOCKED" "Lcom/example/state3/state3/internal/RowLock;" (.ref w)) :
    MetFree l (⟨"com/example/state3/state3/internal/RowLock", "locksRow", "()Z"⟩ : MethodName) (head1 (Jvm.Cond.code (⟨"com/example/state3/state3/internal/RowLock", "locksRow", "()Z"⟩ : MethodName) prog_7_method_5_code 1 (some .boolean) :: ws) ({ frames := 0, cells := 0, slots := 0, locals := 0 } : Room)) (fun a' U' => a' = #[(.ref a)] ∧ Z.Warmed39 U'.vm ∧ U'.heap = h0) (fun _ _ _ _ _ => True) (fun _ U' o' W' => ∃ v' L', o' = .returned v' ∧ Qrm2 Z a w h0 n0 v' W'.heap L' ∧ FrameEnd U' o' W' L' ({ frames := 0, cells := 0, slots := 0, locals := 0 } : Room).cells ({ frames := 0, cells := 0, slots := 0, locals := 0 } : Room).slots) := by
  refine MetFree.of_bodySF (plainFor_of_name pn_0) hisR ?_
  intro p e s m args below meth c s₁ Bd hml0 hP hK
  obtain ⟨rfl, hZ, hh⟩ := hP
  have hx := Bd.exec
  have hby := Bd.bytes
  have hml : c.maxLocals = 1 := hml0
  have hown : s.vm.findClass "com/example/state3/state3/internal/RowLock" = some m.cls := findClass_of_methodNamed Bd.named
  have hnm := (name_of_methodNamed Bd.named Bd.method).1
  have X0 : Stand p l e ({ frames := 0, cells := 0, slots := 0, locals := 0 } : Room) s m #[(.ref a)] below meth c s₁ [] 0 0 := Stand.of_body Bd
  have e0 : s₁.heap = h0 := by rw [← hh, Bd.state]; rfl
  have N0 := Fr.nil n0
  refine own_start (ef_rm2 m a) (Q := fun o' t' => ∃ v' L', o' = .returned v' ∧ Qrm2 Z a w h0 n0 v' t'.heap L' ∧ FrameEnd s o' t' L' ({ frames := 0, cells := 0, slots := 0, locals := 0 } : Room).cells ({ frames := 0, cells := 0, slots := 0, locals := 0 } : Room).slots) ?_
  show own_Fin p e below (s₁.setTop (mkF m 0 #[.val (.ref a)] [])) _
  refine own_go (fun _ k => XS.aloadN X0.here hx rfl (hb hby d2_0) rfl rfl k) ?_
  show own_Fin p e below (s₁.setTop (mkF m 1 #[.val (.ref a)] [(.ref a)])) _
  obtain ⟨T5, X5, e5, st5⟩ := getS2 X0 hx hZ hown (host := "") (Or.inl (ow hw 15)) Via.refl e0 (S_RowLock_LOCKED.ext O.2) (g := (mkF m 1 #[.val (.ref a)] [(.ref a)])) rfl (hb hby d2_1)
  refine own_go (fun _ k => st5 _ k) ?_
  show own_Fin p e below (T5.setTop (mkF m 4 #[.val (.ref a)] [(.ref w), (.ref a)])) _
  by_cases hc4_6 : a = w
  ·refine own_go (fun _ k => Jvm.RoadKit.acmp (g := (mkF m 4 #[.val (.ref a)] [(.ref w), (.ref a)])) X5 hx rfl rfl rfl (pc0 := 4) (pc' := 7) (same := true) rfl (hb hby d2_4) rfl (decide_eq_true (congrArg Value.ref hc4_6)) (by decide) (by decide) k) ?_
   show own_Fin p e below (T5.setTop (mkF m 7 #[.val (.ref a)] [])) _
   refine own_go (fun _ k => XS.iconst X5.here hx rfl (hb hby d2_7) (XS.goto X5.here hx rfl (pc0 := 8) (pc' := 12) rfl (hb hby d2_8) (by decide) (by decide) k)) ?_
   show own_Fin p e below (T5.setTop (mkF m 12 #[.val (.ref a)] [(.int 1)])) _
   obtain ⟨fs, hr, hrun, hended, hW, hsame⟩ := X5.leave (v := some (.int 1)) (fun h => by rw [Bd.returns] at h; cases h)
   refine ⟨_, _, ?_, hrun, hended, _, _, rfl, ?_, ⟨_, rfl⟩, hW, hsame.mono (by decide) (by decide)⟩
   ·exact retN X5 hx (t := .boolean) Bd.returns (by simp) (hb hby d2_12) hr
   ·show Qrm2 Z a w h0 n0 _ T5.heap _
    rw [e5]
    exact ⟨(by simp [own_bi, *]), N0, rfl⟩
  ·refine own_go (fun _ k => Jvm.RoadKit.acmp (g := (mkF m 4 #[.val (.ref a)] [(.ref w), (.ref a)])) X5 hx rfl rfl rfl (pc0 := 4) (pc' := 11) (same := false) rfl (hb hby d2_4) rfl (decide_eq_false fun q => hc4_6 (Value.ref.inj q)) (by decide) (by decide) k) ?_
   show own_Fin p e below (T5.setTop (mkF m 11 #[.val (.ref a)] [])) _
   refine own_go (fun _ k => XS.iconst X5.here hx rfl (hb hby d2_11) k) ?_
   show own_Fin p e below (T5.setTop (mkF m 12 #[.val (.ref a)] [(.int 0)])) _
   obtain ⟨fs, hr, hrun, hended, hW, hsame⟩ := X5.leave (v := some (.int 0)) (fun h => by rw [Bd.returns] at h; cases h)
   refine ⟨_, _, ?_, hrun, hended, _, _, rfl, ?_, ⟨_, rfl⟩, hW, hsame.mono (by decide) (by decide)⟩
   ·exact retN X5 hx (t := .boolean) Bd.returns (by simp) (hb hby d2_12) hr
   ·show Qrm2 Z a w h0 n0 _ T5.heap _
    rw [e5]
    exact ⟨(by simp [own_bi, *]), N0, rfl⟩
theorem pd_0 : parseMethodDescriptor "()Z" = some ⟨[], some .boolean⟩ := by decide +kernel
theorem pn_1 : plainName "com/example/state3/state3/internal/RowLockChecksRowPinLaw" = true := by first | (simp [plainName, overriddenIn]; done) | decide +kernel
theorem ef_rm0 (m : MethodId) (x0 : Int32) : entryFrame m #[(.int x0)] maxLocals = mkF m 0 #[.val (.int x0), .unset, .unset, .unset, .unset] [] := by first | (simp [entryFrame, mkF, argsToLocals, Value.category, maxLocals]; done) | rfl
def Qrm0 (Z : State) (pa : Int32) (aN : Addr) (aV : Addr) (aL : Addr) (h0 : Heap) (n0 : Nat) (v : Option Value) (h : Heap) (L : List Loc) : Prop := v = some (.int 1) ∧ Fr n0 L ∧ h = h0
set_option maxRecDepth 65536 in
set_option maxHeartbeats 40000000 in
theorem rm0 (l : Launch) (Z : State) (a0 : Array Value) (hw : ∀ d ∈ tables_1, d.before a0 Z = true) (ws : List Jvm.Cond) (pa : Int32) (aN : Addr) (aV : Addr) (aL : Addr) (h0 : Heap) (n0 : Nat) (O : Old Z n0 h0) (S_RowLock_NONE : Sta Z Z.heap "com/example/state3/state3/internal/RowLock" "NONE" "Lcom/example/state3/state3/internal/RowLock;" (.ref aN)) (S_RowLock_VERSION_CHECKED : Sta Z Z.heap "com/example/state3/state3/internal/RowLock" "VERSION_CHECKED" "Lcom/example/state3/state3/internal/RowLock;" (.ref aV)) (S_RowLock_LOCKED : Sta Z Z.heap "com/example/state3/state3/internal/RowLock" "LOCKED" "Lcom/example/state3/state3/internal/RowLock;" (.ref aL)) (E_aN : Exa Z Z.heap aN "com/example/state3/state3/internal/RowLock") (E_aV : Exa Z Z.heap aV "com/example/state3/state3/internal/RowLock") (E_aL : Exa Z Z.heap aL "com/example/state3/state3/internal/RowLock") (nVN : aV ≠ aN) (nLN : aL ≠ aN) (nLV : aL ≠ aV) :
    MetFree l x (head1 (Jvm.Cond.code x code maxLocals ret :: ws) room_1) (fun a' U' => a' = #[(.int pa)] ∧ Z.Warmed39 U'.vm ∧ U'.heap = h0) (fun _ _ _ _ _ => True) (fun _ U' o' W' => ∃ v' L', o' = .returned v' ∧ Qrm0 Z pa aN aV aL h0 n0 v' W'.heap L' ∧ FrameEnd U' o' W' L' 0 0) := by
  refine MetFree.of_bodySF (plainFor_of_name pn_1) hisR ?_
  intro p e s m args below meth c s₁ Bd hml0 hP hK
  obtain ⟨rfl, hZ, hh⟩ := hP
  have hx := Bd.exec
  have hby := Bd.bytes
  have hml : c.maxLocals = 5 := hml0
  have hown : s.vm.findClass "com/example/state3/state3/internal/RowLockChecksRowPinLaw" = some m.cls := findClass_of_methodNamed Bd.named
  have hnm := (name_of_methodNamed Bd.named Bd.method).1
  have X0 : Stand p l e room_1 s m #[(.int pa)] below meth c s₁ [] 0 0 := Stand.of_body Bd
  have e0 : s₁.heap = h0 := by rw [← hh, Bd.state]; rfl
  have N0 := Fr.nil n0
  refine own_start (ef_rm0 m pa) (Q := fun o' t' => ∃ v' L', o' = .returned v' ∧ Qrm0 Z pa aN aV aL h0 n0 v' t'.heap L' ∧ FrameEnd s o' t' L' 0 0) ?_
  show own_Fin p e below (s₁.setTop (mkF m 0 #[.val (.int pa), .unset, .unset, .unset, .unset] [])) _
  refine own_go (fun _ k => XS.iloadN X0.here hx rfl (hb hby at_0) rfl k) ?_
  show own_Fin p e below (s₁.setTop (mkF m 1 #[.val (.int pa), .unset, .unset, .unset, .unset] [(.int pa)])) _
  refine own_go (fun _ k => X0.ldcInt hx hown (mvT hZ (ow hw 0)) (g := (mkF m 1 #[.val (.int pa), .unset, .unset, .unset, .unset] [(.int pa)])) rfl (hb hby at_1) _ k) ?_
  show own_Fin p e below (s₁.setTop (mkF m 3 #[.val (.int pa), .unset, .unset, .unset, .unset] [(.int 2147483647), (.int pa)])) _
  refine own_go (fun _ k => XS.iand X0.here hx rfl (hb hby at_3) rfl (XS.iconst X0.here hx rfl (hb hby at_4) (iremM X0 hx rfl (hb hby at_5) rfl (by decide) (XS.istoreN X0.here hx rfl (hb hby at_6) rfl (l' := #[.val (.int pa), .val (.int ((pa &&& (2147483647 : Int32)) % (3 : Int32))), .unset, .unset, .unset]) rfl (XS.iloadN X0.here hx rfl (hb hby at_7) rfl k))))) ?_
  show own_Fin p e below (s₁.setTop (mkF m 8 #[.val (.int pa), .val (.int ((pa &&& (2147483647 : Int32)) % (3 : Int32))), .unset, .unset, .unset] [(.int ((pa &&& (2147483647 : Int32)) % (3 : Int32)))])) _
  by_cases hc8_9 : ((pa &&& (2147483647 : Int32)) % (3 : Int32)) = (0 : Int32)
  ·refine own_go (fun _ k => XS.ifNo X0.here hx rfl (hb hby at_8) rfl ((if0 _ _).trans (teq hc8_9).2) k) ?_
   show own_Fin p e below (s₁.setTop (mkF m 11 #[.val (.int pa), .val (.int ((pa &&& (2147483647 : Int32)) % (3 : Int32))), .unset, .unset, .unset] [])) _
   obtain ⟨T10, X10, e10, st10⟩ := getS2 X0 hx hZ hown (host := "") (Or.inl (ow hw 1)) Via.refl e0 (S_RowLock_NONE.ext O.2) (g := (mkF m 11 #[.val (.int pa), .val (.int ((pa &&& (2147483647 : Int32)) % (3 : Int32))), .unset, .unset, .unset] [])) rfl (hb hby at_11)
   refine own_go (fun _ k => st10 _ k) ?_
   show own_Fin p e below (T10.setTop (mkF m 14 #[.val (.int pa), .val (.int ((pa &&& (2147483647 : Int32)) % (3 : Int32))), .unset, .unset, .unset] [(.ref aN)])) _
   refine own_go (fun _ k => XS.astoreN X10.here hx rfl (hb hby at_14) rfl rfl (l' := #[.val (.int pa), .val (.int ((pa &&& (2147483647 : Int32)) % (3 : Int32))), .val (.ref aN), .unset, .unset]) rfl (XS.iconst X10.here hx rfl (hb hby at_15) (XS.istoreN X10.here hx rfl (hb hby at_16) rfl (l' := #[.val (.int pa), .val (.int ((pa &&& (2147483647 : Int32)) % (3 : Int32))), .val (.ref aN), .val (.int 0), .unset]) rfl (XS.goto X10.here hx rfl (pc0 := 17) (pc' := 40) rfl (hb hby at_17) (by decide) (by decide) (XS.aloadN X10.here hx rfl (hb hby at_40) rfl rfl k))))) ?_
   show own_Fin p e below (T10.setTop (mkF m 41 #[.val (.int pa), .val (.int ((pa &&& (2147483647 : Int32)) % (3 : Int32))), .val (.ref aN), .val (.int 0), .unset] [(.ref aN)])) _
   obtain ⟨cq11, kq11, q11a, q11b, q11c⟩ := isOf hZ e10 (E_aN.ext O.2)
   obtain ⟨_, _, ⟨T11, L11, k11, n11⟩, -, X11, ⟨Lc11, hQ11, l11, y11, z11⟩, st11⟩ := X10.virtualBack hx (y := (⟨"com/example/state3/state3/internal/RowLock", "checksRow", "()Z"⟩ : MethodName)) (z := (⟨"com/example/state3/state3/internal/RowLock", "checksRow", "()Z"⟩ : MethodName)) hown (mvT hZ (ow hw 4)) (mvT hZ (ow hw 5)) (notFace_of_selects (args := #[]) (mvT hZ (ow hw 7))) (mvT hZ (ow hw 7)) (mvT hZ (ow hw 6)) (by decide) (backOf (W := 0) (rm1 l Z a0 hw [] aN aN h0 n0 O S_RowLock_NONE) hZ (ow hw 8) (ow hw 2) (by decide) (by decide)) q11a q11c (g := (mkF m 41 #[.val (.int pa), .val (.int ((pa &&& (2147483647 : Int32)) % (3 : Int32))), .val (.ref aN), .val (.int 0), .unset] [(.ref aN)])) rfl (by rw [hml]; rfl) (Steps.refl _) (argsL := []) (rest := []) (lenOf pd_0 rfl) rfl (by show 2 * 0 + _ ≤ _; exact Nat.le_of_eq rfl) (hb hby at_41) (fun _ _ => ⟨rfl, e10, (by decide : 0 + 0 ≤ _), (by decide : 0 + 0 ≤ _)⟩)
   dsimp only [Pt.U, Pt.locs, Pt.cells, Pt.slots] at X11 l11 y11 z11 st11 hQ11
   subst l11 y11 z11
   obtain ⟨rfl, N11q, e11⟩ := hQ11
   refine own_go (fun _ k => st11.trans k) ?_
   have N11 := Fr.app N0 N11q
   show own_Fin p e below (T11.setTop (mkF m 44 #[.val (.int pa), .val (.int ((pa &&& (2147483647 : Int32)) % (3 : Int32))), .val (.ref aN), .val (.int 0), .unset] [(.int (own_bi (¬ (aN = aN))))])) _
   refine own_go (fun _ k => XS.istore X11.here hx rfl (hb hby at_44) rfl (l' := #[.val (.int pa), .val (.int ((pa &&& (2147483647 : Int32)) % (3 : Int32))), .val (.ref aN), .val (.int 0), .val (.int (own_bi (¬ (aN = aN))))]) rfl (XS.iload X11.here hx rfl (hb hby at_46) rfl (XS.iloadN X11.here hx rfl (hb hby at_48) rfl (XS.icmpNo X11.here hx rfl (hb hby at_49) rfl (teq (own_bi0 ((fun q => q rfl) : ¬ (¬ (aN = aN))))).2 (XS.aloadN X11.here hx rfl (hb hby at_52) rfl rfl k))))) ?_
   show own_Fin p e below (T11.setTop (mkF m 53 #[.val (.int pa), .val (.int ((pa &&& (2147483647 : Int32)) % (3 : Int32))), .val (.ref aN), .val (.int 0), .val (.int (own_bi (¬ (aN = aN))))] [(.ref aN)])) _
   obtain ⟨cq12, kq12, q12a, q12b, q12c⟩ := isOf hZ e11 (E_aN.ext O.2)
   obtain ⟨_, _, ⟨T12, L12, k12, n12⟩, -, X12, ⟨Lc12, hQ12, l12, y12, z12⟩, st12⟩ := X11.virtualBack hx (y := (⟨"com/example/state3/state3/internal/RowLock", "locksRow", "()Z"⟩ : MethodName)) (z := (⟨"com/example/state3/state3/internal/RowLock", "locksRow", "()Z"⟩ : MethodName)) hown (mvT hZ (ow hw 10)) (mvT hZ (ow hw 11)) (notFace_of_selects (args := #[]) (mvT hZ (ow hw 13))) (mvT hZ (ow hw 13)) (mvT hZ (ow hw 12)) (by decide) (backOf (W := 0) (rm2 l Z a0 hw [] aN aL h0 n0 O S_RowLock_LOCKED) hZ (ow hw 14) (ow hw 2) (by decide) (by decide)) q12a q12c (g := (mkF m 53 #[.val (.int pa), .val (.int ((pa &&& (2147483647 : Int32)) % (3 : Int32))), .val (.ref aN), .val (.int 0), .val (.int (own_bi (¬ (aN = aN))))] [(.ref aN)])) rfl (by rw [hml]; rfl) (Steps.refl _) (argsL := []) (rest := []) (lenOf pd_0 rfl) rfl (by show 2 * 0 + _ ≤ _; exact Nat.le_of_eq rfl) (hb hby at_53) (fun _ _ => ⟨rfl, e11, (by decide : 0 + 0 ≤ _), (by decide : 0 + 0 ≤ _)⟩)
   dsimp only [Pt.U, Pt.locs, Pt.cells, Pt.slots] at X12 l12 y12 z12 st12 hQ12
   subst l12 y12 z12
   obtain ⟨rfl, N12q, e12⟩ := hQ12
   refine own_go (fun _ k => st12.trans k) ?_
   have N12 := Fr.app N11 N12q
   show own_Fin p e below (T12.setTop (mkF m 56 #[.val (.int pa), .val (.int ((pa &&& (2147483647 : Int32)) % (3 : Int32))), .val (.ref aN), .val (.int 0), .val (.int (own_bi (¬ (aN = aN))))] [(.int (own_bi (aN = aL)))])) _
   refine own_go (fun _ k => XS.ifYes X12.here hx rfl (pc0 := 56) (pc' := 64) rfl (hb hby at_56) rfl ((if0 _ _).trans (teq (own_bz ((Ne.symm nLN) : ¬ (aN = aL)))).1) (by decide) (by decide) (XS.iconst X12.here hx rfl (hb hby at_64) (XS.goto X12.here hx rfl (pc0 := 65) (pc' := 69) rfl (hb hby at_65) (by decide) (by decide) k))) ?_
   show own_Fin p e below (T12.setTop (mkF m 69 #[.val (.int pa), .val (.int ((pa &&& (2147483647 : Int32)) % (3 : Int32))), .val (.ref aN), .val (.int 0), .val (.int (own_bi (¬ (aN = aN))))] [(.int 1)])) _
   obtain ⟨fs, hr, hrun, hended, hW, hsame⟩ := X12.leave (v := some (.int 1)) (fun h => by rw [Bd.returns] at h; cases h)
   refine ⟨_, _, ?_, hrun, hended, _, _, rfl, ?_, ⟨_, rfl⟩, hW, hsame.mono (by decide) (by decide)⟩
   ·exact retN X12 hx (t := .boolean) Bd.returns (by simp) (hb hby at_69) hr
   ·show Qrm0 Z pa aN aV aL h0 n0 _ T12.heap _
    rw [e12]
    exact ⟨rfl, N12, rfl⟩
  ·refine own_go (fun _ k => XS.ifYes X0.here hx rfl (pc0 := 8) (pc' := 20) rfl (hb hby at_8) rfl ((if0 _ _).trans (feq hc8_9).2) (by decide) (by decide) (XS.iloadN X0.here hx rfl (hb hby at_20) rfl (XS.iconst X0.here hx rfl (hb hby at_21) k))) ?_
   show own_Fin p e below (s₁.setTop (mkF m 22 #[.val (.int pa), .val (.int ((pa &&& (2147483647 : Int32)) % (3 : Int32))), .unset, .unset, .unset] [(.int 1), (.int ((pa &&& (2147483647 : Int32)) % (3 : Int32)))])) _
   by_cases hc22_14 : ((pa &&& (2147483647 : Int32)) % (3 : Int32)) = (1 : Int32)
   ·refine own_go (fun _ k => XS.icmpNo X0.here hx rfl (hb hby at_22) rfl (teq hc22_14).2 k) ?_
    show own_Fin p e below (s₁.setTop (mkF m 25 #[.val (.int pa), .val (.int ((pa &&& (2147483647 : Int32)) % (3 : Int32))), .unset, .unset, .unset] [])) _
    obtain ⟨T15, X15, e15, st15⟩ := getS2 X0 hx hZ hown (host := "") (Or.inl (ow hw 18)) Via.refl e0 (S_RowLock_VERSION_CHECKED.ext O.2) (g := (mkF m 25 #[.val (.int pa), .val (.int ((pa &&& (2147483647 : Int32)) % (3 : Int32))), .unset, .unset, .unset] [])) rfl (hb hby at_25)
    refine own_go (fun _ k => st15 _ k) ?_
    show own_Fin p e below (T15.setTop (mkF m 28 #[.val (.int pa), .val (.int ((pa &&& (2147483647 : Int32)) % (3 : Int32))), .unset, .unset, .unset] [(.ref aV)])) _
    refine own_go (fun _ k => XS.astoreN X15.here hx rfl (hb hby at_28) rfl rfl (l' := #[.val (.int pa), .val (.int ((pa &&& (2147483647 : Int32)) % (3 : Int32))), .val (.ref aV), .unset, .unset]) rfl (XS.iconst X15.here hx rfl (hb hby at_29) (XS.istoreN X15.here hx rfl (hb hby at_30) rfl (l' := #[.val (.int pa), .val (.int ((pa &&& (2147483647 : Int32)) % (3 : Int32))), .val (.ref aV), .val (.int 1), .unset]) rfl (XS.goto X15.here hx rfl (pc0 := 31) (pc' := 40) rfl (hb hby at_31) (by decide) (by decide) (XS.aloadN X15.here hx rfl (hb hby at_40) rfl rfl k))))) ?_
    show own_Fin p e below (T15.setTop (mkF m 41 #[.val (.int pa), .val (.int ((pa &&& (2147483647 : Int32)) % (3 : Int32))), .val (.ref aV), .val (.int 1), .unset] [(.ref aV)])) _
    obtain ⟨cq16, kq16, q16a, q16b, q16c⟩ := isOf hZ e15 (E_aV.ext O.2)
    obtain ⟨_, _, ⟨T16, L16, k16, n16⟩, -, X16, ⟨Lc16, hQ16, l16, y16, z16⟩, st16⟩ := X15.virtualBack hx (y := (⟨"com/example/state3/state3/internal/RowLock", "checksRow", "()Z"⟩ : MethodName)) (z := (⟨"com/example/state3/state3/internal/RowLock", "checksRow", "()Z"⟩ : MethodName)) hown (mvT hZ (ow hw 4)) (mvT hZ (ow hw 5)) (notFace_of_selects (args := #[]) (mvT hZ (ow hw 7))) (mvT hZ (ow hw 7)) (mvT hZ (ow hw 6)) (by decide) (backOf (W := 0) (rm1 l Z a0 hw [] aV aN h0 n0 O S_RowLock_NONE) hZ (ow hw 8) (ow hw 2) (by decide) (by decide)) q16a q16c (g := (mkF m 41 #[.val (.int pa), .val (.int ((pa &&& (2147483647 : Int32)) % (3 : Int32))), .val (.ref aV), .val (.int 1), .unset] [(.ref aV)])) rfl (by rw [hml]; rfl) (Steps.refl _) (argsL := []) (rest := []) (lenOf pd_0 rfl) rfl (by show 2 * 0 + _ ≤ _; exact Nat.le_of_eq rfl) (hb hby at_41) (fun _ _ => ⟨rfl, e15, (by decide : 0 + 0 ≤ _), (by decide : 0 + 0 ≤ _)⟩)
    dsimp only [Pt.U, Pt.locs, Pt.cells, Pt.slots] at X16 l16 y16 z16 st16 hQ16
    subst l16 y16 z16
    obtain ⟨rfl, N16q, e16⟩ := hQ16
    refine own_go (fun _ k => st16.trans k) ?_
    have N16 := Fr.app N0 N16q
    show own_Fin p e below (T16.setTop (mkF m 44 #[.val (.int pa), .val (.int ((pa &&& (2147483647 : Int32)) % (3 : Int32))), .val (.ref aV), .val (.int 1), .unset] [(.int (own_bi (¬ (aV = aN))))])) _
    refine own_go (fun _ k => XS.istore X16.here hx rfl (hb hby at_44) rfl (l' := #[.val (.int pa), .val (.int ((pa &&& (2147483647 : Int32)) % (3 : Int32))), .val (.ref aV), .val (.int 1), .val (.int (own_bi (¬ (aV = aN))))]) rfl (XS.iload X16.here hx rfl (hb hby at_46) rfl (XS.iloadN X16.here hx rfl (hb hby at_48) rfl (XS.icmpNo X16.here hx rfl (hb hby at_49) rfl (teq (own_bi1 nVN)).2 (XS.aloadN X16.here hx rfl (hb hby at_52) rfl rfl k))))) ?_
    show own_Fin p e below (T16.setTop (mkF m 53 #[.val (.int pa), .val (.int ((pa &&& (2147483647 : Int32)) % (3 : Int32))), .val (.ref aV), .val (.int 1), .val (.int (own_bi (¬ (aV = aN))))] [(.ref aV)])) _
    obtain ⟨cq17, kq17, q17a, q17b, q17c⟩ := isOf hZ e16 (E_aV.ext O.2)
    obtain ⟨_, _, ⟨T17, L17, k17, n17⟩, -, X17, ⟨Lc17, hQ17, l17, y17, z17⟩, st17⟩ := X16.virtualBack hx (y := (⟨"com/example/state3/state3/internal/RowLock", "locksRow", "()Z"⟩ : MethodName)) (z := (⟨"com/example/state3/state3/internal/RowLock", "locksRow", "()Z"⟩ : MethodName)) hown (mvT hZ (ow hw 10)) (mvT hZ (ow hw 11)) (notFace_of_selects (args := #[]) (mvT hZ (ow hw 13))) (mvT hZ (ow hw 13)) (mvT hZ (ow hw 12)) (by decide) (backOf (W := 0) (rm2 l Z a0 hw [] aV aL h0 n0 O S_RowLock_LOCKED) hZ (ow hw 14) (ow hw 2) (by decide) (by decide)) q17a q17c (g := (mkF m 53 #[.val (.int pa), .val (.int ((pa &&& (2147483647 : Int32)) % (3 : Int32))), .val (.ref aV), .val (.int 1), .val (.int (own_bi (¬ (aV = aN))))] [(.ref aV)])) rfl (by rw [hml]; rfl) (Steps.refl _) (argsL := []) (rest := []) (lenOf pd_0 rfl) rfl (by show 2 * 0 + _ ≤ _; exact Nat.le_of_eq rfl) (hb hby at_53) (fun _ _ => ⟨rfl, e16, (by decide : 0 + 0 ≤ _), (by decide : 0 + 0 ≤ _)⟩)
    dsimp only [Pt.U, Pt.locs, Pt.cells, Pt.slots] at X17 l17 y17 z17 st17 hQ17
    subst l17 y17 z17
    obtain ⟨rfl, N17q, e17⟩ := hQ17
    refine own_go (fun _ k => st17.trans k) ?_
    have N17 := Fr.app N16 N17q
    show own_Fin p e below (T17.setTop (mkF m 56 #[.val (.int pa), .val (.int ((pa &&& (2147483647 : Int32)) % (3 : Int32))), .val (.ref aV), .val (.int 1), .val (.int (own_bi (¬ (aV = aN))))] [(.int (own_bi (aV = aL)))])) _
    refine own_go (fun _ k => XS.ifYes X17.here hx rfl (pc0 := 56) (pc' := 64) rfl (hb hby at_56) rfl ((if0 _ _).trans (teq (own_bz ((Ne.symm nLV) : ¬ (aV = aL)))).1) (by decide) (by decide) (XS.iconst X17.here hx rfl (hb hby at_64) (XS.goto X17.here hx rfl (pc0 := 65) (pc' := 69) rfl (hb hby at_65) (by decide) (by decide) k))) ?_
    show own_Fin p e below (T17.setTop (mkF m 69 #[.val (.int pa), .val (.int ((pa &&& (2147483647 : Int32)) % (3 : Int32))), .val (.ref aV), .val (.int 1), .val (.int (own_bi (¬ (aV = aN))))] [(.int 1)])) _
    obtain ⟨fs, hr, hrun, hended, hW, hsame⟩ := X17.leave (v := some (.int 1)) (fun h => by rw [Bd.returns] at h; cases h)
    refine ⟨_, _, ?_, hrun, hended, _, _, rfl, ?_, ⟨_, rfl⟩, hW, hsame.mono (by decide) (by decide)⟩
    ·exact retN X17 hx (t := .boolean) Bd.returns (by simp) (hb hby at_69) hr
    ·show Qrm0 Z pa aN aV aL h0 n0 _ T17.heap _
     rw [e17]
     exact ⟨rfl, N17, rfl⟩
   ·refine own_go (fun _ k => XS.icmpYes X0.here hx rfl (pc0 := 22) (pc' := 34) rfl (hb hby at_22) rfl (feq hc22_14).2 (by decide) (by decide) k) ?_
    show own_Fin p e below (s₁.setTop (mkF m 34 #[.val (.int pa), .val (.int ((pa &&& (2147483647 : Int32)) % (3 : Int32))), .unset, .unset, .unset] [])) _
    obtain ⟨T19, X19, e19, st19⟩ := getS2 X0 hx hZ hown (host := "") (Or.inl (ow hw 17)) Via.refl e0 (S_RowLock_LOCKED.ext O.2) (g := (mkF m 34 #[.val (.int pa), .val (.int ((pa &&& (2147483647 : Int32)) % (3 : Int32))), .unset, .unset, .unset] [])) rfl (hb hby at_34)
    refine own_go (fun _ k => st19 _ k) ?_
    show own_Fin p e below (T19.setTop (mkF m 37 #[.val (.int pa), .val (.int ((pa &&& (2147483647 : Int32)) % (3 : Int32))), .unset, .unset, .unset] [(.ref aL)])) _
    refine own_go (fun _ k => XS.astoreN X19.here hx rfl (hb hby at_37) rfl rfl (l' := #[.val (.int pa), .val (.int ((pa &&& (2147483647 : Int32)) % (3 : Int32))), .val (.ref aL), .unset, .unset]) rfl (XS.iconst X19.here hx rfl (hb hby at_38) (XS.istoreN X19.here hx rfl (hb hby at_39) rfl (l' := #[.val (.int pa), .val (.int ((pa &&& (2147483647 : Int32)) % (3 : Int32))), .val (.ref aL), .val (.int 1), .unset]) rfl (XS.aloadN X19.here hx rfl (hb hby at_40) rfl rfl k)))) ?_
    show own_Fin p e below (T19.setTop (mkF m 41 #[.val (.int pa), .val (.int ((pa &&& (2147483647 : Int32)) % (3 : Int32))), .val (.ref aL), .val (.int 1), .unset] [(.ref aL)])) _
    obtain ⟨cq20, kq20, q20a, q20b, q20c⟩ := isOf hZ e19 (E_aL.ext O.2)
    obtain ⟨_, _, ⟨T20, L20, k20, n20⟩, -, X20, ⟨Lc20, hQ20, l20, y20, z20⟩, st20⟩ := X19.virtualBack hx (y := (⟨"com/example/state3/state3/internal/RowLock", "checksRow", "()Z"⟩ : MethodName)) (z := (⟨"com/example/state3/state3/internal/RowLock", "checksRow", "()Z"⟩ : MethodName)) hown (mvT hZ (ow hw 4)) (mvT hZ (ow hw 5)) (notFace_of_selects (args := #[]) (mvT hZ (ow hw 7))) (mvT hZ (ow hw 7)) (mvT hZ (ow hw 6)) (by decide) (backOf (W := 0) (rm1 l Z a0 hw [] aL aN h0 n0 O S_RowLock_NONE) hZ (ow hw 8) (ow hw 2) (by decide) (by decide)) q20a q20c (g := (mkF m 41 #[.val (.int pa), .val (.int ((pa &&& (2147483647 : Int32)) % (3 : Int32))), .val (.ref aL), .val (.int 1), .unset] [(.ref aL)])) rfl (by rw [hml]; rfl) (Steps.refl _) (argsL := []) (rest := []) (lenOf pd_0 rfl) rfl (by show 2 * 0 + _ ≤ _; exact Nat.le_of_eq rfl) (hb hby at_41) (fun _ _ => ⟨rfl, e19, (by decide : 0 + 0 ≤ _), (by decide : 0 + 0 ≤ _)⟩)
    dsimp only [Pt.U, Pt.locs, Pt.cells, Pt.slots] at X20 l20 y20 z20 st20 hQ20
    subst l20 y20 z20
    obtain ⟨rfl, N20q, e20⟩ := hQ20
    refine own_go (fun _ k => st20.trans k) ?_
    have N20 := Fr.app N0 N20q
    show own_Fin p e below (T20.setTop (mkF m 44 #[.val (.int pa), .val (.int ((pa &&& (2147483647 : Int32)) % (3 : Int32))), .val (.ref aL), .val (.int 1), .unset] [(.int (own_bi (¬ (aL = aN))))])) _
    refine own_go (fun _ k => XS.istore X20.here hx rfl (hb hby at_44) rfl (l' := #[.val (.int pa), .val (.int ((pa &&& (2147483647 : Int32)) % (3 : Int32))), .val (.ref aL), .val (.int 1), .val (.int (own_bi (¬ (aL = aN))))]) rfl (XS.iload X20.here hx rfl (hb hby at_46) rfl (XS.iloadN X20.here hx rfl (hb hby at_48) rfl (XS.icmpNo X20.here hx rfl (hb hby at_49) rfl (teq (own_bi1 nLN)).2 (XS.aloadN X20.here hx rfl (hb hby at_52) rfl rfl k))))) ?_
    show own_Fin p e below (T20.setTop (mkF m 53 #[.val (.int pa), .val (.int ((pa &&& (2147483647 : Int32)) % (3 : Int32))), .val (.ref aL), .val (.int 1), .val (.int (own_bi (¬ (aL = aN))))] [(.ref aL)])) _
    obtain ⟨cq21, kq21, q21a, q21b, q21c⟩ := isOf hZ e20 (E_aL.ext O.2)
    obtain ⟨_, _, ⟨T21, L21, k21, n21⟩, -, X21, ⟨Lc21, hQ21, l21, y21, z21⟩, st21⟩ := X20.virtualBack hx (y := (⟨"com/example/state3/state3/internal/RowLock", "locksRow", "()Z"⟩ : MethodName)) (z := (⟨"com/example/state3/state3/internal/RowLock", "locksRow", "()Z"⟩ : MethodName)) hown (mvT hZ (ow hw 10)) (mvT hZ (ow hw 11)) (notFace_of_selects (args := #[]) (mvT hZ (ow hw 13))) (mvT hZ (ow hw 13)) (mvT hZ (ow hw 12)) (by decide) (backOf (W := 0) (rm2 l Z a0 hw [] aL aL h0 n0 O S_RowLock_LOCKED) hZ (ow hw 14) (ow hw 2) (by decide) (by decide)) q21a q21c (g := (mkF m 53 #[.val (.int pa), .val (.int ((pa &&& (2147483647 : Int32)) % (3 : Int32))), .val (.ref aL), .val (.int 1), .val (.int (own_bi (¬ (aL = aN))))] [(.ref aL)])) rfl (by rw [hml]; rfl) (Steps.refl _) (argsL := []) (rest := []) (lenOf pd_0 rfl) rfl (by show 2 * 0 + _ ≤ _; exact Nat.le_of_eq rfl) (hb hby at_53) (fun _ _ => ⟨rfl, e20, (by decide : 0 + 0 ≤ _), (by decide : 0 + 0 ≤ _)⟩)
    dsimp only [Pt.U, Pt.locs, Pt.cells, Pt.slots] at X21 l21 y21 z21 st21 hQ21
    subst l21 y21 z21
    obtain ⟨rfl, N21q, e21⟩ := hQ21
    refine own_go (fun _ k => st21.trans k) ?_
    have N21 := Fr.app N20 N21q
    show own_Fin p e below (T21.setTop (mkF m 56 #[.val (.int pa), .val (.int ((pa &&& (2147483647 : Int32)) % (3 : Int32))), .val (.ref aL), .val (.int 1), .val (.int (own_bi (¬ (aL = aN))))] [(.int (own_bi (aL = aL)))])) _
    refine own_go (fun _ k => XS.ifNo X21.here hx rfl (hb hby at_56) rfl ((if0 _ _).trans (feq (own_bn rfl)).1) (XS.iload X21.here hx rfl (hb hby at_59) rfl (XS.ifNo X21.here hx rfl (hb hby at_61) rfl ((if0 _ _).trans (feq (own_bn nLN)).1) (XS.iconst X21.here hx rfl (hb hby at_64) (XS.goto X21.here hx rfl (pc0 := 65) (pc' := 69) rfl (hb hby at_65) (by decide) (by decide) k))))) ?_
    show own_Fin p e below (T21.setTop (mkF m 69 #[.val (.int pa), .val (.int ((pa &&& (2147483647 : Int32)) % (3 : Int32))), .val (.ref aL), .val (.int 1), .val (.int (own_bi (¬ (aL = aN))))] [(.int 1)])) _
    obtain ⟨fs, hr, hrun, hended, hW, hsame⟩ := X21.leave (v := some (.int 1)) (fun h => by rw [Bd.returns] at h; cases h)
    refine ⟨_, _, ?_, hrun, hended, _, _, rfl, ?_, ⟨_, rfl⟩, hW, hsame.mono (by decide) (by decide)⟩
    ·exact retN X21 hx (t := .boolean) Bd.returns (by simp) (hb hby at_69) hr
    ·show Qrm0 Z pa aN aV aL h0 n0 _ T21.heap _
     rw [e21]
     exact ⟨rfl, N21, rfl⟩
set_option maxRecDepth 65536 in
set_option maxHeartbeats 40000000 in
theorem comes_1 {Post : Tables → Env → Array Value → State → Outcome → State → Prop} (hpost : ∀ tb e args s v u, (limb_1_1.after args s (.returned v) u = true ∧ limb_1_2.after args s (.returned v) u = true ∧ True) → FrameEnd s (.returned v) u (Jvm.fieldLocs frame_1_writes args s ++ Jvm.arrayLocs frame_1_arrays args s ++ Jvm.staticLocs frame_1_statics s) 0 0 → Post tb e args s (.returned v) u) :
    ArmFor flags0 classFile x code maxLocals ret World_1 tables_1 room_1 Calls_1 rest_1 Pre_1 Post := by
  intro l hfl _ _ p e ha hc hk s m args below hf hA hF happ hP
  obtain ⟨hcalls, hrest, hpre⟩ := hP
  obtain ⟨-, -, -, hnamed, -, -, -, hat⟩ := (Spec.applies_iff hf).mp happ
  obtain ⟨hg, hn⟩ := and_e (Cond.before_iff.mp (show (Jvm.Cond.and given_1 narrow_1).before args s = true from hpre))
  obtain ⟨g1, g2⟩ := and_e hg
  obtain ⟨w0, rfl⟩ : ∃ w0 : Value, args = #[w0] := by
    have hs : args.size = 1 := by simpa [Cond.value, given_1] using g1
    obtain ⟨L⟩ := args
    match L, hs with
    | [w0], _ => exact ⟨w0, rfl⟩
  have hw := fun d (hd : d ∈ tables_1) => atoms_spec (ws := Jvm.Cond.code x code maxLocals ret :: tables_1) hat d (List.mem_cons_of_mem _ hd)
  have hfit : Fit s := fun {y c} hc i hi => by
    obtain ⟨ha, rfl⟩ := Array.getElem?_eq_some_iff.mp hc
    have q := List.all_eq_true.mp ((Array.all_eq_true_iff_forall_mem.mp hF) _ (Array.getElem_mem ha)) i (List.mem_range.mpr hi)
    simpa [Array.getElem?_eq_getElem hi] using q
  obtain ⟨i0, ei0⟩ := is_v g2
  obtain rfl : w0 = (.int i0) := Option.some.inj ei0
  obtain ⟨m1, m2⟩ := and_e hn
  obtain ⟨m3, m4⟩ := and_e m2
  obtain ⟨m5, m6⟩ := and_e m4
  obtain ⟨m7, m8⟩ := and_e m6
  obtain ⟨m9, m10⟩ := and_e m8
  have hx_st_NONE := m1
  obtain ⟨st_NONE, ev_st_NONE⟩ := exa_v hx_st_NONE
  have E_st_NONE := Exa.start ev_st_NONE hx_st_NONE
  have S_st_NONE := Sta.start ev_st_NONE (Or.inr ⟨(ow hw 2), (ow hw 3)⟩)
  have hx_st_LOCKED := m3
  obtain ⟨st_LOCKED, ev_st_LOCKED⟩ := exa_v hx_st_LOCKED
  have E_st_LOCKED := Exa.start ev_st_LOCKED hx_st_LOCKED
  have S_st_LOCKED := Sta.start ev_st_LOCKED (Or.inr ⟨(ow hw 2), (ow hw 16)⟩)
  have ev_st_NONE_ordinal := own_eqv m5 (Term.int_eval _) rfl
  have F_st_NONE_ordinal : Fld s s.heap st_NONE "java/lang/Enum" "ordinal" "I" (.int 0) := Fld.start ((fld_at ev_st_NONE).symm.trans ev_st_NONE_ordinal)
  have ev_st_LOCKED_ordinal := own_eqv m7 (Term.int_eval _) rfl
  have F_st_LOCKED_ordinal : Fld s s.heap st_LOCKED "java/lang/Enum" "ordinal" "I" (.int 2) := Fld.start ((fld_at ev_st_LOCKED).symm.trans ev_st_LOCKED_ordinal)
  have hx_st_VERSION_CHECKED := m9
  obtain ⟨st_VERSION_CHECKED, ev_st_VERSION_CHECKED⟩ := exa_v hx_st_VERSION_CHECKED
  have E_st_VERSION_CHECKED := Exa.start ev_st_VERSION_CHECKED hx_st_VERSION_CHECKED
  have S_st_VERSION_CHECKED := Sta.start ev_st_VERSION_CHECKED (Or.inr ⟨(ow hw 2), (ow hw 19)⟩)
  have ev_st_VERSION_CHECKED_ordinal := own_eqv m10 (Term.int_eval _) rfl
  have F_st_VERSION_CHECKED_ordinal : Fld s s.heap st_VERSION_CHECKED "java/lang/Enum" "ordinal" "I" (.int 1) := Fld.start ((fld_at ev_st_VERSION_CHECKED).symm.trans ev_st_VERSION_CHECKED_ordinal)
  obtain ⟨n, o, h1, h2, h3, _, L, rfl, ⟨rfl, N, hK⟩, hq⟩ := rm0 l s _ hw tables_1 i0 st_NONE st_VERSION_CHECKED st_LOCKED s.heap s.heap.size (Old.start s) S_st_NONE S_st_VERSION_CHECKED S_st_LOCKED E_st_NONE E_st_VERSION_CHECKED E_st_LOCKED (F_st_VERSION_CHECKED_ordinal.ne F_st_NONE_ordinal (by decide)) (F_st_LOCKED_ordinal.ne F_st_NONE_ordinal (by decide)) (F_st_LOCKED_ordinal.ne F_st_VERSION_CHECKED_ordinal (by decide)) p e ha hc hk s m _ below hf ((Spec.applies_iff_loose hf).mp happ).1 ⟨rfl, State.Warmed39.refl s, rfl⟩ trivial
  refine ⟨n, _, h1, h2, h3, hpost _ _ _ _ _ _ ⟨Cond.after_iff.mpr rfl, Cond.after_iff.mpr (eq_i res_at (Term.int_eval (1)) rfl), trivial⟩ ⟨hq.1, hq.2.1, (hq.2.2.sift fun y hy => Or.inr (N y hy)).mono (by decide) (by decide)⟩⟩
theorem main_1_1 : Claimed_1_1 := comes_1 fun _ _ _ _ _ _ h hF => ⟨h.1, hF⟩
theorem main_1_2 : Claimed_1_2 := comes_1 fun _ _ _ _ _ _ h hF => ⟨h.2.1, hF⟩
end Jvm.Pilot.@@N@@
namespace Jvm.Pilot.@@N@@
open Jvm Jvm.ClassFile Sem Op Lib Jvm.Free Jvm.Stand Jvm.Pilot.@@N@@.Jvm.D
/-! MADE BY PROGRAM (witnessworld.py) out of the Statement's table words and the real class files: 12 classes; the members and pool entries that the words name. The judged class is class 1, her method 1. -/
namespace start1
open Jvm.ClassFile
def u (s : String) : CpInfo := .utf8 (stringToUtf16 s)
/-- a pool by its gaps: so many unusable entries, then the entry; so many at the end -/
def gap : Nat → List CpInfo → List CpInfo
  | 0, r => r
  | n + 1, r => .unusable :: gap n r
def poolList (es : List (Nat × CpInfo)) (last : Nat) : List CpInfo := es.foldr (fun e r => gap e.1 (e.2 :: r)) (gap last [])
def pool (es : List (Nat × CpInfo)) (last : Nat) : Array CpInfo := ⟨poolList es last⟩
def fileOf (pool : Array CpInfo) (this : Nat) (attrs : Array Attribute := #[]) (ms : Array MethodInfo := #[]) (fl : Nat := 33) (sup : Nat := 0) (ifs : Array Nat := #[]) (fds : Array FieldInfo := #[]) : ClassFile where
  minorVersion := 0
  majorVersion := 65
  constantPool := pool
  accessFlags := fl
  thisClass := this
  superClass := sup
  interfaces := ifs
  fields := fds
  methods := ms
  attributes := attrs
def plain (name : String) (sup : Option ClassId) : Class where
  name := name
  kind := .ordinary
  loader := none
  accessFlags := 33
  super := sup
  interfaces := #[]
  cf := none
  fields := #[]
  methods := #[]
  instanceTypes := #[]
  staticTypes := #[]
  resolved := #[]
  callSites := []
  init := .initialized
  statics := none
  mirror := none

def pool0 : Array CpInfo := pool [(5, u "<init>"), (0, u "()V"), (1, .class_ 10), (1, u "java/lang/Object")] 113

def k0m0 : Method := { name := "<init>", desc := "()V", sig := { parameters := [], returnType := none }, accessFlags := 1, code := none }
/-- java/lang/Object -/
def k0 : Class := { plain "java/lang/Object" none with
  accessFlags := 33
  interfaces := #[]
  cf := some (fileOf pool0 8 #[] #[{ accessFlags := 1, nameIndex := 5, descriptorIndex := 6, attributes := #[] }] 33 0 #[] #[])
  fields := #[]
  methods := #[k0m0]
  instanceTypes := #[]
  staticTypes := #[]
  resolved := Array.replicate 124 none
  statics := none }

def pool1 : Array CpInfo := pool [(2, .class_ 4), (1, u "java/lang/Object"), (0, u "<init>"), (0, u "()V"), (0, .integer 2147483647), (0, .fieldref 9 10), (0, .class_ 11), (0, .nameAndType 12 13), (0, u "com/example/state3/state3/internal/RowLock"), (0, u "NONE"), (0, u "Lcom/example/state3/state3/internal/RowLock;"), (0, .fieldref 9 15), (0, .nameAndType 16 13), (0, u "VERSION_CHECKED"), (0, .fieldref 9 18), (0, .nameAndType 19 13), (0, u "LOCKED"), (0, .methodref 9 21), (0, .nameAndType 22 23), (0, u "checksRow"), (0, u "()Z"), (0, .methodref 9 25), (0, .nameAndType 26 23), (0, u "locksRow"), (0, .class_ 28), (0, u "com/example/state3/state3/internal/RowLockChecksRowPinLaw"), (2, u "law"), (0, u "(I)Z")] 3

def k1m0 : Method := { name := "<init>", desc := "()V", sig := { parameters := [], returnType := none }, accessFlags := 1, code := none }
def k1c1 : Code := { maxStack := 2, maxLocals := 5, code := code, exceptionTable := #[], attributes := #[] }
def k1m1 : Method := { name := "law", desc := "(I)Z", sig := { parameters := [.int], returnType := some .boolean }, accessFlags := 9, code := some k1c1 }
/-- com/example/state3/state3/internal/RowLockChecksRowPinLaw -/
def k1 : Class := { plain "com/example/state3/state3/internal/RowLockChecksRowPinLaw" (some 0) with
  accessFlags := 49
  interfaces := #[]
  cf := some (fileOf pool1 27 #[] #[{ accessFlags := 1, nameIndex := 5, descriptorIndex := 6, attributes := #[] }, { accessFlags := 9, nameIndex := 31, descriptorIndex := 32, attributes := #[] }] 49 2 #[] #[])
  fields := #[]
  methods := #[k1m0, k1m1]
  instanceTypes := #[]
  staticTypes := #[]
  resolved := Array.replicate 36 none
  statics := none }

def pool2 : Array CpInfo := pool [(1, .class_ 2), (0, u "java/lang/constant/Constable"), (0, .class_ 4), (0, u "java/lang/Object")] 6

/-- java/lang/constant/Constable -/
def k2 : Class := { plain "java/lang/constant/Constable" (some 0) with
  accessFlags := 1537
  interfaces := #[]
  cf := some (fileOf pool2 1 #[] #[] 1537 3 #[] #[])
  fields := #[]
  methods := #[]
  instanceTypes := #[]
  staticTypes := #[]
  resolved := Array.replicate 11 none
  statics := none }

def pool3 : Array CpInfo := pool [(1, .class_ 2), (0, u "java/lang/Comparable"), (0, .class_ 4), (0, u "java/lang/Object")] 7

/-- java/lang/Comparable -/
def k3 : Class := { plain "java/lang/Comparable" (some 0) with
  accessFlags := 1537
  interfaces := #[]
  cf := some (fileOf pool3 1 #[] #[] 1537 3 #[] #[])
  fields := #[]
  methods := #[]
  instanceTypes := #[]
  staticTypes := #[]
  resolved := Array.replicate 12 none
  statics := none }

def pool4 : Array CpInfo := pool [(1, .class_ 2), (0, u "java/io/Serializable"), (0, .class_ 4), (0, u "java/lang/Object")] 2

/-- java/io/Serializable -/
def k4 : Class := { plain "java/io/Serializable" (some 0) with
  accessFlags := 1537
  interfaces := #[]
  cf := some (fileOf pool4 1 #[] #[] 1537 3 #[] #[])
  fields := #[]
  methods := #[]
  instanceTypes := #[]
  staticTypes := #[]
  resolved := Array.replicate 7 none
  statics := none }

def pool5 : Array CpInfo := pool [(2, .class_ 4), (1, u "java/lang/Enum"), (0, u "name"), (0, u "Ljava/lang/String;"), (2, u "ordinal"), (0, u "I"), (1, .class_ 14), (1, u "java/lang/Object"), (4, u "hash"), (86, .class_ 108), (1, u "java/lang/Enum$EnumDesc"), (2, .class_ 112), (0, u "java/lang/constant/Constable"), (0, .class_ 114), (0, u "java/lang/Comparable"), (0, .class_ 116), (0, u "java/io/Serializable")] 87

/-- java/lang/Enum -/
def k5 : Class := { plain "java/lang/Enum" (some 0) with
  accessFlags := 1057
  interfaces := #[2, 3, 4]
  cf := some (fileOf pool5 2 #[.nestMembers #[106]] #[] 1057 12 #[111, 113, 115] #[{ accessFlags := 18, nameIndex := 5, descriptorIndex := 6, attributes := #[] }, { accessFlags := 18, nameIndex := 9, descriptorIndex := 10, attributes := #[] }, { accessFlags := 2, nameIndex := 19, descriptorIndex := 10, attributes := #[] }])
  fields := #[{ name := "name", type := (.object "java/lang/String"), accessFlags := 18, slot := 0, constantValue := 0 }, { name := "ordinal", type := .int, accessFlags := 18, slot := 1, constantValue := 0 }, { name := "hash", type := .int, accessFlags := 2, slot := 2, constantValue := 0 }]
  methods := #[]
  instanceTypes := #[(.object "java/lang/String"), .int, .int]
  staticTypes := #[]
  resolved := Array.replicate 204 none
  statics := none }

def pool6 : Array CpInfo := pool [(1, .class_ 2), (0, u "com/example/state3/state3/internal/RowLock"), (0, .fieldref 1 4), (0, .nameAndType 5 6), (0, u "NONE"), (0, u "Lcom/example/state3/state3/internal/RowLock;"), (2, u "VERSION_CHECKED"), (0, .fieldref 1 11), (0, .nameAndType 12 6), (0, u "LOCKED"), (2, u "$VALUES"), (0, u "[Lcom/example/state3/state3/internal/RowLock;"), (6, .class_ 25), (1, u "java/lang/Enum"), (21, u "checksRow"), (0, u "()Z"), (1, u "locksRow")] 4

def k6c0 : Code := { maxStack := 2, maxLocals := 1, code := prog_7_method_4_code, exceptionTable := #[], attributes := #[] }
def k6m0 : Method := { name := "checksRow", desc := "()Z", sig := { parameters := [], returnType := some .boolean }, accessFlags := 1, code := some k6c0 }
def k6c1 : Code := { maxStack := 2, maxLocals := 1, code := prog_7_method_5_code, exceptionTable := #[], attributes := #[] }
def k6m1 : Method := { name := "locksRow", desc := "()Z", sig := { parameters := [], returnType := some .boolean }, accessFlags := 1, code := some k6c1 }
/-- com/example/state3/state3/internal/RowLock -/
def k6 : Class := { plain "com/example/state3/state3/internal/RowLock" (some 5) with
  accessFlags := 16433
  interfaces := #[]
  cf := some (fileOf pool6 1 #[] #[{ accessFlags := 1, nameIndex := 47, descriptorIndex := 48, attributes := #[] }, { accessFlags := 1, nameIndex := 50, descriptorIndex := 48, attributes := #[] }] 16433 23 #[] #[{ accessFlags := 16409, nameIndex := 5, descriptorIndex := 6, attributes := #[] }, { accessFlags := 16409, nameIndex := 9, descriptorIndex := 6, attributes := #[] }, { accessFlags := 16409, nameIndex := 12, descriptorIndex := 6, attributes := #[] }, { accessFlags := 4122, nameIndex := 15, descriptorIndex := 16, attributes := #[] }])
  fields := #[{ name := "NONE", type := (.object "com/example/state3/state3/internal/RowLock"), accessFlags := 16409, slot := 0, constantValue := 0 }, { name := "VERSION_CHECKED", type := (.object "com/example/state3/state3/internal/RowLock"), accessFlags := 16409, slot := 1, constantValue := 0 }, { name := "LOCKED", type := (.object "com/example/state3/state3/internal/RowLock"), accessFlags := 16409, slot := 2, constantValue := 0 }, { name := "$VALUES", type := (.array (.object "com/example/state3/state3/internal/RowLock")), accessFlags := 4122, slot := 3, constantValue := 0 }]
  methods := #[k6m0, k6m1]
  instanceTypes := #[(.object "java/lang/String"), .int, .int]
  staticTypes := #[(.object "com/example/state3/state3/internal/RowLock"), (.object "com/example/state3/state3/internal/RowLock"), (.object "com/example/state3/state3/internal/RowLock"), (.array (.object "com/example/state3/state3/internal/RowLock"))]
  resolved := Array.replicate 55 none
  statics := some 0 }

def pool7 : Array CpInfo := pool [(1, u "java/lang/Cloneable"), (0, .class_ 1), (0, u "java/lang/Object"), (0, .class_ 3)] 3

/-- java/lang/Cloneable -/
def k7 : Class := { plain "java/lang/Cloneable" (some 0) with
  accessFlags := 1537
  interfaces := #[]
  cf := some (fileOf pool7 2 #[] #[] 1537 4 #[] #[])
  fields := #[]
  methods := #[]
  instanceTypes := #[]
  staticTypes := #[]
  resolved := Array.replicate 8 none
  statics := none }

/-- the primitive byte -/
def k8 : Class := { plain "byte" none with kind := .primitive 'B', accessFlags := 0x411 }
/-- [B -/
def k9 : Class := { plain "[B" (some 0) with kind := .array 8 .byte, interfaces := #[7, 4], accessFlags := 1041 }

/-- the primitive int -/
def k10 : Class := { plain "int" none with kind := .primitive 'I', accessFlags := 0x411 }
/-- [I -/
def k11 : Class := { plain "[I" (some 0) with kind := .array 10 .int, interfaces := #[7, 4], accessFlags := 1041 }

def heap : Heap := #[{ cls := 6, slots := #[.ref 1, .ref 2, .ref 3, .null], vm := .statics 6 },
  { cls := 6, slots := #[.null, .int 0, .int 0], vm := .none },
  { cls := 6, slots := #[.null, .int 1, .int 0], vm := .none },
  { cls := 6, slots := #[.null, .int 2, .int 0], vm := .none }]
def classes : Array Class := #[k0, k1, k2, k3, k4, k5, k6, k7, k8, k9, k10, k11]
def interned : List (Array UInt16 × Addr) := []
def slotsUsed : Nat := 13
def theMethod : MethodId := ⟨1, 1⟩
def args0 : Array Value := #[.int 5]
def aboutOver (below : List Frame) : State where
  vm := { classes := classes, interned := interned.toArray }
  heap := heap
  slotsUsed := slotsUsed
  threads := #[{ frames := .invoking theMethod args0 :: below }]
def below0 : List Frame := [.native { method := ⟨0, 0⟩, args := #[] }]
def about1 : State := aboutOver below0
def p0 : Program := .bare "" "" ""
def e0 : Env := launch0.env 0 0 0
theorem w_frames : about1.frames = Frame.invoking theMethod args0 :: below0 := rfl
set_option maxRecDepth 65536 in
theorem w_args : argsFit about1.vm theMethod args0 = true := by decide +kernel
set_option maxRecDepth 65536 in
theorem w_heap : heapFits about1 = true := by decide +kernel
set_option maxRecDepth 65536 in
theorem w_runnable : about1.curStatus? = some .runnable := by decide +kernel
set_option maxRecDepth 65536 in
theorem w_alone : about1.alone = true := by decide +kernel
set_option maxRecDepth 65536 in
theorem w_named : about1.methodNamed? x = some theMethod := by decide +kernel
set_option maxRecDepth 65536 in
theorem w_hears : about1.hears theMethod below0 = true := by decide +kernel
set_option maxRecDepth 65536 in
theorem w_ripe : about1.ripe theMethod args0 below0 = true := by decide +kernel
theorem w_running : about1.status = .running := rfl
set_option maxRecDepth 65536 in
theorem w_room : about1.hasRoom e0.platform room_1 = true :=
  launch0.hasRoom_least _ room_1 (by decide +kernel) (by decide +kernel) (by decide +kernel) (by decide +kernel) (by decide +kernel) (by decide +kernel)
theorem allAtoms_all (ts : List Jvm.Cond) (a : Array Jvm.Value) (st : Jvm.State) : (allAtoms ts).before a st = ts.all (fun c => c.before a st) := by
  induction ts with
  | nil => rfl
  | cons c t ih =>
    show (Jvm.Cond.and c (allAtoms t)).before a st = _
    rw [Jvm.Cond.before_and, ih, List.all_cons]
def words1 : List Jvm.Cond := Jvm.Cond.code x code maxLocals ret :: tables_1
/-- a 'code' word, met by the world's own term for the bytes: nothing is compared byte by byte -/
theorem code_word {y : MethodName} {bytes : ByteArray} {mx : Nat} {rt : Option FieldType} {a : Array Value} {s : State} {m : MethodId} {meth : Method} {c : Code} (h1 : s.methodNamed? y = some m) (h2 : s.vm.method? m = some meth) (h3 : meth.code = some c) (h4 : c.code = bytes)
    (h5 : (c.maxLocals == mx && c.exceptionTable.isEmpty && decide (c.maxStack ≤ mostOperands) && decide (meth.sig.returnType = rt) && !meth.locks && decide (parseMethodDescriptor y.desc = some meth.sig)) = true) : (Jvm.Cond.code y bytes mx rt).before a s = true := by
  simp only [Bool.and_eq_true, beq_iff_eq, Bool.not_eq_true', decide_eq_true_eq] at h5
  obtain ⟨⟨⟨⟨⟨g1, g2⟩, g3⟩, g4⟩, g5⟩, g6⟩ := h5
  simp [Cond.before, Cond.holds, Cond.value, h1, h2, h3, h4, g1, g2, g3, g4, g5, g6]
def isCode : Jvm.Cond → Bool
  | .code _ _ _ _ => true
  | _ => false
theorem all_split {L : List Jvm.Cond} {P : Jvm.Cond → Bool} (h1 : L.all (fun c => isCode c || P c) = true) (h2 : ∀ c ∈ L.filter isCode, P c = true) : L.all P = true := by
  refine List.all_eq_true.mpr fun c hc => ?_
  have h := List.all_eq_true.mp h1 c hc
  rcases Bool.eq_false_or_eq_true (isCode c) with hi | hi
  · exact h2 c (List.mem_filter.mpr ⟨hc, hi⟩)
  · simpa [hi] using h
set_option maxRecDepth 65536 in
theorem w_c0 : (Jvm.Cond.code x code maxLocals ret).before args0 about1 = true := code_word (m := ⟨1, 1⟩) (meth := k1m1) (c := k1c1) (by decide +kernel) rfl rfl rfl (by decide +kernel)
set_option maxRecDepth 65536 in
theorem w_c1 : (Jvm.Cond.code ({ cls := "com/example/state3/state3/internal/RowLock", name := "checksRow", desc := "()Z" } : Jvm.MethodName) prog_7_method_4_code (1 : Nat) (Option.some Jvm.ClassFile.FieldType.boolean)).before args0 about1 = true := code_word (m := ⟨6, 0⟩) (meth := k6m0) (c := k6c0) (by decide +kernel) rfl rfl rfl (by decide +kernel)
set_option maxRecDepth 65536 in
theorem w_c2 : (Jvm.Cond.code ({ cls := "com/example/state3/state3/internal/RowLock", name := "locksRow", desc := "()Z" } : Jvm.MethodName) prog_7_method_5_code (1 : Nat) (Option.some Jvm.ClassFile.FieldType.boolean)).before args0 about1 = true := code_word (m := ⟨6, 1⟩) (meth := k6m1) (c := k6c1) (by decide +kernel) rfl rfl rfl (by decide +kernel)
def codes1 : List Jvm.Cond := [Jvm.Cond.code x code maxLocals ret, Jvm.Cond.code ({ cls := "com/example/state3/state3/internal/RowLock", name := "checksRow", desc := "()Z" } : Jvm.MethodName) prog_7_method_4_code (1 : Nat) (Option.some Jvm.ClassFile.FieldType.boolean), Jvm.Cond.code ({ cls := "com/example/state3/state3/internal/RowLock", name := "locksRow", desc := "()Z" } : Jvm.MethodName) prog_7_method_5_code (1 : Nat) (Option.some Jvm.ClassFile.FieldType.boolean)]
set_option maxRecDepth 65536 in
theorem codes_eq : words1.filter isCode = codes1 := rfl
theorem w_codes : ∀ c ∈ words1.filter isCode, c.before args0 about1 = true := by
  rw [codes_eq]
  intro c hc
  simp only [codes1, List.mem_cons, List.not_mem_nil, or_false] at hc
  rcases hc with rfl | rfl | rfl
  · exact w_c0
  · exact w_c1
  · exact w_c2
set_option maxRecDepth 65536 in
theorem w_t1 : words1.all (fun c => isCode c || c.before args0 about1) = true := by decide +kernel
theorem w_tables : (allAtoms (Jvm.Cond.code x code maxLocals ret :: tables_1)).before args0 about1 = true := by
  rw [allAtoms_all]
  show words1.all (fun c => c.before args0 about1) = true
  refine all_split ?_ w_codes
  rw [w_t1]
set_option maxRecDepth 65536 in
theorem w_case : (Jvm.Cond.and given_1 narrow_1).before args0 about1 = true := by decide +kernel
theorem w_applies : (headSpec (Jvm.Cond.code x code maxLocals ret :: tables_1) room_1).applies x e0.platform about1 = true :=
  (Spec.applies_iff w_frames).mpr ⟨w_running, w_runnable, w_alone, w_named, w_hears, w_ripe, w_room, w_tables⟩
theorem atStart : AtStart classFile x code maxLocals ret World_1 tables_1 room_1 Calls_1 rest_1 Pre_1 launch0 p0 e0 about1 theMethod args0 below0 :=
  ⟨lists_1, trivial, launch0.admits_env _ _ _, launch0.least_env, fairChoices_fair.cas, fairChoices_fair.clock, w_frames, w_args, w_heap, w_applies, trivial, trivial, w_case⟩
end start1
theorem witness_1 : WitnessClaimed_1 := ⟨start1.p0, start1.e0, start1.about1, start1.theMethod, start1.args0, start1.below0, start1.atStart⟩
end Jvm.Pilot.@@N@@
