import JvmDerived
import JvmDerived.Pilot.@@N@@Statement
import JvmDerived.Pilot.@@N@@Code
set_option linter.unusedVariables false
set_option linter.unusedSimpArgs false
namespace Jvm.RoadKit
open Sem ClassFile Op Lib Jvm.Stand Jvm.Free Jvm.LawKit
section New
variable {p : Program} {l : Launch} {e : Env} {R : Room} {s : State} {m : MethodId} {args : Array Value} {below : List Frame} {meth : Method} {c : Code} {T : State} {locs : List Loc} {cells slots : Nat}
theorem own_retI (X : Stand p l e R s m args below meth c T locs cells slots) (hx : p.tables.exec = Jvm.exec) {pc : Nat} {Ls : Array Slot} {z : Int32} {rest : List Value} (hret : meth.sig.returnType = some .int) (hd : decode c.code pc = .ok (.ireturn, 1)) {fs : List Frame}
    (hl : ∀ (f : JFrame) (acts : List Action), f.method = m → f.locked = none → f.entered = [] → (doReturn e (T.setTop f) acts (some (.int z))).1 = T.setFrames fs) : Steps p.tables e below (T.setTop (mkF m pc Ls (.int z :: rest))) (T.setFrames fs) :=
  retOut X hx hret rfl (Or.inl ⟨rfl, Or.inl rfl, z, rfl⟩) hd hl
theorem own_retJ (X : Stand p l e R s m args below meth c T locs cells slots) (hx : p.tables.exec = Jvm.exec) {pc : Nat} {Ls : Array Slot} {z : Int64} {rest : List Value} (hret : meth.sig.returnType = some .long) (hd : decode c.code pc = .ok (.lreturn, 1)) {fs : List Frame}
    (hl : ∀ (f : JFrame) (acts : List Action), f.method = m → f.locked = none → f.entered = [] → (doReturn e (T.setTop f) acts (some (.long z))).1 = T.setFrames fs) : Steps p.tables e below (T.setTop (mkF m pc Ls (.long z :: rest))) (T.setFrames fs) :=
  retOut X hx hret rfl (Or.inr (Or.inl ⟨rfl, rfl, z, rfl⟩)) hd hl
end New
/-- the rest of a walk: from here the run comes to an end with Q -/
def own_Fin (p : Program) (e : Env) (below : List Frame) (A : State) (Q : Outcome → State → Prop) : Prop :=
  ∃ t o, Steps p.tables e below A t ∧ t.status = .running ∧ Ended t below o ∧ Q o t
theorem own_go {p : Program} {e : Env} {below : List Frame} {A B : State} {Q : Outcome → State → Prop} (st : ∀ t, Steps p.tables e below A t → Steps p.tables e below B t) (k : own_Fin p e below A Q) : own_Fin p e below B Q := by
  obtain ⟨t, o, h, r⟩ := k; exact ⟨t, o, st t h, r⟩
theorem own_start {p : Program} {e : Env} {below : List Frame} {T : State} {g g' : JFrame} {Q : Outcome → State → Prop} (q : g = g') (k : own_Fin p e below (T.setTop g') Q) :
    ∃ t o, Steps p.tables e below (T.setTop g) t ∧ t.status = .running ∧ Ended t below o ∧ Q o t := by subst q; exact k
theorem own_cat {v : Value} (h : v.isRef = true) : v.category = 1 := by cases v <;> simp [Value.isRef] at h <;> rfl
theorem own_st1 {l l' : Array Slot} {i : Nat} {v : Value} (hold : (match l[i]? with | some .unset => true | some (.val w) => w.category == 1 | _ => false) = true) (hv : v.isRef = true) (e : l.setIfInBounds i (.val v) = l') : storeLocals l i v = some l' := by
  subst e
  cases h : l[i]? with
  | none => simp [h] at hold
  | some o =>
    refine Jvm.Free.XS.store1 h ?_ (own_cat hv)
    cases o with
    | unset => exact Or.inl rfl
    | second => simp [h] at hold
    | val w => simp [h] at hold; exact Or.inr ⟨w, rfl, hold⟩
theorem own_st2 {l l' : Array Slot} {i : Nat} {v : Value} {o : Slot} (hold : l[i]? = some o) (ho : One o) (hv : v.category = 1) (e : l.setIfInBounds i (.val v) = l') : storeLocals l i v = some l' := by
  subst e; exact Jvm.Free.XS.store1 hold ho hv
theorem own_fitR {v : Value} {C : String} (h : v.isRef = true) : fits (.object C) v = true := by cases v <;> simp [Value.isRef, fits] at h ⊢
theorem own_osz {Z : State} {n0 : Nat} {h : Heap} (O : Old Z n0 h) : n0 ≤ h.size := O.1 ▸ O.2.1
def own_bi (P : Prop) [Decidable P] : Int32 := if P then 1 else 0
theorem own_bi1 {P : Prop} [Decidable P] (h : P) : own_bi P = 1 := if_pos h
theorem own_bi0 {P : Prop} [Decidable P] (h : ¬ P) : own_bi P = 0 := if_neg h
theorem own_bz {P : Prop} [Decidable P] (h : ¬ P) : own_bi P = 0 := if_neg h
theorem own_bn {P : Prop} [Decidable P] (h : P) : ¬ own_bi P = 0 := by rw [own_bi1 h]; decide
theorem own_narb {P : Prop} [Decidable P] : nar .boolean (own_bi P) = own_bi P := by unfold own_bi; split <;> decide
theorem own_narbi (P : Prop) [Decidable P] : narrow .boolean (.int (own_bi P)) = .int (own_bi P) := by unfold own_bi; split <;> rfl
theorem own_fitbi (P : Prop) [Decidable P] : fits .boolean (.int (own_bi P)) = true := by unfold own_bi; split <;> rfl
theorem own_e1 {P : Prop} [Decidable P] (h : P) : ¬ own_bi P = 0 := by rw [own_bi1 h]; decide
theorem own_e0 {P : Prop} [Decidable P] (h : ¬ P) : ¬ own_bi P = 1 := by rw [own_bi0 h]; decide
theorem own_retB {p : Program} {l : Launch} {e : Env} {R : Room} {s : State} {m : MethodId} {args : Array Value} {below : List Frame} {meth : Method} {c : Code} {T : State} {locs : List Loc} {cells slots : Nat} (X : Stand p l e R s m args below meth c T locs cells slots) (hx : p.tables.exec = Jvm.exec) {pc : Nat} {Ls : Array Slot} {P : Prop} [Decidable P] {rest : List Value} (hret : meth.sig.returnType = some .boolean) (hd : decode c.code pc = .ok (.ireturn, 1)) {fs : List Frame}
    (hl : ∀ (f : JFrame) (acts : List Action), f.method = m → f.locked = none → f.entered = [] → (doReturn e (T.setTop f) acts (some (.int (own_bi P)))).1 = T.setFrames fs) : Steps p.tables e below (T.setTop (mkF m pc Ls (.int (own_bi P) :: rest))) (T.setFrames fs) :=
  retN X hx (t := .boolean) hret (by simp) hd (by rw [own_narb]; exact hl)
theorem own_eqv {args : Array Value} {f s : State} {o : Option Outcome} {idx : List Nat} {a b : Term} {v : Value} (h : (Cond.eq a b).value args f o s idx = some true) (hb : b.eval args f o idx s = some v) (hk : (match v with | .int _ => true | .long _ => true | .ref _ => true | .null => true | _ => false) = true) : a.eval args f o idx s = some v := by
  obtain ⟨x, y, h1, h2, h3, h4⟩ := cmp_v (Or.inl h)
  rw [hb] at h2; cases h2
  rw [h1]
  cases x <;> cases v <;> simp [Kin, Value.isRef] at h3 h4 hk <;> simp [Cond.value, h1, hb] at h ⊢ <;> exact h
theorem own_eqBi {v : Option Value} {P : Prop} [Decidable P] (h : (v = some (.int 1) ∧ P) ∨ (v = some (.int 0) ∧ ¬ P)) : v = some (.int (own_bi P)) := by
  rcases h with ⟨h, q⟩ | ⟨h, q⟩
  · rw [h, own_bi1 q]
  · rw [h, own_bi0 q]
theorem own_up {cs : List Int32} (h : ∀ c ∈ cs, ¬ c < 0 ∧ ¬ (255 : Int32) < c) : ∀ c ∈ cs, ¬ c < 0 ∧ ¬ (65535 : Int32) < c := fun c hc => ⟨(h c hc).1, fun q => (h c hc).2 (by
  rw [Int32.lt_iff_toInt_lt] at q ⊢
  have e1 : (65535 : Int32).toInt = 65535 := by decide
  have e2 : (255 : Int32).toInt = 255 := by decide
  omega)⟩
theorem own_narid {a : Int32} (h : ¬ a < 0 ∧ ¬ (255 : Int32) < a) : nar .char a = a := by
  have e0 : (0 : Int32).toInt = 0 := by decide
  have e2 : (255 : Int32).toInt = 255 := by decide
  obtain ⟨h1, h2⟩ := h
  rw [Int32.lt_iff_toInt_lt] at h1 h2
  have q := c_i2c a
  rw [← Int32.toInt_inj]
  show a.toUInt32.toUInt16.toUInt32.toInt32.toInt = a.toInt
  omega
theorem own_nez {args : Array Value} {f s : State} {o : Option Outcome} {idx : List Nat} {t : Term} {z : Int32} (ev : t.eval args f o idx s = some (.int z)) (h : (Cond.not (Cond.eq t (Term.int 0))).value args f o s idx = some true) : ¬ z = 0 := by
  intro q; subst q; have h' := not_v h; simp [Cond.value, ev, Term.eval] at h'
theorem own_notOf {Z : State} {a0 : Array Value} {C O K : String} {n : Nat} (w : (Cond.superclass C O).before a0 Z = true) (w0 : (Cond.noSuperclass O).before a0 Z = true) (wi : (Cond.instantiable K n).before a0 Z = true) (hn : C ≠ K) (ho : O ≠ K) : ∃ c t, Z.vm.findClass C = some c ∧ Z.vm.findClass K = some t ∧ Z.vm.assignable c t = false := by
  obtain ⟨t, kt, g0, g2, g5, g7, -⟩ := Cond.instantiable_spec wi
  obtain ⟨c, h0⟩ := found_sup w
  obtain ⟨p, k, kp, h1, h2, h3, h4, h5, -, h7⟩ := Cond.superclass_spec h0 w
  obtain ⟨c', k', j1, j2, j3, -, -⟩ := Cond.noSuperclass_spec w0
  cases j1.symm.trans h1
  have ne := ids_ne h0 g0 hn
  have neo := ids_ne h1 g0 ho
  have g7' : kt.isInterface = false := by cases h : kt.isInterface <;> simp [h] at g7 ⊢
  have hs : ∀ fuel, Z.vm.isSubclassAux fuel c t = false := by
    intro fuel
    cases fuel with
    | zero => rfl
    | succ f =>
      cases f with
      | zero => simp [Vm.isSubclassAux, ne, h2, h4]
      | succ f => simp [Vm.isSubclassAux, ne, h2, h4, neo, j2, j3]
  refine ⟨c, t, h0, g0, ?_⟩
  show Z.vm.assignableAux (255 + 1) c t = false
  simp [Vm.assignableAux, ne, h2, g2, h5, g5, g7', Vm.isSubclass, hs]
theorem own_selS {args : Array Value} {s : State} {y w z : MethodName} {C : String} (h : (Cond.selects C w z).before args s = true) (e : z.cls = y.cls) (hpriv : s.PrivateAt y) (hinst : (Cond.instanceMethod y).before args s = true) (hy : y.cls ≠ "java/lang/invoke/MethodHandle" ∧ y.cls ≠ "java/lang/invoke/VarHandle") : (Cond.selects y.cls y y).before args s = true := by
  obtain ⟨c2, r2, m2, q1, q2, q3, q4, kP, hkP, hkPi⟩ := Cond.selects_spec h
  exact selects_self_of_private (c := m2.cls) (by rw [← e]; exact findClass_of_methodNamed q3) hkP hkPi hpriv hinst hy
theorem own_same {args : Array Value} {s : State} {y w z : MethodName} {C : String} (hinst : (Cond.instanceMethod y).before args s = true) (h : (Cond.selects C w z).before args s = true) (e : z.cls = y.cls) (hy : y.cls ≠ "java/lang/invoke/MethodHandle" ∧ y.cls ≠ "java/lang/invoke/VarHandle") : (Cond.sameMethod y.cls y.cls y.name y.desc).before args s = true := by
  obtain ⟨c2, r2, m2, q1, q2, q3, q4, kP, hkP, hkPi⟩ := Cond.selects_spec h
  obtain ⟨mk, methM, hnamed, hmethM, -, -⟩ := Cond.instanceMethod_spec hinst
  have hf : s.methodFound? y.cls y.name y.desc = some mk := State.methodFound?_of_named hnamed hy
  have hc : s.vm.findClass y.cls = some m2.cls := by rw [← e]; exact findClass_of_methodNamed q3
  have hn : s.methodNamed? ⟨y.cls, y.name, y.desc⟩ = some mk := hnamed
  simp [Cond.before, Cond.holds, Cond.value, hc, hf, hn, hkP, hkPi]
theorem own_eqE {T h : Heap} {a : Addr} {c : Cell} (e : T = h) (q : h[a]? = some c) : T[a]? = some c := by rw [e]; exact q
theorem own_nf {args : Array Value} {s : State} {y w z : MethodName} {C : String} (h : (Cond.selects C w z).before args s = true) (e : z.cls = y.cls) : NotFace s y := fun r0 h0 => by
  obtain ⟨c2, r2, m2, q1, q2, q3, q4, kP, hkP, hkPi⟩ := Cond.selects_spec h
  have a := findClass_of_methodNamed q3
  have b := findClass_of_methodNamed h0
  rw [e] at a
  have hc : m2.cls = r0.cls := Option.some.inj (a.symm.trans b)
  exact ⟨kP, by rw [← hc]; exact hkP, hkPi⟩
theorem own_selI {args : Array Value} {s : State} {y : MethodName} {n : Nat} (h : (Cond.instantiable y.cls n).before args s = true) (hpriv : s.PrivateAt y) (hinst : (Cond.instanceMethod y).before args s = true) (hy : y.cls ≠ "java/lang/invoke/MethodHandle" ∧ y.cls ≠ "java/lang/invoke/VarHandle") : (Cond.selects y.cls y y).before args s = true := by
  obtain ⟨c, k, h1, h2, h3, h4, -⟩ := Cond.instantiable_spec h
  exact selects_self_of_private h1 h2 (by cases hq : k.isInterface <;> simp [hq] at h4 ⊢) hpriv hinst hy
theorem own_selP {args : Array Value} {s : State} {y : MethodName} {S : String} (h : (Cond.superclass y.cls S).before args s = true) (hpriv : s.PrivateAt y) (hinst : (Cond.instanceMethod y).before args s = true) (hy : y.cls ≠ "java/lang/invoke/MethodHandle" ∧ y.cls ≠ "java/lang/invoke/VarHandle") : (Cond.selects y.cls y y).before args s = true := by
  obtain ⟨c, hc⟩ := found_sup h
  obtain ⟨p, k, kp, h1, h2, h3, h4, h5, h6, h7⟩ := Cond.superclass_spec hc h
  exact selects_self_of_private hc h2 h7 hpriv hinst hy
end Jvm.RoadKit
namespace Jvm.Pilot.@@N@@
open Jvm Jvm.ClassFile Sem Op Lib Jvm.Free Jvm.Stand Jvm.LawKit Jvm.RoadKit Bundle Jvm.Pilot.@@N@@.Jvm.D
theorem own_frl {n0 : Nat} {L L' : List Loc} (h : L = L') (q : Fr n0 L') : Fr n0 L := h ▸ q
theorem ow {Z : State} {a0 : Array Value} (hw : ∀ d ∈ tables_1, d.before a0 Z = true) (i : Nat) {d : Jvm.Cond} (h : tables_1[i]? = some d := by rfl) : d.before a0 Z = true := hw d (List.mem_of_getElem? h)
def own_pl : List Int64 := [1, 10, 100, 1000, 10000, 100000, 1000000, 10000000, 100000000, 1000000000, 10000000000, 100000000000, 1000000000000, 10000000000000, 100000000000000, 1000000000000000, 10000000000000000, 100000000000000000]
def own_ql : List Int64 := [1, 10, 100, 1000, 10000, 100000, 1000000, 10000000, 100000000, 1000000000, 10000000000, 100000000000, 1000000000000, 10000000000000, 100000000000000, 1000000000000000, 10000000000000000, 100000000000000000, 1000000000000000000]
def own_p (e : Int32) : Int64 := own_pl.getD e.toNatClampNeg 0
def own_q (e : Int32) : Int64 := own_ql.getD e.toNatClampNeg 0
theorem own_getD (l : List Int64) (k : Nat) : (l.map Value.long).getD k (.long (0 : Int64)) = .long (l.getD k 0) := by
  simp only [List.getD_eq_getElem?_getD, List.getElem?_map]
  cases l[k]? <;> rfl
theorem own_pget (p : Int32) : (own_pl.map Value.long).getD p.toNatClampNeg (.long (0 : Int64)) = .long (own_p p) := own_getD _ _
theorem own_qget (p : Int32) : (own_ql.map Value.long).getD p.toNatClampNeg (.long (0 : Int64)) = .long (own_q p) := own_getD _ _
theorem own_plv : ∀ k : Fin 18, (own_pl.getD k.val 0).toInt = ((10 ^ k.val : Nat) : Int) := by decide +kernel
theorem own_qlv : ∀ k : Fin 19, (own_ql.getD k.val 0).toInt = ((10 ^ k.val : Nat) : Int) := by decide +kernel
theorem own_clamp {e : Int32} {k : Nat} (h : e.toInt = k) : e.toNatClampNeg = k := by
  have := nat_of (j := e) (by rw [Int32.lt_iff_toInt_lt]; have e0 : (0 : Int32).toInt = 0 := by decide
                              omega)
  omega
theorem own_pv {e : Int32} {k : Nat} (h : e.toInt = k) (hk : k < 18) : (own_p e).toInt = ((10 ^ k : Nat) : Int) := by
  unfold own_p; rw [own_clamp h]; exact own_plv ⟨k, hk⟩
theorem own_qv {e : Int32} {k : Nat} (h : e.toInt = k) (hk : k < 19) : (own_q e).toInt = ((10 ^ k : Nat) : Int) := by
  unfold own_q; rw [own_clamp h]; exact own_qlv ⟨k, hk⟩
def own_dig (n : Int64) (q : Int32) : Int32 := nar .char (((48 : Int32) + (((n / (own_p ((17 : Int32) - q))) - ((n / (own_p ((17 : Int32) - q))) / (10 : Int64)) * (10 : Int64)).toInt32)).toUInt32.toUInt16.toUInt32.toInt32)
theorem own_nar {a : Int32} (h0 : 0 ≤ a.toInt) (h1 : a.toInt < 65536) : (nar .char a).toInt = a.toInt := by
  have q := c_i2c a
  show a.toUInt32.toUInt16.toUInt32.toInt32.toInt = a.toInt
  omega
theorem own_digv {n : Int64} {q : Int32} {N i : Nat} (hn : n.toInt = N) (hi : q.toInt = i) (h17 : i ≤ 17) : (own_dig n q).toInt = ((48 + N / 10 ^ (17 - i) % 10 : Nat) : Int) := by
  have e17 : (17 : Int32).toInt = 17 := by decide
  have e10 : (10 : Int64).toInt = 10 := by decide
  have e48 : (48 : Int32).toInt = 48 := by decide
  have a1 := c_isub 17 q
  have a2 := rng32 (17 - q)
  have a3 : ((17 : Int32) - q).toInt = ((17 - i : Nat) : Int) := by omega
  have a4 := own_pv a3 (by omega)
  have hp : 0 < 10 ^ (17 - i) := Nat.pos_of_ne_zero (by simp)
  generalize hP : own_p ((17 : Int32) - q) = P at a4
  have a5 : P ≠ -1 := by intro z; rw [z] at a4; have : (-1 : Int64).toInt = -1 := by decide
                         omega
  have a6 := (c_ldiv n P _ a4 a5).1 (by omega)
  have a7 : (n / P).toInt = ((N / 10 ^ (17 - i) : Nat) : Int) := by rw [a6, hn]; exact (Int.natCast_ediv _ _).symm
  have a8 := (c_lrem (n / P) 10 10 e10).1 (by rw [a7]; exact Int.natCast_nonneg _)
  have a9 := c_l2i ((n / P) - ((n / P) / 10) * 10)
  have a10 := rng32 ((n / P) - ((n / P) / 10) * 10).toInt32
  have a11 := c_iadd 48 ((n / P) - ((n / P) / 10) * 10).toInt32
  have a12 := rng32 (48 + ((n / P) - ((n / P) / 10) * 10).toInt32)
  have a13 := c_i2c (48 + ((n / P) - ((n / P) / 10) * 10).toInt32)
  unfold own_dig
  rw [hP, own_nar (by omega) (by omega)]
  omega
def own_cell (j o len z k : Int32) (n : Int64) (g : Int32) : Int32 :=
  if (j - o) < (0 : Int32) then nar .char g else
  if (j - o) < len then
    (if (j - o) < z then nar .char (48 : Int32) else
     if k = (19 : Int32) then nar .char (own_dig n ((j - o) - z)) else
     if ((j - o) - z) < k then nar .char (own_dig n ((j - o) - z)) else
     if ((j - o) - z) = k then nar .char (46 : Int32) else
     if (18 : Int32) < ((j - o) - z) then nar .char (48 : Int32) else nar .char (own_dig n (((j - o) - z) - (1 : Int32))))
  else nar .char g
/-- where the digits' calls stand -/
def own_B (j o len z k : Int32) : Prop := 0 ≤ j.toInt ∧ j.toInt ≤ 30 ∧ 0 ≤ o.toInt ∧ o.toInt ≤ 1 ∧ 0 ≤ len.toInt ∧ len.toInt ≤ 30 ∧ 0 ≤ z.toInt ∧ z.toInt ≤ 1 ∧ 0 ≤ k.toInt ∧ k.toInt ≤ 19 ∧ (k.toInt = 19 → len.toInt = z.toInt + 18)
theorem own_dq {j o len z k : Int32} (B : own_B j o len z k) (h1 : ¬ ((j - o) < (0 : Int32))) (h2 : (j - o) < len) (h3 : ¬ ((j - o) < z)) (hk : k = (19 : Int32) ∨ ((j - o) - z) < k ∧ ¬ k = (19 : Int32)) : ¬ (((j - o) - z) < (0 : Int32)) ∧ ((j - o) - z) < (18 : Int32) := by
  obtain ⟨b1, b2, b3, b4, b5, b6, b7, b8, b9, b10, b11⟩ := B
  have a1 := c_isub j o
  have a2 := rng32 (j - o)
  have a3 := c_isub (j - o) z
  have a4 := rng32 ((j - o) - z)
  have e0 : (0 : Int32).toInt = 0 := by decide
  have e18 : (18 : Int32).toInt = 18 := by decide
  have e19 : (19 : Int32).toInt = 19 := by decide
  simp only [Int32.lt_iff_toInt_lt, ← Int32.toInt_inj] at *
  omega
theorem own_dq1 {j o len z k : Int32} (B : own_B j o len z k) (h1 : ¬ ((j - o) < (0 : Int32))) (h2 : (j - o) < len) (h3 : ¬ ((j - o) < z)) (h4 : ¬ (((j - o) - z) < k)) (h5 : ¬ (((j - o) - z) = k)) (h6 : ¬ ((18 : Int32) < ((j - o) - z))) : ¬ ((((j - o) - z) - (1 : Int32)) < (0 : Int32)) ∧ (((j - o) - z) - (1 : Int32)) < (18 : Int32) := by
  obtain ⟨b1, b2, b3, b4, b5, b6, b7, b8, b9, b10, b11⟩ := B
  have a1 := c_isub j o
  have a2 := rng32 (j - o)
  have a3 := c_isub (j - o) z
  have a4 := rng32 ((j - o) - z)
  have a5 := c_isub ((j - o) - z) 1
  have a6 := rng32 (((j - o) - z) - 1)
  have e0 : (0 : Int32).toInt = 0 := by decide
  have e1 : (1 : Int32).toInt = 1 := by decide
  have e18 : (18 : Int32).toInt = 18 := by decide
  simp only [Int32.lt_iff_toInt_lt, ← Int32.toInt_inj] at *
  omega
theorem own_sub17 {q : Int32} (h0 : ¬ (q < (0 : Int32))) (h1 : q < (18 : Int32)) : ¬ (((17 : Int32) - q) < (0 : Int32)) ∧ ((17 : Int32) - q) < (18 : Int32) := by
  have a1 := c_isub 17 q
  have a2 := rng32 (17 - q)
  have e0 : (0 : Int32).toInt = 0 := by decide
  have e17 : (17 : Int32).toInt = 17 := by decide
  have e18 : (18 : Int32).toInt = 18 := by decide
  simp only [Int32.lt_iff_toInt_lt] at *
  omega
theorem own_pnz {q : Int32} (h0 : ¬ (q < (0 : Int32))) (h1 : q < (18 : Int32)) : own_p q ≠ 0 := by
  intro z
  have e0 : (0 : Int32).toInt = 0 := by decide
  have e18 : (18 : Int32).toInt = 18 := by decide
  rw [Int32.lt_iff_toInt_lt] at h0 h1
  have a := own_pv (e := q) (k := q.toInt.toNat) (by omega) (by omega)
  rw [z] at a
  have : (0 : Int64).toInt = 0 := by decide
  have hp : 0 < 10 ^ q.toInt.toNat := Nat.pos_of_ne_zero (by simp)
  omega
/-- the char at the place p of the text -/
def own_chr (N K zz p : Nat) : Nat :=
  if p < zz then 48 else
  if K = 19 then 48 + N / 10 ^ (17 - (p - zz)) % 10 else
  if p - zz < K then 48 + N / 10 ^ (17 - (p - zz)) % 10 else
  if p - zz = K then 46 else
  if 18 < p - zz then 48 else 48 + N / 10 ^ (17 - (p - zz - 1)) % 10
theorem own_cellv {j o len z k : Int32} {n : Int64} {g : Int32} {N K zz L ov p : Nat} (hn : n.toInt = N) (hk : k.toInt = K) (hz : z.toInt = zz) (hl : len.toInt = L) (ho : o.toInt = ov) (hj : j.toInt = ov + p) (hp : p < L) (B : own_B j o len z k) : (own_cell j o len z k n g).toInt = own_chr N K zz p := by
  obtain ⟨b1, b2, b3, b4, b5, b6, b7, b8, b9, b10, b11⟩ := B
  have a1 := c_isub j o
  have a2 := rng32 (j - o)
  have a3 := c_isub (j - o) z
  have a4 := rng32 ((j - o) - z)
  have a5 := c_isub ((j - o) - z) 1
  have a6 := rng32 (((j - o) - z) - 1)
  have e0 : (0 : Int32).toInt = 0 := by decide
  have e1 : (1 : Int32).toInt = 1 := by decide
  have e18 : (18 : Int32).toInt = 18 := by decide
  have e19 : (19 : Int32).toInt = 19 := by decide
  have n48 : (nar .char (48 : Int32)).toInt = 48 := by decide
  have n46 : (nar .char (46 : Int32)).toInt = 46 := by decide
  have dd : ∀ (q : Int32) (i : Nat), q.toInt = i → i ≤ 17 → (nar .char (own_dig n q)).toInt = ((48 + N / 10 ^ (17 - i) % 10 : Nat) : Int) := fun q i h1 h2 => by
    have := own_digv hn h1 h2
    rw [own_nar (by omega) (by omega)]; exact this
  unfold own_cell own_chr
  simp only [Int32.lt_iff_toInt_lt, ← Int32.toInt_inj] at *
  have hjo : (j - o).toInt = p := by omega
  by_cases c1 : p < zz
  · rw [if_neg (by omega), if_pos (by omega), if_pos (by omega), if_pos c1]; exact n48
  · have hq : ((j - o) - z).toInt = ((p - zz : Nat) : Int) := by omega
    rw [if_neg (by omega), if_pos (by omega), if_neg (by omega), if_neg c1]
    by_cases c2 : K = 19
    · rw [if_pos (by omega), if_pos c2]; exact dd _ _ hq (by omega)
    · rw [if_neg (by omega), if_neg c2]
      by_cases c3 : p - zz < K
      · rw [if_pos (by omega), if_pos c3]; exact dd _ _ hq (by omega)
      · rw [if_neg (by omega), if_neg c3]
        by_cases c4 : p - zz = K
        · rw [if_pos (by omega), if_pos c4]; exact n46
        · rw [if_neg (by omega), if_neg c4]
          by_cases c5 : 18 < p - zz
          · rw [if_pos (by omega), if_pos c5]; exact n48
          · rw [if_neg (by omega), if_neg c5]; exact dd _ _ (by omega) (by omega)
/-- the parser's numbers behind p signs -/
def own_NI (N K zz p u d s e : Nat) : Prop :=
  ((p ≤ zz + K ∨ K = 19) ∧ p - zz ≤ 18 ∧ e = 0 ∧ s = 0 ∧ u = N / 10 ^ (18 - (p - zz)) ∧ d ≤ p - zz) ∨
  ((zz + K < p ∧ K ≤ 18) ∧ ((p - zz - 1 ≤ 18 ∧ u * 10 ^ e = N / 10 ^ (18 - (p - zz - 1)) ∧ e + s = p - zz - 1 - K ∧ d + e ≤ p - zz - 1) ∨ (18 < p - zz - 1 ∧ u = N ∧ s = 18 - K ∧ e = p - zz - 1 - 18 ∧ d ≤ 18)))
theorem own_next (N i : Nat) (hi : i < 18) : N / 10 ^ (18 - (i + 1)) = N / 10 ^ (18 - i) * 10 + N / 10 ^ (17 - i) % 10 := by
  have h : 10 ^ (18 - i) = 10 ^ (17 - i) * 10 := by rw [← Nat.pow_succ]; congr 1; omega
  rw [show 18 - (i + 1) = 17 - i from by omega, h, ← Nat.div_div_eq_div_mul]
  omega
theorem own_small (N i : Nat) (hN : N < 10 ^ 18) : N / 10 ^ i < 10 ^ 18 := Nat.lt_of_le_of_lt (Nat.div_le_self _ _) hN
theorem own_turn {N K zz tt L j u d s e : Nat} (hN : N < 10 ^ 18) (hK : K ≤ 19) (hzz : zz ≤ 1) (h0 : K = 0 → zz = 1) (h17 : K ≤ 17 → N % 10 ≠ 0) (htt : tt ≤ 2) (h18 : K = 18 → 1 ≤ tt) (h19 : K = 19 → tt = 0) (hL : L = zz + 18 + (if K ≤ 18 then 1 else 0) + tt) (hj : j < L) (I : own_NI N K zz j u d s e) :
    ((j < zz + K ∨ K = 19) ∧ s = 0 ∧ e = 0 ∧ ∃ dd, dd ≤ 9 ∧ own_chr N K zz j = 48 + dd ∧ u * 10 + dd < 10 ^ 18 ∧ (if 0 < d then d + 1 else if dd = 0 then 0 else 1) ≤ 18 ∧ own_NI N K zz (j + 1) (u * 10 + dd) (if 0 < d then d + 1 else if dd = 0 then 0 else 1) 0 0) ∨
    (j = zz + K ∧ K ≤ 18 ∧ own_chr N K zz j = 46 ∧ 0 < j ∧ own_NI N K zz (j + 1) u d s e) ∨
    (zz + K < j ∧ K ≤ 18 ∧ own_chr N K zz j = 48 ∧ e + 1 ≤ 30 ∧ own_NI N K zz (j + 1) u d s (e + 1)) ∨
    (zz + K < j ∧ K ≤ 18 ∧ e + 1 + s ≤ 18 ∧ ∃ dd, 1 ≤ dd ∧ dd ≤ 9 ∧ own_chr N K zz j = 48 + dd ∧ u * 10 ^ (e + 1) + dd < 10 ^ 18 ∧ (if 0 < d then d + (e + 1) else 1) ≤ 18 ∧ own_NI N K zz (j + 1) (u * 10 ^ (e + 1) + dd) (if 0 < d then d + (e + 1) else 1) (s + (e + 1)) 0) := by
  rcases I with ⟨hp, hq, he, hs, hu, hd⟩ | ⟨⟨hp, hK18⟩, I⟩
  · by_cases hpt : j = zz + K ∧ K ≤ 18
    · refine Or.inr (Or.inl ⟨hpt.1, hpt.2, ?_, ?_, Or.inr ⟨⟨by omega, hpt.2⟩, Or.inl ⟨by omega, ?_, by omega, by omega⟩⟩⟩)
      · unfold own_chr
        rw [if_neg (by omega), if_neg (by omega), if_neg (by omega), if_pos (by omega)]
      · rcases Nat.eq_zero_or_pos K with h | h
        · have := h0 h; omega
        · omega
      · subst he; rw [Nat.pow_zero, Nat.mul_one, hu]; congr 2; omega
    · have hp1 : j < zz + K ∨ K = 19 := by omega
      refine Or.inl ⟨hp1, hs, he, ?_⟩
      by_cases hz : j < zz
      · have j0 : j - zz = 0 := by omega
        have u0 : u = 0 := by rw [hu, j0]; exact Nat.div_eq_of_lt hN
        refine ⟨0, by omega, by unfold own_chr; rw [if_pos hz], by omega, by rw [if_neg (by omega), if_pos rfl]; omega, Or.inl ⟨by omega, by omega, rfl, rfl, ?_, by rw [if_neg (by omega), if_pos rfl]; omega⟩⟩
        rw [u0, show j + 1 - zz = 0 from by omega]; exact (Nat.div_eq_of_lt hN).symm
      · have hq17 : j - zz < 18 := by
          rcases hp1 with h | h
          · by_cases h9 : K = 19
            · have := h19 h9; subst h9; simp at hL; omega
            · omega
          · have := h19 h; subst h; simp at hL; omega
        have hx := own_next N (j - zz) hq17
        have hm : N / 10 ^ (17 - (j - zz)) % 10 < 10 := Nat.mod_lt _ (by omega)
        have hb := own_small N (18 - (j - zz + 1)) hN
        have hj1 : j + 1 - zz = j - zz + 1 := by omega
        refine ⟨N / 10 ^ (17 - (j - zz)) % 10, by omega, ?_, ?_, ?_, Or.inl ⟨by omega, by omega, rfl, rfl, ?_, ?_⟩⟩
        · unfold own_chr
          rw [if_neg hz]
          by_cases h9 : K = 19
          · rw [if_pos h9]
          · rw [if_neg h9, if_pos (by omega)]
        · rw [hu]; omega
        · split
          · omega
          · split <;> omega
        · rw [hj1, hx, hu]
        · split
          · omega
          · split <;> omega
  · refine Or.inr (Or.inr ?_)
    have hL' : L = zz + 19 + tt := by rw [hL, if_pos hK18]
    rcases I with ⟨hq, hu, hes, hde⟩ | ⟨hq, hu, hs, he, hd⟩
    · by_cases hq18 : j - zz - 1 = 18
      · -- all the digits are read: the last of them isn't 0 where the point stands ahead of it
        have e0 : e = 0 := by
          by_cases h7 : K ≤ 17
          · by_cases ee : e = 0
            · exact ee
            · exfalso
              obtain ⟨e', rfl⟩ : ∃ e', e = e' + 1 := ⟨e - 1, by omega⟩
              rw [hq18] at hu
              have : u * 10 ^ (e' + 1) = N := by rw [hu]; simp
              rw [Nat.pow_succ, ← Nat.mul_assoc] at this
              have h := h17 h7
              omega
          · omega
        refine Or.inl ⟨hp, hK18, ?_, by omega, Or.inr ⟨⟨by omega, hK18⟩, Or.inr ⟨by omega, ?_, by omega, by omega, by omega⟩⟩⟩
        · unfold own_chr
          rw [if_neg (by omega), if_neg (by omega), if_neg (by omega), if_neg (by omega), if_pos (by omega)]
        · rw [hq18, e0] at hu; simpa using hu
      · have hq17 : j - zz - 1 < 18 := by omega
        have hx := own_next N (j - zz - 1) hq17
        have hm : N / 10 ^ (17 - (j - zz - 1)) % 10 < 10 := Nat.mod_lt _ (by omega)
        have hb := own_small N (18 - (j - zz - 1 + 1)) hN
        have hj1 : j + 1 - zz - 1 = j - zz - 1 + 1 := by omega
        have hc : own_chr N K zz j = 48 + N / 10 ^ (17 - (j - zz - 1)) % 10 := by
          unfold own_chr
          rw [if_neg (by omega), if_neg (by omega), if_neg (by omega), if_neg (by omega), if_neg (by omega)]
        by_cases hdd : N / 10 ^ (17 - (j - zz - 1)) % 10 = 0
        · refine Or.inl ⟨hp, hK18, by rw [hc, hdd], by omega, Or.inr ⟨⟨by omega, hK18⟩, Or.inl ⟨by omega, ?_, by omega, by omega⟩⟩⟩
          rw [hj1, hx, hdd, Nat.pow_succ, ← Nat.mul_assoc, hu, Nat.add_zero]
        · refine Or.inr ⟨hp, hK18, by omega, N / 10 ^ (17 - (j - zz - 1)) % 10, by omega, by omega, hc, ?_, ?_, Or.inr ⟨⟨by omega, hK18⟩, Or.inl ⟨by omega, ?_, by omega, ?_⟩⟩⟩
          · rw [Nat.pow_succ, ← Nat.mul_assoc, hu]; omega
          · split <;> omega
          · rw [hj1, hx, Nat.pow_succ, ← Nat.mul_assoc, hu, Nat.pow_zero, Nat.mul_one]
          · split <;> omega
    · refine Or.inl ⟨hp, hK18, ?_, by omega, Or.inr ⟨⟨by omega, hK18⟩, Or.inr ⟨by omega, hu, hs, by omega, hd⟩⟩⟩
      unfold own_chr
      rw [if_neg (by omega), if_neg (by omega), if_neg (by omega), if_neg (by omega), if_pos (by omega)]
theorem own_done {N K zz tt L u d s e : Nat} (hK : K ≤ 19) (hzz : zz ≤ 1) (h17 : K ≤ 17 → N % 10 ≠ 0) (htt : tt ≤ 2) (h18 : K = 18 → 1 ≤ tt) (h19 : K = 19 → tt = 0) (hL : L = zz + 18 + (if K ≤ 18 then 1 else 0) + tt) (I : own_NI N K zz L u d s e) : u = N ∧ s = (if K ≤ 17 then 18 - K else 0) := by
  rcases I with ⟨hp, hq, he, hs, hu, hd⟩ | ⟨⟨hp, hK18⟩, I⟩
  · have hK19 : K = 19 := by
      by_cases h : K ≤ 18
      · rw [if_pos h] at hL; omega
      · omega
    have ht := h19 hK19
    rw [if_neg (by omega)] at hL
    refine ⟨?_, by rw [if_neg (by omega)]; exact hs⟩
    rw [hu, show L - zz = 18 from by omega]; simp
  · rw [if_pos hK18] at hL
    rcases I with ⟨hq, hu, hes, hde⟩ | ⟨hq, hu, hs, he, hd⟩
    · have t0 : tt = 0 := by omega
      have h7 : K ≤ 17 := by
        by_cases h : K = 18
        · have := h18 h; omega
        · omega
      rw [show L - zz - 1 = 18 from by omega] at hu hes
      have e0 : e = 0 := by
        by_cases ee : e = 0
        · exact ee
        · exfalso
          obtain ⟨e', rfl⟩ : ∃ e', e = e' + 1 := ⟨e - 1, by omega⟩
          have : u * 10 ^ (e' + 1) = N := by rw [hu]; simp
          rw [Nat.pow_succ, ← Nat.mul_assoc] at this
          have h := h17 h7
          omega
      refine ⟨by rw [e0] at hu; simpa using hu, by rw [if_pos h7]; omega⟩
    · refine ⟨hu, ?_⟩
      split <;> omega
theorem d3_0 : decode method_5_code 0 = .ok (.bipush 18, 2) := by decide +kernel
theorem d3_2 : decode method_5_code 2 = .ok (.newarray .long, 2) := by decide +kernel
theorem d3_4 : decode method_5_code 4 = .ok (.dup, 1) := by decide +kernel
theorem d3_5 : decode method_5_code 5 = .ok (.iconst 0, 1) := by decide +kernel
theorem d3_6 : decode method_5_code 6 = .ok (.lconst 1, 1) := by decide +kernel
theorem d3_7 : decode method_5_code 7 = .ok (.lastore, 1) := by decide +kernel
theorem d3_8 : decode method_5_code 8 = .ok (.dup, 1) := by decide +kernel
theorem d3_9 : decode method_5_code 9 = .ok (.iconst 1, 1) := by decide +kernel
theorem d3_10 : decode method_5_code 10 = .ok (.ldc2_w 14, 3) := by decide +kernel
theorem d3_13 : decode method_5_code 13 = .ok (.lastore, 1) := by decide +kernel
theorem d3_14 : decode method_5_code 14 = .ok (.dup, 1) := by decide +kernel
theorem d3_15 : decode method_5_code 15 = .ok (.iconst 2, 1) := by decide +kernel
theorem d3_16 : decode method_5_code 16 = .ok (.ldc2_w 44, 3) := by decide +kernel
theorem d3_19 : decode method_5_code 19 = .ok (.lastore, 1) := by decide +kernel
theorem d3_20 : decode method_5_code 20 = .ok (.dup, 1) := by decide +kernel
theorem d3_21 : decode method_5_code 21 = .ok (.iconst 3, 1) := by decide +kernel
theorem d3_22 : decode method_5_code 22 = .ok (.ldc2_w 46, 3) := by decide +kernel
theorem d3_25 : decode method_5_code 25 = .ok (.lastore, 1) := by decide +kernel
theorem d3_26 : decode method_5_code 26 = .ok (.dup, 1) := by decide +kernel
theorem d3_27 : decode method_5_code 27 = .ok (.iconst 4, 1) := by decide +kernel
theorem d3_28 : decode method_5_code 28 = .ok (.ldc2_w 48, 3) := by decide +kernel
theorem d3_31 : decode method_5_code 31 = .ok (.lastore, 1) := by decide +kernel
theorem d3_32 : decode method_5_code 32 = .ok (.dup, 1) := by decide +kernel
theorem d3_33 : decode method_5_code 33 = .ok (.iconst 5, 1) := by decide +kernel
theorem d3_34 : decode method_5_code 34 = .ok (.ldc2_w 50, 3) := by decide +kernel
theorem d3_37 : decode method_5_code 37 = .ok (.lastore, 1) := by decide +kernel
theorem d3_38 : decode method_5_code 38 = .ok (.dup, 1) := by decide +kernel
theorem d3_39 : decode method_5_code 39 = .ok (.bipush 6, 2) := by decide +kernel
theorem d3_41 : decode method_5_code 41 = .ok (.ldc2_w 52, 3) := by decide +kernel
theorem d3_44 : decode method_5_code 44 = .ok (.lastore, 1) := by decide +kernel
theorem d3_45 : decode method_5_code 45 = .ok (.dup, 1) := by decide +kernel
theorem d3_46 : decode method_5_code 46 = .ok (.bipush 7, 2) := by decide +kernel
theorem d3_48 : decode method_5_code 48 = .ok (.ldc2_w 54, 3) := by decide +kernel
theorem d3_51 : decode method_5_code 51 = .ok (.lastore, 1) := by decide +kernel
theorem d3_52 : decode method_5_code 52 = .ok (.dup, 1) := by decide +kernel
theorem d3_53 : decode method_5_code 53 = .ok (.bipush 8, 2) := by decide +kernel
theorem d3_55 : decode method_5_code 55 = .ok (.ldc2_w 56, 3) := by decide +kernel
theorem d3_58 : decode method_5_code 58 = .ok (.lastore, 1) := by decide +kernel
theorem d3_59 : decode method_5_code 59 = .ok (.dup, 1) := by decide +kernel
theorem d3_60 : decode method_5_code 60 = .ok (.bipush 9, 2) := by decide +kernel
theorem d3_62 : decode method_5_code 62 = .ok (.ldc2_w 58, 3) := by decide +kernel
theorem d3_65 : decode method_5_code 65 = .ok (.lastore, 1) := by decide +kernel
theorem d3_66 : decode method_5_code 66 = .ok (.dup, 1) := by decide +kernel
theorem d3_67 : decode method_5_code 67 = .ok (.bipush 10, 2) := by decide +kernel
theorem d3_69 : decode method_5_code 69 = .ok (.ldc2_w 60, 3) := by decide +kernel
theorem d3_72 : decode method_5_code 72 = .ok (.lastore, 1) := by decide +kernel
theorem d3_73 : decode method_5_code 73 = .ok (.dup, 1) := by decide +kernel
theorem d3_74 : decode method_5_code 74 = .ok (.bipush 11, 2) := by decide +kernel
theorem d3_76 : decode method_5_code 76 = .ok (.ldc2_w 62, 3) := by decide +kernel
theorem d3_79 : decode method_5_code 79 = .ok (.lastore, 1) := by decide +kernel
theorem d3_80 : decode method_5_code 80 = .ok (.dup, 1) := by decide +kernel
theorem d3_81 : decode method_5_code 81 = .ok (.bipush 12, 2) := by decide +kernel
theorem d3_83 : decode method_5_code 83 = .ok (.ldc2_w 64, 3) := by decide +kernel
theorem d3_86 : decode method_5_code 86 = .ok (.lastore, 1) := by decide +kernel
theorem d3_87 : decode method_5_code 87 = .ok (.dup, 1) := by decide +kernel
theorem d3_88 : decode method_5_code 88 = .ok (.bipush 13, 2) := by decide +kernel
theorem d3_90 : decode method_5_code 90 = .ok (.ldc2_w 66, 3) := by decide +kernel
theorem d3_93 : decode method_5_code 93 = .ok (.lastore, 1) := by decide +kernel
theorem d3_94 : decode method_5_code 94 = .ok (.dup, 1) := by decide +kernel
theorem d3_95 : decode method_5_code 95 = .ok (.bipush 14, 2) := by decide +kernel
theorem d3_97 : decode method_5_code 97 = .ok (.ldc2_w 68, 3) := by decide +kernel
theorem d3_100 : decode method_5_code 100 = .ok (.lastore, 1) := by decide +kernel
theorem d3_101 : decode method_5_code 101 = .ok (.dup, 1) := by decide +kernel
theorem d3_102 : decode method_5_code 102 = .ok (.bipush 15, 2) := by decide +kernel
theorem d3_104 : decode method_5_code 104 = .ok (.ldc2_w 70, 3) := by decide +kernel
theorem d3_107 : decode method_5_code 107 = .ok (.lastore, 1) := by decide +kernel
theorem d3_108 : decode method_5_code 108 = .ok (.dup, 1) := by decide +kernel
theorem d3_109 : decode method_5_code 109 = .ok (.bipush 16, 2) := by decide +kernel
theorem d3_111 : decode method_5_code 111 = .ok (.ldc2_w 72, 3) := by decide +kernel
theorem d3_114 : decode method_5_code 114 = .ok (.lastore, 1) := by decide +kernel
theorem d3_115 : decode method_5_code 115 = .ok (.dup, 1) := by decide +kernel
theorem d3_116 : decode method_5_code 116 = .ok (.bipush 17, 2) := by decide +kernel
theorem d3_118 : decode method_5_code 118 = .ok (.ldc2_w 74, 3) := by decide +kernel
theorem d3_121 : decode method_5_code 121 = .ok (.lastore, 1) := by decide +kernel
theorem d3_122 : decode method_5_code 122 = .ok (.astore_n 1, 1) := by decide +kernel
theorem d3_123 : decode method_5_code 123 = .ok (.aload_n 1, 1) := by decide +kernel
theorem d3_124 : decode method_5_code 124 = .ok (.iload_n 0, 1) := by decide +kernel
theorem d3_125 : decode method_5_code 125 = .ok (.laload, 1) := by decide +kernel
theorem d3_126 : decode method_5_code 126 = .ok (.lreturn, 1) := by decide +kernel
theorem pn_0 : plainName "com/example/depthline/depthline/core/DecimalParsePinLaw" = true := by first | (simp [plainName, overriddenIn]; done) | decide +kernel
theorem ef_rm3 (m : MethodId) (x0 : Int32) : entryFrame m #[(.int x0)] 2 = mkF m 0 #[.val (.int x0), .unset] [] := by first | (simp [entryFrame, mkF, argsToLocals, Value.category]; done) | rfl
def Qrm3 (Z : State) (pa : Int32) (h0 : Heap) (n0 : Nat) (v : Option Value) (h : Heap) (L : List Loc) : Prop := v = some (.long (own_p pa)) ∧ Fr n0 L ∧ Keep h0 h []
set_option maxRecDepth 65536 in
set_option maxHeartbeats 40000000 in
theorem rm3 (l : Launch) (Z : State) (a0 : Array Value) (hw : ∀ d ∈ tables_1, d.before a0 Z = true) (ws : List Jvm.Cond) (pa : Int32) (h0 : Heap) (n0 : Nat) (O : Old Z n0 h0) (hp0 : ¬ (pa < (0 : Int32))) (hp1 : pa < (18 : Int32)) :
    MetFree l (⟨"com/example/depthline/depthline/core/DecimalParsePinLaw", "pow10", "(I)J"⟩ : MethodName) (head1 (Jvm.Cond.code (⟨"com/example/depthline/depthline/core/DecimalParsePinLaw", "pow10", "(I)J"⟩ : MethodName) method_5_code 2 (some .long) :: ws) ({ frames := 0, cells := 1, slots := 18, locals := 0 } : Room)) (fun a' U' => a' = #[(.int pa)] ∧ Z.Warmed39 U'.vm ∧ U'.heap = h0) (fun _ _ _ _ _ => True) (fun _ U' o' W' => ∃ v' L', o' = .returned v' ∧ Qrm3 Z pa h0 n0 v' W'.heap L' ∧ FrameEnd U' o' W' L' ({ frames := 0, cells := 1, slots := 18, locals := 0 } : Room).cells ({ frames := 0, cells := 1, slots := 18, locals := 0 } : Room).slots) := by
  refine MetFree.of_bodySF (plainFor_of_name pn_0) hisR ?_
  intro p e s m args below meth c s₁ Bd hml0 hP hK
  obtain ⟨rfl, hZ, hh⟩ := hP
  have hx := Bd.exec
  have hby := Bd.bytes
  have hml : c.maxLocals = 2 := hml0
  have hown : s.vm.findClass "com/example/depthline/depthline/core/DecimalParsePinLaw" = some m.cls := findClass_of_methodNamed Bd.named
  have hnm := (name_of_methodNamed Bd.named Bd.method).1
  have X0 : Stand p l e ({ frames := 0, cells := 1, slots := 18, locals := 0 } : Room) s m #[(.int pa)] below meth c s₁ [] 0 0 := Stand.of_body Bd
  have e0 : s₁.heap = h0 := by rw [← hh, Bd.state]; rfl
  have N0 := Fr.nil n0
  have K0 := Keep.refl h0 []
  refine own_start (ef_rm3 m pa) (Q := fun o' t' => ∃ v' L', o' = .returned v' ∧ Qrm3 Z pa h0 n0 v' t'.heap L' ∧ FrameEnd s o' t' L' ({ frames := 0, cells := 1, slots := 18, locals := 0 } : Room).cells ({ frames := 0, cells := 1, slots := 18, locals := 0 } : Room).slots) ?_
  show own_Fin p e below (s₁.setTop (mkF m 0 #[.val (.int pa), .unset] [])) _
  refine own_go (fun _ k => XS.bipush X0.here hx rfl (hb hby d3_0) k) ?_
  show own_Fin p e below (s₁.setTop (mkF m 2 #[.val (.int pa), .unset] [(.int 18)])) _
  obtain ⟨T1, h1, k1, X1, e1, E1, A1, st1⟩ := newP X0 hx hZ (ow hw 15) e0 (g := (mkF m 2 #[.val (.int pa), .unset] [(.int 18)])) rfl (hb hby d3_2) rfl (by decide) (cap := 18) (by decide) (by decide) (by decide) (by decide)
  obtain ⟨b1, g1⟩ : ∃ z, z = h0.size := ⟨_, rfl⟩
  rw [← g1] at A1 st1
  refine own_go (fun _ k => st1 _ k) ?_
  have g_b1 : n0 ≤ b1 := Nat.le_trans (own_osz O) (Nat.le_of_eq g1.symm)
  have sz_b1 : h0.size ≤ b1 := Nat.le_trans K0.1 (Nat.le_of_eq g1.symm)
  have O := O.ext E1
  have K2 := K0.ext E1
  have V_b1 : Arv Z h1 b1 k1 .long (18 : Int32) [(.long (0 : Int64)), (.long (0 : Int64)), (.long (0 : Int64)), (.long (0 : Int64)), (.long (0 : Int64)), (.long (0 : Int64)), (.long (0 : Int64)), (.long (0 : Int64)), (.long (0 : Int64)), (.long (0 : Int64)), (.long (0 : Int64)), (.long (0 : Int64)), (.long (0 : Int64)), (.long (0 : Int64)), (.long (0 : Int64)), (.long (0 : Int64)), (.long (0 : Int64)), (.long (0 : Int64))] (.long (0 : Int64)) := (Arv.new A1 (by decide)).pad (pad_rep [] (.long (0 : Int64)) 18)
  show own_Fin p e below (T1.setTop (mkF m 4 #[.val (.int pa), .unset] [(.ref b1)])) _
  refine own_go (fun _ k => XS.dup X1.here hx rfl (hb hby d3_4) rfl rfl (XS.iconst X1.here hx rfl (hb hby d3_5) (XS.lconst X1.here hx rfl (hb hby d3_6) k))) ?_
  show own_Fin p e below (T1.setTop (mkF m 7 #[.val (.int pa), .unset] [(.long (1 : Int64)), (.int 0), (.ref b1), (.ref b1)])) _
  obtain ⟨cl3, A3, q3, S3, M3, H3, G3⟩ := id V_b1
  have hin3 : ¬ ((0 : Int32) < 0 ∨ cl3.slots.size ≤ ((0 : Int32)).toNatClampNeg) := inb_of S3 ⟨by decide, by decide⟩
  obtain ⟨T3, h3, X3, e3, W3, st3⟩ := stJ X1 hx hZ e1 A3 (j := (0 : Int32)) hin3 (g := (mkF m 7 #[.val (.int pa), .unset] [(.long (1 : Int64)), (.int 0), (.ref b1), (.ref b1)])) rfl rfl (hb hby d3_7)
  refine own_go (fun _ k => st3 _ k) ?_
  have O := O.wr W3 g_b1
  have K4 := K2.wr W3 (Or.inr sz_b1)
  have V_b1 : Arv Z h3 b1 k1 .long (18 : Int32) [(.long (1 : Int64)), (.long (0 : Int64)), (.long (0 : Int64)), (.long (0 : Int64)), (.long (0 : Int64)), (.long (0 : Int64)), (.long (0 : Int64)), (.long (0 : Int64)), (.long (0 : Int64)), (.long (0 : Int64)), (.long (0 : Int64)), (.long (0 : Int64)), (.long (0 : Int64)), (.long (0 : Int64)), (.long (0 : Int64)), (.long (0 : Int64)), (.long (0 : Int64)), (.long (0 : Int64))] (.long (0 : Int64)) := Arv.set A3 q3 S3 M3 H3 G3 rfl W3 0 rfl (Nat.le_of_ble_eq_true rfl)
  have N3 := Fr.snoc X3 N0 g_b1
  show own_Fin p e below (T3.setTop (mkF m 8 #[.val (.int pa), .unset] [(.ref b1)])) _
  refine own_go (fun _ k => XS.dup X3.here hx rfl (hb hby d3_8) rfl rfl (XS.iconst X3.here hx rfl (hb hby d3_9) k)) ?_
  show own_Fin p e below (T3.setTop (mkF m 10 #[.val (.int pa), .unset] [(.int 1), (.ref b1), (.ref b1)])) _
  refine own_go (fun _ k => X3.ldc2Long hx hown (mvT hZ (ow hw 3)) (g := (mkF m 10 #[.val (.int pa), .unset] [(.int 1), (.ref b1), (.ref b1)])) rfl (hb hby d3_10) _ k) ?_
  show own_Fin p e below (T3.setTop (mkF m 13 #[.val (.int pa), .unset] [(.long (10 : Int64)), (.int 1), (.ref b1), (.ref b1)])) _
  obtain ⟨cl5, A5, q5, S5, M5, H5, G5⟩ := id V_b1
  have hin5 : ¬ ((1 : Int32) < 0 ∨ cl5.slots.size ≤ ((1 : Int32)).toNatClampNeg) := inb_of S5 ⟨by decide, by decide⟩
  obtain ⟨T5, h5, X5, e5, W5, st5⟩ := stJ X3 hx hZ e3 A5 (j := (1 : Int32)) hin5 (g := (mkF m 13 #[.val (.int pa), .unset] [(.long (10 : Int64)), (.int 1), (.ref b1), (.ref b1)])) rfl rfl (hb hby d3_13)
  refine own_go (fun _ k => st5 _ k) ?_
  have O := O.wr W5 g_b1
  have K6 := K4.wr W5 (Or.inr sz_b1)
  have V_b1 : Arv Z h5 b1 k1 .long (18 : Int32) [(.long (1 : Int64)), (.long (10 : Int64)), (.long (0 : Int64)), (.long (0 : Int64)), (.long (0 : Int64)), (.long (0 : Int64)), (.long (0 : Int64)), (.long (0 : Int64)), (.long (0 : Int64)), (.long (0 : Int64)), (.long (0 : Int64)), (.long (0 : Int64)), (.long (0 : Int64)), (.long (0 : Int64)), (.long (0 : Int64)), (.long (0 : Int64)), (.long (0 : Int64)), (.long (0 : Int64))] (.long (0 : Int64)) := Arv.set A5 q5 S5 M5 H5 G5 rfl W5 1 rfl (Nat.le_of_ble_eq_true rfl)
  have N5 := Fr.snoc X5 N3 g_b1
  show own_Fin p e below (T5.setTop (mkF m 14 #[.val (.int pa), .unset] [(.ref b1)])) _
  refine own_go (fun _ k => XS.dup X5.here hx rfl (hb hby d3_14) rfl rfl (XS.iconst X5.here hx rfl (hb hby d3_15) k)) ?_
  show own_Fin p e below (T5.setTop (mkF m 16 #[.val (.int pa), .unset] [(.int 2), (.ref b1), (.ref b1)])) _
  refine own_go (fun _ k => X5.ldc2Long hx hown (mvT hZ (ow hw 16)) (g := (mkF m 16 #[.val (.int pa), .unset] [(.int 2), (.ref b1), (.ref b1)])) rfl (hb hby d3_16) _ k) ?_
  show own_Fin p e below (T5.setTop (mkF m 19 #[.val (.int pa), .unset] [(.long (100 : Int64)), (.int 2), (.ref b1), (.ref b1)])) _
  obtain ⟨cl7, A7, q7, S7, M7, H7, G7⟩ := id V_b1
  have hin7 : ¬ ((2 : Int32) < 0 ∨ cl7.slots.size ≤ ((2 : Int32)).toNatClampNeg) := inb_of S7 ⟨by decide, by decide⟩
  obtain ⟨T7, h7, X7, e7, W7, st7⟩ := stJ X5 hx hZ e5 A7 (j := (2 : Int32)) hin7 (g := (mkF m 19 #[.val (.int pa), .unset] [(.long (100 : Int64)), (.int 2), (.ref b1), (.ref b1)])) rfl rfl (hb hby d3_19)
  refine own_go (fun _ k => st7 _ k) ?_
  have O := O.wr W7 g_b1
  have K8 := K6.wr W7 (Or.inr sz_b1)
  have V_b1 : Arv Z h7 b1 k1 .long (18 : Int32) [(.long (1 : Int64)), (.long (10 : Int64)), (.long (100 : Int64)), (.long (0 : Int64)), (.long (0 : Int64)), (.long (0 : Int64)), (.long (0 : Int64)), (.long (0 : Int64)), (.long (0 : Int64)), (.long (0 : Int64)), (.long (0 : Int64)), (.long (0 : Int64)), (.long (0 : Int64)), (.long (0 : Int64)), (.long (0 : Int64)), (.long (0 : Int64)), (.long (0 : Int64)), (.long (0 : Int64))] (.long (0 : Int64)) := Arv.set A7 q7 S7 M7 H7 G7 rfl W7 2 rfl (Nat.le_of_ble_eq_true rfl)
  have N7 := Fr.snoc X7 N5 g_b1
  show own_Fin p e below (T7.setTop (mkF m 20 #[.val (.int pa), .unset] [(.ref b1)])) _
  refine own_go (fun _ k => XS.dup X7.here hx rfl (hb hby d3_20) rfl rfl (XS.iconst X7.here hx rfl (hb hby d3_21) k)) ?_
  show own_Fin p e below (T7.setTop (mkF m 22 #[.val (.int pa), .unset] [(.int 3), (.ref b1), (.ref b1)])) _
  refine own_go (fun _ k => X7.ldc2Long hx hown (mvT hZ (ow hw 17)) (g := (mkF m 22 #[.val (.int pa), .unset] [(.int 3), (.ref b1), (.ref b1)])) rfl (hb hby d3_22) _ k) ?_
  show own_Fin p e below (T7.setTop (mkF m 25 #[.val (.int pa), .unset] [(.long (1000 : Int64)), (.int 3), (.ref b1), (.ref b1)])) _
  obtain ⟨cl9, A9, q9, S9, M9, H9, G9⟩ := id V_b1
  have hin9 : ¬ ((3 : Int32) < 0 ∨ cl9.slots.size ≤ ((3 : Int32)).toNatClampNeg) := inb_of S9 ⟨by decide, by decide⟩
  obtain ⟨T9, h9, X9, e9, W9, st9⟩ := stJ X7 hx hZ e7 A9 (j := (3 : Int32)) hin9 (g := (mkF m 25 #[.val (.int pa), .unset] [(.long (1000 : Int64)), (.int 3), (.ref b1), (.ref b1)])) rfl rfl (hb hby d3_25)
  refine own_go (fun _ k => st9 _ k) ?_
  have O := O.wr W9 g_b1
  have K10 := K8.wr W9 (Or.inr sz_b1)
  have V_b1 : Arv Z h9 b1 k1 .long (18 : Int32) [(.long (1 : Int64)), (.long (10 : Int64)), (.long (100 : Int64)), (.long (1000 : Int64)), (.long (0 : Int64)), (.long (0 : Int64)), (.long (0 : Int64)), (.long (0 : Int64)), (.long (0 : Int64)), (.long (0 : Int64)), (.long (0 : Int64)), (.long (0 : Int64)), (.long (0 : Int64)), (.long (0 : Int64)), (.long (0 : Int64)), (.long (0 : Int64)), (.long (0 : Int64)), (.long (0 : Int64))] (.long (0 : Int64)) := Arv.set A9 q9 S9 M9 H9 G9 rfl W9 3 rfl (Nat.le_of_ble_eq_true rfl)
  have N9 := Fr.snoc X9 N7 g_b1
  show own_Fin p e below (T9.setTop (mkF m 26 #[.val (.int pa), .unset] [(.ref b1)])) _
  refine own_go (fun _ k => XS.dup X9.here hx rfl (hb hby d3_26) rfl rfl (XS.iconst X9.here hx rfl (hb hby d3_27) k)) ?_
  show own_Fin p e below (T9.setTop (mkF m 28 #[.val (.int pa), .unset] [(.int 4), (.ref b1), (.ref b1)])) _
  refine own_go (fun _ k => X9.ldc2Long hx hown (mvT hZ (ow hw 18)) (g := (mkF m 28 #[.val (.int pa), .unset] [(.int 4), (.ref b1), (.ref b1)])) rfl (hb hby d3_28) _ k) ?_
  show own_Fin p e below (T9.setTop (mkF m 31 #[.val (.int pa), .unset] [(.long (10000 : Int64)), (.int 4), (.ref b1), (.ref b1)])) _
  obtain ⟨cl11, A11, q11, S11, M11, H11, G11⟩ := id V_b1
  have hin11 : ¬ ((4 : Int32) < 0 ∨ cl11.slots.size ≤ ((4 : Int32)).toNatClampNeg) := inb_of S11 ⟨by decide, by decide⟩
  obtain ⟨T11, h11, X11, e11, W11, st11⟩ := stJ X9 hx hZ e9 A11 (j := (4 : Int32)) hin11 (g := (mkF m 31 #[.val (.int pa), .unset] [(.long (10000 : Int64)), (.int 4), (.ref b1), (.ref b1)])) rfl rfl (hb hby d3_31)
  refine own_go (fun _ k => st11 _ k) ?_
  have O := O.wr W11 g_b1
  have K12 := K10.wr W11 (Or.inr sz_b1)
  have V_b1 : Arv Z h11 b1 k1 .long (18 : Int32) [(.long (1 : Int64)), (.long (10 : Int64)), (.long (100 : Int64)), (.long (1000 : Int64)), (.long (10000 : Int64)), (.long (0 : Int64)), (.long (0 : Int64)), (.long (0 : Int64)), (.long (0 : Int64)), (.long (0 : Int64)), (.long (0 : Int64)), (.long (0 : Int64)), (.long (0 : Int64)), (.long (0 : Int64)), (.long (0 : Int64)), (.long (0 : Int64)), (.long (0 : Int64)), (.long (0 : Int64))] (.long (0 : Int64)) := Arv.set A11 q11 S11 M11 H11 G11 rfl W11 4 rfl (Nat.le_of_ble_eq_true rfl)
  have N11 := Fr.snoc X11 N9 g_b1
  show own_Fin p e below (T11.setTop (mkF m 32 #[.val (.int pa), .unset] [(.ref b1)])) _
  refine own_go (fun _ k => XS.dup X11.here hx rfl (hb hby d3_32) rfl rfl (XS.iconst X11.here hx rfl (hb hby d3_33) k)) ?_
  show own_Fin p e below (T11.setTop (mkF m 34 #[.val (.int pa), .unset] [(.int 5), (.ref b1), (.ref b1)])) _
  refine own_go (fun _ k => X11.ldc2Long hx hown (mvT hZ (ow hw 19)) (g := (mkF m 34 #[.val (.int pa), .unset] [(.int 5), (.ref b1), (.ref b1)])) rfl (hb hby d3_34) _ k) ?_
  show own_Fin p e below (T11.setTop (mkF m 37 #[.val (.int pa), .unset] [(.long (100000 : Int64)), (.int 5), (.ref b1), (.ref b1)])) _
  obtain ⟨cl13, A13, q13, S13, M13, H13, G13⟩ := id V_b1
  have hin13 : ¬ ((5 : Int32) < 0 ∨ cl13.slots.size ≤ ((5 : Int32)).toNatClampNeg) := inb_of S13 ⟨by decide, by decide⟩
  obtain ⟨T13, h13, X13, e13, W13, st13⟩ := stJ X11 hx hZ e11 A13 (j := (5 : Int32)) hin13 (g := (mkF m 37 #[.val (.int pa), .unset] [(.long (100000 : Int64)), (.int 5), (.ref b1), (.ref b1)])) rfl rfl (hb hby d3_37)
  refine own_go (fun _ k => st13 _ k) ?_
  have O := O.wr W13 g_b1
  have K14 := K12.wr W13 (Or.inr sz_b1)
  have V_b1 : Arv Z h13 b1 k1 .long (18 : Int32) [(.long (1 : Int64)), (.long (10 : Int64)), (.long (100 : Int64)), (.long (1000 : Int64)), (.long (10000 : Int64)), (.long (100000 : Int64)), (.long (0 : Int64)), (.long (0 : Int64)), (.long (0 : Int64)), (.long (0 : Int64)), (.long (0 : Int64)), (.long (0 : Int64)), (.long (0 : Int64)), (.long (0 : Int64)), (.long (0 : Int64)), (.long (0 : Int64)), (.long (0 : Int64)), (.long (0 : Int64))] (.long (0 : Int64)) := Arv.set A13 q13 S13 M13 H13 G13 rfl W13 5 rfl (Nat.le_of_ble_eq_true rfl)
  have N13 := Fr.snoc X13 N11 g_b1
  show own_Fin p e below (T13.setTop (mkF m 38 #[.val (.int pa), .unset] [(.ref b1)])) _
  refine own_go (fun _ k => XS.dup X13.here hx rfl (hb hby d3_38) rfl rfl (XS.bipush X13.here hx rfl (hb hby d3_39) k)) ?_
  show own_Fin p e below (T13.setTop (mkF m 41 #[.val (.int pa), .unset] [(.int 6), (.ref b1), (.ref b1)])) _
  refine own_go (fun _ k => X13.ldc2Long hx hown (mvT hZ (ow hw 20)) (g := (mkF m 41 #[.val (.int pa), .unset] [(.int 6), (.ref b1), (.ref b1)])) rfl (hb hby d3_41) _ k) ?_
  show own_Fin p e below (T13.setTop (mkF m 44 #[.val (.int pa), .unset] [(.long (1000000 : Int64)), (.int 6), (.ref b1), (.ref b1)])) _
  obtain ⟨cl15, A15, q15, S15, M15, H15, G15⟩ := id V_b1
  have hin15 : ¬ ((6 : Int32) < 0 ∨ cl15.slots.size ≤ ((6 : Int32)).toNatClampNeg) := inb_of S15 ⟨by decide, by decide⟩
  obtain ⟨T15, h15, X15, e15, W15, st15⟩ := stJ X13 hx hZ e13 A15 (j := (6 : Int32)) hin15 (g := (mkF m 44 #[.val (.int pa), .unset] [(.long (1000000 : Int64)), (.int 6), (.ref b1), (.ref b1)])) rfl rfl (hb hby d3_44)
  refine own_go (fun _ k => st15 _ k) ?_
  have O := O.wr W15 g_b1
  have K16 := K14.wr W15 (Or.inr sz_b1)
  have V_b1 : Arv Z h15 b1 k1 .long (18 : Int32) [(.long (1 : Int64)), (.long (10 : Int64)), (.long (100 : Int64)), (.long (1000 : Int64)), (.long (10000 : Int64)), (.long (100000 : Int64)), (.long (1000000 : Int64)), (.long (0 : Int64)), (.long (0 : Int64)), (.long (0 : Int64)), (.long (0 : Int64)), (.long (0 : Int64)), (.long (0 : Int64)), (.long (0 : Int64)), (.long (0 : Int64)), (.long (0 : Int64)), (.long (0 : Int64)), (.long (0 : Int64))] (.long (0 : Int64)) := Arv.set A15 q15 S15 M15 H15 G15 rfl W15 6 rfl (Nat.le_of_ble_eq_true rfl)
  have N15 := Fr.snoc X15 N13 g_b1
  show own_Fin p e below (T15.setTop (mkF m 45 #[.val (.int pa), .unset] [(.ref b1)])) _
  refine own_go (fun _ k => XS.dup X15.here hx rfl (hb hby d3_45) rfl rfl (XS.bipush X15.here hx rfl (hb hby d3_46) k)) ?_
  show own_Fin p e below (T15.setTop (mkF m 48 #[.val (.int pa), .unset] [(.int 7), (.ref b1), (.ref b1)])) _
  refine own_go (fun _ k => X15.ldc2Long hx hown (mvT hZ (ow hw 21)) (g := (mkF m 48 #[.val (.int pa), .unset] [(.int 7), (.ref b1), (.ref b1)])) rfl (hb hby d3_48) _ k) ?_
  show own_Fin p e below (T15.setTop (mkF m 51 #[.val (.int pa), .unset] [(.long (10000000 : Int64)), (.int 7), (.ref b1), (.ref b1)])) _
  obtain ⟨cl17, A17, q17, S17, M17, H17, G17⟩ := id V_b1
  have hin17 : ¬ ((7 : Int32) < 0 ∨ cl17.slots.size ≤ ((7 : Int32)).toNatClampNeg) := inb_of S17 ⟨by decide, by decide⟩
  obtain ⟨T17, h17, X17, e17, W17, st17⟩ := stJ X15 hx hZ e15 A17 (j := (7 : Int32)) hin17 (g := (mkF m 51 #[.val (.int pa), .unset] [(.long (10000000 : Int64)), (.int 7), (.ref b1), (.ref b1)])) rfl rfl (hb hby d3_51)
  refine own_go (fun _ k => st17 _ k) ?_
  have O := O.wr W17 g_b1
  have K18 := K16.wr W17 (Or.inr sz_b1)
  have V_b1 : Arv Z h17 b1 k1 .long (18 : Int32) [(.long (1 : Int64)), (.long (10 : Int64)), (.long (100 : Int64)), (.long (1000 : Int64)), (.long (10000 : Int64)), (.long (100000 : Int64)), (.long (1000000 : Int64)), (.long (10000000 : Int64)), (.long (0 : Int64)), (.long (0 : Int64)), (.long (0 : Int64)), (.long (0 : Int64)), (.long (0 : Int64)), (.long (0 : Int64)), (.long (0 : Int64)), (.long (0 : Int64)), (.long (0 : Int64)), (.long (0 : Int64))] (.long (0 : Int64)) := Arv.set A17 q17 S17 M17 H17 G17 rfl W17 7 rfl (Nat.le_of_ble_eq_true rfl)
  have N17 := Fr.snoc X17 N15 g_b1
  show own_Fin p e below (T17.setTop (mkF m 52 #[.val (.int pa), .unset] [(.ref b1)])) _
  refine own_go (fun _ k => XS.dup X17.here hx rfl (hb hby d3_52) rfl rfl (XS.bipush X17.here hx rfl (hb hby d3_53) k)) ?_
  show own_Fin p e below (T17.setTop (mkF m 55 #[.val (.int pa), .unset] [(.int 8), (.ref b1), (.ref b1)])) _
  refine own_go (fun _ k => X17.ldc2Long hx hown (mvT hZ (ow hw 22)) (g := (mkF m 55 #[.val (.int pa), .unset] [(.int 8), (.ref b1), (.ref b1)])) rfl (hb hby d3_55) _ k) ?_
  show own_Fin p e below (T17.setTop (mkF m 58 #[.val (.int pa), .unset] [(.long (100000000 : Int64)), (.int 8), (.ref b1), (.ref b1)])) _
  obtain ⟨cl19, A19, q19, S19, M19, H19, G19⟩ := id V_b1
  have hin19 : ¬ ((8 : Int32) < 0 ∨ cl19.slots.size ≤ ((8 : Int32)).toNatClampNeg) := inb_of S19 ⟨by decide, by decide⟩
  obtain ⟨T19, h19, X19, e19, W19, st19⟩ := stJ X17 hx hZ e17 A19 (j := (8 : Int32)) hin19 (g := (mkF m 58 #[.val (.int pa), .unset] [(.long (100000000 : Int64)), (.int 8), (.ref b1), (.ref b1)])) rfl rfl (hb hby d3_58)
  refine own_go (fun _ k => st19 _ k) ?_
  have O := O.wr W19 g_b1
  have K20 := K18.wr W19 (Or.inr sz_b1)
  have V_b1 : Arv Z h19 b1 k1 .long (18 : Int32) [(.long (1 : Int64)), (.long (10 : Int64)), (.long (100 : Int64)), (.long (1000 : Int64)), (.long (10000 : Int64)), (.long (100000 : Int64)), (.long (1000000 : Int64)), (.long (10000000 : Int64)), (.long (100000000 : Int64)), (.long (0 : Int64)), (.long (0 : Int64)), (.long (0 : Int64)), (.long (0 : Int64)), (.long (0 : Int64)), (.long (0 : Int64)), (.long (0 : Int64)), (.long (0 : Int64)), (.long (0 : Int64))] (.long (0 : Int64)) := Arv.set A19 q19 S19 M19 H19 G19 rfl W19 8 rfl (Nat.le_of_ble_eq_true rfl)
  have N19 := Fr.snoc X19 N17 g_b1
  show own_Fin p e below (T19.setTop (mkF m 59 #[.val (.int pa), .unset] [(.ref b1)])) _
  refine own_go (fun _ k => XS.dup X19.here hx rfl (hb hby d3_59) rfl rfl (XS.bipush X19.here hx rfl (hb hby d3_60) k)) ?_
  show own_Fin p e below (T19.setTop (mkF m 62 #[.val (.int pa), .unset] [(.int 9), (.ref b1), (.ref b1)])) _
  refine own_go (fun _ k => X19.ldc2Long hx hown (mvT hZ (ow hw 23)) (g := (mkF m 62 #[.val (.int pa), .unset] [(.int 9), (.ref b1), (.ref b1)])) rfl (hb hby d3_62) _ k) ?_
  show own_Fin p e below (T19.setTop (mkF m 65 #[.val (.int pa), .unset] [(.long (1000000000 : Int64)), (.int 9), (.ref b1), (.ref b1)])) _
  obtain ⟨cl21, A21, q21, S21, M21, H21, G21⟩ := id V_b1
  have hin21 : ¬ ((9 : Int32) < 0 ∨ cl21.slots.size ≤ ((9 : Int32)).toNatClampNeg) := inb_of S21 ⟨by decide, by decide⟩
  obtain ⟨T21, h21, X21, e21, W21, st21⟩ := stJ X19 hx hZ e19 A21 (j := (9 : Int32)) hin21 (g := (mkF m 65 #[.val (.int pa), .unset] [(.long (1000000000 : Int64)), (.int 9), (.ref b1), (.ref b1)])) rfl rfl (hb hby d3_65)
  refine own_go (fun _ k => st21 _ k) ?_
  have O := O.wr W21 g_b1
  have K22 := K20.wr W21 (Or.inr sz_b1)
  have V_b1 : Arv Z h21 b1 k1 .long (18 : Int32) [(.long (1 : Int64)), (.long (10 : Int64)), (.long (100 : Int64)), (.long (1000 : Int64)), (.long (10000 : Int64)), (.long (100000 : Int64)), (.long (1000000 : Int64)), (.long (10000000 : Int64)), (.long (100000000 : Int64)), (.long (1000000000 : Int64)), (.long (0 : Int64)), (.long (0 : Int64)), (.long (0 : Int64)), (.long (0 : Int64)), (.long (0 : Int64)), (.long (0 : Int64)), (.long (0 : Int64)), (.long (0 : Int64))] (.long (0 : Int64)) := Arv.set A21 q21 S21 M21 H21 G21 rfl W21 9 rfl (Nat.le_of_ble_eq_true rfl)
  have N21 := Fr.snoc X21 N19 g_b1
  show own_Fin p e below (T21.setTop (mkF m 66 #[.val (.int pa), .unset] [(.ref b1)])) _
  refine own_go (fun _ k => XS.dup X21.here hx rfl (hb hby d3_66) rfl rfl (XS.bipush X21.here hx rfl (hb hby d3_67) k)) ?_
  show own_Fin p e below (T21.setTop (mkF m 69 #[.val (.int pa), .unset] [(.int 10), (.ref b1), (.ref b1)])) _
  refine own_go (fun _ k => X21.ldc2Long hx hown (mvT hZ (ow hw 24)) (g := (mkF m 69 #[.val (.int pa), .unset] [(.int 10), (.ref b1), (.ref b1)])) rfl (hb hby d3_69) _ k) ?_
  show own_Fin p e below (T21.setTop (mkF m 72 #[.val (.int pa), .unset] [(.long (10000000000 : Int64)), (.int 10), (.ref b1), (.ref b1)])) _
  obtain ⟨cl23, A23, q23, S23, M23, H23, G23⟩ := id V_b1
  have hin23 : ¬ ((10 : Int32) < 0 ∨ cl23.slots.size ≤ ((10 : Int32)).toNatClampNeg) := inb_of S23 ⟨by decide, by decide⟩
  obtain ⟨T23, h23, X23, e23, W23, st23⟩ := stJ X21 hx hZ e21 A23 (j := (10 : Int32)) hin23 (g := (mkF m 72 #[.val (.int pa), .unset] [(.long (10000000000 : Int64)), (.int 10), (.ref b1), (.ref b1)])) rfl rfl (hb hby d3_72)
  refine own_go (fun _ k => st23 _ k) ?_
  have O := O.wr W23 g_b1
  have K24 := K22.wr W23 (Or.inr sz_b1)
  have V_b1 : Arv Z h23 b1 k1 .long (18 : Int32) [(.long (1 : Int64)), (.long (10 : Int64)), (.long (100 : Int64)), (.long (1000 : Int64)), (.long (10000 : Int64)), (.long (100000 : Int64)), (.long (1000000 : Int64)), (.long (10000000 : Int64)), (.long (100000000 : Int64)), (.long (1000000000 : Int64)), (.long (10000000000 : Int64)), (.long (0 : Int64)), (.long (0 : Int64)), (.long (0 : Int64)), (.long (0 : Int64)), (.long (0 : Int64)), (.long (0 : Int64)), (.long (0 : Int64))] (.long (0 : Int64)) := Arv.set A23 q23 S23 M23 H23 G23 rfl W23 10 rfl (Nat.le_of_ble_eq_true rfl)
  have N23 := Fr.snoc X23 N21 g_b1
  show own_Fin p e below (T23.setTop (mkF m 73 #[.val (.int pa), .unset] [(.ref b1)])) _
  refine own_go (fun _ k => XS.dup X23.here hx rfl (hb hby d3_73) rfl rfl (XS.bipush X23.here hx rfl (hb hby d3_74) k)) ?_
  show own_Fin p e below (T23.setTop (mkF m 76 #[.val (.int pa), .unset] [(.int 11), (.ref b1), (.ref b1)])) _
  refine own_go (fun _ k => X23.ldc2Long hx hown (mvT hZ (ow hw 25)) (g := (mkF m 76 #[.val (.int pa), .unset] [(.int 11), (.ref b1), (.ref b1)])) rfl (hb hby d3_76) _ k) ?_
  show own_Fin p e below (T23.setTop (mkF m 79 #[.val (.int pa), .unset] [(.long (100000000000 : Int64)), (.int 11), (.ref b1), (.ref b1)])) _
  obtain ⟨cl25, A25, q25, S25, M25, H25, G25⟩ := id V_b1
  have hin25 : ¬ ((11 : Int32) < 0 ∨ cl25.slots.size ≤ ((11 : Int32)).toNatClampNeg) := inb_of S25 ⟨by decide, by decide⟩
  obtain ⟨T25, h25, X25, e25, W25, st25⟩ := stJ X23 hx hZ e23 A25 (j := (11 : Int32)) hin25 (g := (mkF m 79 #[.val (.int pa), .unset] [(.long (100000000000 : Int64)), (.int 11), (.ref b1), (.ref b1)])) rfl rfl (hb hby d3_79)
  refine own_go (fun _ k => st25 _ k) ?_
  have O := O.wr W25 g_b1
  have K26 := K24.wr W25 (Or.inr sz_b1)
  have V_b1 : Arv Z h25 b1 k1 .long (18 : Int32) [(.long (1 : Int64)), (.long (10 : Int64)), (.long (100 : Int64)), (.long (1000 : Int64)), (.long (10000 : Int64)), (.long (100000 : Int64)), (.long (1000000 : Int64)), (.long (10000000 : Int64)), (.long (100000000 : Int64)), (.long (1000000000 : Int64)), (.long (10000000000 : Int64)), (.long (100000000000 : Int64)), (.long (0 : Int64)), (.long (0 : Int64)), (.long (0 : Int64)), (.long (0 : Int64)), (.long (0 : Int64)), (.long (0 : Int64))] (.long (0 : Int64)) := Arv.set A25 q25 S25 M25 H25 G25 rfl W25 11 rfl (Nat.le_of_ble_eq_true rfl)
  have N25 := Fr.snoc X25 N23 g_b1
  show own_Fin p e below (T25.setTop (mkF m 80 #[.val (.int pa), .unset] [(.ref b1)])) _
  refine own_go (fun _ k => XS.dup X25.here hx rfl (hb hby d3_80) rfl rfl (XS.bipush X25.here hx rfl (hb hby d3_81) k)) ?_
  show own_Fin p e below (T25.setTop (mkF m 83 #[.val (.int pa), .unset] [(.int 12), (.ref b1), (.ref b1)])) _
  refine own_go (fun _ k => X25.ldc2Long hx hown (mvT hZ (ow hw 26)) (g := (mkF m 83 #[.val (.int pa), .unset] [(.int 12), (.ref b1), (.ref b1)])) rfl (hb hby d3_83) _ k) ?_
  show own_Fin p e below (T25.setTop (mkF m 86 #[.val (.int pa), .unset] [(.long (1000000000000 : Int64)), (.int 12), (.ref b1), (.ref b1)])) _
  obtain ⟨cl27, A27, q27, S27, M27, H27, G27⟩ := id V_b1
  have hin27 : ¬ ((12 : Int32) < 0 ∨ cl27.slots.size ≤ ((12 : Int32)).toNatClampNeg) := inb_of S27 ⟨by decide, by decide⟩
  obtain ⟨T27, h27, X27, e27, W27, st27⟩ := stJ X25 hx hZ e25 A27 (j := (12 : Int32)) hin27 (g := (mkF m 86 #[.val (.int pa), .unset] [(.long (1000000000000 : Int64)), (.int 12), (.ref b1), (.ref b1)])) rfl rfl (hb hby d3_86)
  refine own_go (fun _ k => st27 _ k) ?_
  have O := O.wr W27 g_b1
  have K28 := K26.wr W27 (Or.inr sz_b1)
  have V_b1 : Arv Z h27 b1 k1 .long (18 : Int32) [(.long (1 : Int64)), (.long (10 : Int64)), (.long (100 : Int64)), (.long (1000 : Int64)), (.long (10000 : Int64)), (.long (100000 : Int64)), (.long (1000000 : Int64)), (.long (10000000 : Int64)), (.long (100000000 : Int64)), (.long (1000000000 : Int64)), (.long (10000000000 : Int64)), (.long (100000000000 : Int64)), (.long (1000000000000 : Int64)), (.long (0 : Int64)), (.long (0 : Int64)), (.long (0 : Int64)), (.long (0 : Int64)), (.long (0 : Int64))] (.long (0 : Int64)) := Arv.set A27 q27 S27 M27 H27 G27 rfl W27 12 rfl (Nat.le_of_ble_eq_true rfl)
  have N27 := Fr.snoc X27 N25 g_b1
  show own_Fin p e below (T27.setTop (mkF m 87 #[.val (.int pa), .unset] [(.ref b1)])) _
  refine own_go (fun _ k => XS.dup X27.here hx rfl (hb hby d3_87) rfl rfl (XS.bipush X27.here hx rfl (hb hby d3_88) k)) ?_
  show own_Fin p e below (T27.setTop (mkF m 90 #[.val (.int pa), .unset] [(.int 13), (.ref b1), (.ref b1)])) _
  refine own_go (fun _ k => X27.ldc2Long hx hown (mvT hZ (ow hw 27)) (g := (mkF m 90 #[.val (.int pa), .unset] [(.int 13), (.ref b1), (.ref b1)])) rfl (hb hby d3_90) _ k) ?_
  show own_Fin p e below (T27.setTop (mkF m 93 #[.val (.int pa), .unset] [(.long (10000000000000 : Int64)), (.int 13), (.ref b1), (.ref b1)])) _
  obtain ⟨cl29, A29, q29, S29, M29, H29, G29⟩ := id V_b1
  have hin29 : ¬ ((13 : Int32) < 0 ∨ cl29.slots.size ≤ ((13 : Int32)).toNatClampNeg) := inb_of S29 ⟨by decide, by decide⟩
  obtain ⟨T29, h29, X29, e29, W29, st29⟩ := stJ X27 hx hZ e27 A29 (j := (13 : Int32)) hin29 (g := (mkF m 93 #[.val (.int pa), .unset] [(.long (10000000000000 : Int64)), (.int 13), (.ref b1), (.ref b1)])) rfl rfl (hb hby d3_93)
  refine own_go (fun _ k => st29 _ k) ?_
  have O := O.wr W29 g_b1
  have K30 := K28.wr W29 (Or.inr sz_b1)
  have V_b1 : Arv Z h29 b1 k1 .long (18 : Int32) [(.long (1 : Int64)), (.long (10 : Int64)), (.long (100 : Int64)), (.long (1000 : Int64)), (.long (10000 : Int64)), (.long (100000 : Int64)), (.long (1000000 : Int64)), (.long (10000000 : Int64)), (.long (100000000 : Int64)), (.long (1000000000 : Int64)), (.long (10000000000 : Int64)), (.long (100000000000 : Int64)), (.long (1000000000000 : Int64)), (.long (10000000000000 : Int64)), (.long (0 : Int64)), (.long (0 : Int64)), (.long (0 : Int64)), (.long (0 : Int64))] (.long (0 : Int64)) := Arv.set A29 q29 S29 M29 H29 G29 rfl W29 13 rfl (Nat.le_of_ble_eq_true rfl)
  have N29 := Fr.snoc X29 N27 g_b1
  show own_Fin p e below (T29.setTop (mkF m 94 #[.val (.int pa), .unset] [(.ref b1)])) _
  refine own_go (fun _ k => XS.dup X29.here hx rfl (hb hby d3_94) rfl rfl (XS.bipush X29.here hx rfl (hb hby d3_95) k)) ?_
  show own_Fin p e below (T29.setTop (mkF m 97 #[.val (.int pa), .unset] [(.int 14), (.ref b1), (.ref b1)])) _
  refine own_go (fun _ k => X29.ldc2Long hx hown (mvT hZ (ow hw 28)) (g := (mkF m 97 #[.val (.int pa), .unset] [(.int 14), (.ref b1), (.ref b1)])) rfl (hb hby d3_97) _ k) ?_
  show own_Fin p e below (T29.setTop (mkF m 100 #[.val (.int pa), .unset] [(.long (100000000000000 : Int64)), (.int 14), (.ref b1), (.ref b1)])) _
  obtain ⟨cl31, A31, q31, S31, M31, H31, G31⟩ := id V_b1
  have hin31 : ¬ ((14 : Int32) < 0 ∨ cl31.slots.size ≤ ((14 : Int32)).toNatClampNeg) := inb_of S31 ⟨by decide, by decide⟩
  obtain ⟨T31, h31, X31, e31, W31, st31⟩ := stJ X29 hx hZ e29 A31 (j := (14 : Int32)) hin31 (g := (mkF m 100 #[.val (.int pa), .unset] [(.long (100000000000000 : Int64)), (.int 14), (.ref b1), (.ref b1)])) rfl rfl (hb hby d3_100)
  refine own_go (fun _ k => st31 _ k) ?_
  have O := O.wr W31 g_b1
  have K32 := K30.wr W31 (Or.inr sz_b1)
  have V_b1 : Arv Z h31 b1 k1 .long (18 : Int32) [(.long (1 : Int64)), (.long (10 : Int64)), (.long (100 : Int64)), (.long (1000 : Int64)), (.long (10000 : Int64)), (.long (100000 : Int64)), (.long (1000000 : Int64)), (.long (10000000 : Int64)), (.long (100000000 : Int64)), (.long (1000000000 : Int64)), (.long (10000000000 : Int64)), (.long (100000000000 : Int64)), (.long (1000000000000 : Int64)), (.long (10000000000000 : Int64)), (.long (100000000000000 : Int64)), (.long (0 : Int64)), (.long (0 : Int64)), (.long (0 : Int64))] (.long (0 : Int64)) := Arv.set A31 q31 S31 M31 H31 G31 rfl W31 14 rfl (Nat.le_of_ble_eq_true rfl)
  have N31 := Fr.snoc X31 N29 g_b1
  show own_Fin p e below (T31.setTop (mkF m 101 #[.val (.int pa), .unset] [(.ref b1)])) _
  refine own_go (fun _ k => XS.dup X31.here hx rfl (hb hby d3_101) rfl rfl (XS.bipush X31.here hx rfl (hb hby d3_102) k)) ?_
  show own_Fin p e below (T31.setTop (mkF m 104 #[.val (.int pa), .unset] [(.int 15), (.ref b1), (.ref b1)])) _
  refine own_go (fun _ k => X31.ldc2Long hx hown (mvT hZ (ow hw 29)) (g := (mkF m 104 #[.val (.int pa), .unset] [(.int 15), (.ref b1), (.ref b1)])) rfl (hb hby d3_104) _ k) ?_
  show own_Fin p e below (T31.setTop (mkF m 107 #[.val (.int pa), .unset] [(.long (1000000000000000 : Int64)), (.int 15), (.ref b1), (.ref b1)])) _
  obtain ⟨cl33, A33, q33, S33, M33, H33, G33⟩ := id V_b1
  have hin33 : ¬ ((15 : Int32) < 0 ∨ cl33.slots.size ≤ ((15 : Int32)).toNatClampNeg) := inb_of S33 ⟨by decide, by decide⟩
  obtain ⟨T33, h33, X33, e33, W33, st33⟩ := stJ X31 hx hZ e31 A33 (j := (15 : Int32)) hin33 (g := (mkF m 107 #[.val (.int pa), .unset] [(.long (1000000000000000 : Int64)), (.int 15), (.ref b1), (.ref b1)])) rfl rfl (hb hby d3_107)
  refine own_go (fun _ k => st33 _ k) ?_
  have O := O.wr W33 g_b1
  have K34 := K32.wr W33 (Or.inr sz_b1)
  have V_b1 : Arv Z h33 b1 k1 .long (18 : Int32) [(.long (1 : Int64)), (.long (10 : Int64)), (.long (100 : Int64)), (.long (1000 : Int64)), (.long (10000 : Int64)), (.long (100000 : Int64)), (.long (1000000 : Int64)), (.long (10000000 : Int64)), (.long (100000000 : Int64)), (.long (1000000000 : Int64)), (.long (10000000000 : Int64)), (.long (100000000000 : Int64)), (.long (1000000000000 : Int64)), (.long (10000000000000 : Int64)), (.long (100000000000000 : Int64)), (.long (1000000000000000 : Int64)), (.long (0 : Int64)), (.long (0 : Int64))] (.long (0 : Int64)) := Arv.set A33 q33 S33 M33 H33 G33 rfl W33 15 rfl (Nat.le_of_ble_eq_true rfl)
  have N33 := Fr.snoc X33 N31 g_b1
  show own_Fin p e below (T33.setTop (mkF m 108 #[.val (.int pa), .unset] [(.ref b1)])) _
  refine own_go (fun _ k => XS.dup X33.here hx rfl (hb hby d3_108) rfl rfl (XS.bipush X33.here hx rfl (hb hby d3_109) k)) ?_
  show own_Fin p e below (T33.setTop (mkF m 111 #[.val (.int pa), .unset] [(.int 16), (.ref b1), (.ref b1)])) _
  refine own_go (fun _ k => X33.ldc2Long hx hown (mvT hZ (ow hw 30)) (g := (mkF m 111 #[.val (.int pa), .unset] [(.int 16), (.ref b1), (.ref b1)])) rfl (hb hby d3_111) _ k) ?_
  show own_Fin p e below (T33.setTop (mkF m 114 #[.val (.int pa), .unset] [(.long (10000000000000000 : Int64)), (.int 16), (.ref b1), (.ref b1)])) _
  obtain ⟨cl35, A35, q35, S35, M35, H35, G35⟩ := id V_b1
  have hin35 : ¬ ((16 : Int32) < 0 ∨ cl35.slots.size ≤ ((16 : Int32)).toNatClampNeg) := inb_of S35 ⟨by decide, by decide⟩
  obtain ⟨T35, h35, X35, e35, W35, st35⟩ := stJ X33 hx hZ e33 A35 (j := (16 : Int32)) hin35 (g := (mkF m 114 #[.val (.int pa), .unset] [(.long (10000000000000000 : Int64)), (.int 16), (.ref b1), (.ref b1)])) rfl rfl (hb hby d3_114)
  refine own_go (fun _ k => st35 _ k) ?_
  have O := O.wr W35 g_b1
  have K36 := K34.wr W35 (Or.inr sz_b1)
  have V_b1 : Arv Z h35 b1 k1 .long (18 : Int32) [(.long (1 : Int64)), (.long (10 : Int64)), (.long (100 : Int64)), (.long (1000 : Int64)), (.long (10000 : Int64)), (.long (100000 : Int64)), (.long (1000000 : Int64)), (.long (10000000 : Int64)), (.long (100000000 : Int64)), (.long (1000000000 : Int64)), (.long (10000000000 : Int64)), (.long (100000000000 : Int64)), (.long (1000000000000 : Int64)), (.long (10000000000000 : Int64)), (.long (100000000000000 : Int64)), (.long (1000000000000000 : Int64)), (.long (10000000000000000 : Int64)), (.long (0 : Int64))] (.long (0 : Int64)) := Arv.set A35 q35 S35 M35 H35 G35 rfl W35 16 rfl (Nat.le_of_ble_eq_true rfl)
  have N35 := Fr.snoc X35 N33 g_b1
  show own_Fin p e below (T35.setTop (mkF m 115 #[.val (.int pa), .unset] [(.ref b1)])) _
  refine own_go (fun _ k => XS.dup X35.here hx rfl (hb hby d3_115) rfl rfl (XS.bipush X35.here hx rfl (hb hby d3_116) k)) ?_
  show own_Fin p e below (T35.setTop (mkF m 118 #[.val (.int pa), .unset] [(.int 17), (.ref b1), (.ref b1)])) _
  refine own_go (fun _ k => X35.ldc2Long hx hown (mvT hZ (ow hw 31)) (g := (mkF m 118 #[.val (.int pa), .unset] [(.int 17), (.ref b1), (.ref b1)])) rfl (hb hby d3_118) _ k) ?_
  show own_Fin p e below (T35.setTop (mkF m 121 #[.val (.int pa), .unset] [(.long (100000000000000000 : Int64)), (.int 17), (.ref b1), (.ref b1)])) _
  obtain ⟨cl37, A37, q37, S37, M37, H37, G37⟩ := id V_b1
  have hin37 : ¬ ((17 : Int32) < 0 ∨ cl37.slots.size ≤ ((17 : Int32)).toNatClampNeg) := inb_of S37 ⟨by decide, by decide⟩
  obtain ⟨T37, h37, X37, e37, W37, st37⟩ := stJ X35 hx hZ e35 A37 (j := (17 : Int32)) hin37 (g := (mkF m 121 #[.val (.int pa), .unset] [(.long (100000000000000000 : Int64)), (.int 17), (.ref b1), (.ref b1)])) rfl rfl (hb hby d3_121)
  refine own_go (fun _ k => st37 _ k) ?_
  have O := O.wr W37 g_b1
  have K38 := K36.wr W37 (Or.inr sz_b1)
  have V_b1 : Arv Z h37 b1 k1 .long (18 : Int32) [(.long (1 : Int64)), (.long (10 : Int64)), (.long (100 : Int64)), (.long (1000 : Int64)), (.long (10000 : Int64)), (.long (100000 : Int64)), (.long (1000000 : Int64)), (.long (10000000 : Int64)), (.long (100000000 : Int64)), (.long (1000000000 : Int64)), (.long (10000000000 : Int64)), (.long (100000000000 : Int64)), (.long (1000000000000 : Int64)), (.long (10000000000000 : Int64)), (.long (100000000000000 : Int64)), (.long (1000000000000000 : Int64)), (.long (10000000000000000 : Int64)), (.long (100000000000000000 : Int64))] (.long (0 : Int64)) := Arv.set A37 q37 S37 M37 H37 G37 rfl W37 17 rfl (Nat.le_of_ble_eq_true rfl)
  have N37 := Fr.snoc X37 N35 g_b1
  show own_Fin p e below (T37.setTop (mkF m 122 #[.val (.int pa), .unset] [(.ref b1)])) _
  refine own_go (fun _ k => XS.astoreN X37.here hx rfl (hb hby d3_122) rfl rfl (l' := #[.val (.int pa), .val (.ref b1)]) rfl (XS.aloadN X37.here hx rfl (hb hby d3_123) rfl rfl (XS.iloadN X37.here hx rfl (hb hby d3_124) rfl k))) ?_
  show own_Fin p e below (T37.setTop (mkF m 125 #[.val (.int pa), .val (.ref b1)] [(.int pa), (.ref b1)])) _
  obtain ⟨cl39, A39, q39, S39, M39, H39, G39⟩ := id V_b1
  have hin39 : ¬ (pa < 0 ∨ cl39.slots.size ≤ (pa).toNatClampNeg) := inb_of S39 ⟨hp0, hp1⟩
  have hat39 : cl39.slots[(pa).toNatClampNeg]? = some (.long (own_p pa)) := Has.at H39 hin39 (own_pget pa)
  refine own_go (fun _ k => X37.laload hx (j := pa) (v := (.long (own_p pa))) (own_eqE e37 A39.1) (State.isArrayOf_alike hZ.alike A39.2.1) A39.2.2 hin39 hat39 (g := (mkF m 125 #[.val (.int pa), .val (.ref b1)] [(.int pa), (.ref b1)])) rfl rfl (hb hby d3_125) _ k) ?_
  show own_Fin p e below (T37.setTop (mkF m 126 #[.val (.int pa), .val (.ref b1)] [(.long (own_p pa))])) _
  obtain ⟨fs, hr, hrun, hended, hW, hsame⟩ := X37.leave (v := some (.long (own_p pa))) (fun h => by rw [Bd.returns] at h; cases h)
  refine ⟨_, _, ?_, hrun, hended, _, _, rfl, ?_, ⟨_, rfl⟩, hW, hsame.mono (by decide) (by decide)⟩
  ·exact own_retJ X37 hx Bd.returns (hb hby d3_126) hr
  ·show Qrm3 Z pa h0 n0 _ T37.heap _
   rw [e37]
   exact ⟨rfl, N37, K38⟩
theorem d2_0 : decode method_4_code 0 = .ok (.bipush 48, 2) := by decide +kernel
theorem d2_2 : decode method_4_code 2 = .ok (.lload_n 0, 1) := by decide +kernel
theorem d2_3 : decode method_4_code 3 = .ok (.bipush 17, 2) := by decide +kernel
theorem d2_5 : decode method_4_code 5 = .ok (.iload_n 2, 1) := by decide +kernel
theorem d2_6 : decode method_4_code 6 = .ok (.isub, 1) := by decide +kernel
theorem d2_7 : decode method_4_code 7 = .ok (.invokestatic 40, 3) := by decide +kernel
theorem pd_0 : parseMethodDescriptor "(I)J" = some ⟨[.int], some .long⟩ := by decide +kernel
theorem d2_10 : decode method_4_code 10 = .ok (.ldiv, 1) := by decide +kernel
theorem d2_11 : decode method_4_code 11 = .ok (.ldc2_w 14, 3) := by decide +kernel
theorem d2_14 : decode method_4_code 14 = .ok (.lrem, 1) := by decide +kernel
theorem d2_15 : decode method_4_code 15 = .ok (.l2i, 1) := by decide +kernel
theorem d2_16 : decode method_4_code 16 = .ok (.iadd, 1) := by decide +kernel
theorem d2_17 : decode method_4_code 17 = .ok (.i2c, 1) := by decide +kernel
theorem d2_18 : decode method_4_code 18 = .ok (.ireturn, 1) := by decide +kernel
theorem ef_rm2 (m : MethodId) (x0 : Int64) (x1 : Int32) : entryFrame m #[(.long x0), (.int x1)] 3 = mkF m 0 #[.val (.long x0), .second, .val (.int x1)] [] := by first | (simp [entryFrame, mkF, argsToLocals, Value.category]; done) | rfl
def Qrm2 (Z : State) (n : Int64) (q : Int32) (h0 : Heap) (n0 : Nat) (v : Option Value) (h : Heap) (L : List Loc) : Prop := v = some (.int (own_dig n q)) ∧ Fr n0 L ∧ Keep h0 h []
set_option maxRecDepth 65536 in
set_option maxHeartbeats 40000000 in
theorem rm2 (l : Launch) (Z : State) (a0 : Array Value) (hw : ∀ d ∈ tables_1, d.before a0 Z = true) (ws : List Jvm.Cond) (n : Int64) (q : Int32) (h0 : Heap) (n0 : Nat) (O : Old Z n0 h0) (hq0 : ¬ (q < (0 : Int32))) (hq1 : q < (18 : Int32)) :
    MetFree l (⟨"com/example/depthline/depthline/core/DecimalParsePinLaw", "digit", "(JI)C"⟩ : MethodName) (head1 (Jvm.Cond.code (⟨"com/example/depthline/depthline/core/DecimalParsePinLaw", "digit", "(JI)C"⟩ : MethodName) method_4_code 3 (some .char) :: ws) ({ frames := 1, cells := 1, slots := 18, locals := 16 } : Room)) (fun a' U' => a' = #[(.long n), (.int q)] ∧ Z.Warmed39 U'.vm ∧ U'.heap = h0) (fun _ _ _ _ _ => True) (fun _ U' o' W' => ∃ v' L', o' = .returned v' ∧ Qrm2 Z n q h0 n0 v' W'.heap L' ∧ FrameEnd U' o' W' L' ({ frames := 1, cells := 1, slots := 18, locals := 16 } : Room).cells ({ frames := 1, cells := 1, slots := 18, locals := 16 } : Room).slots) := by
  refine MetFree.of_bodySF (plainFor_of_name pn_0) hisR ?_
  intro p e s m args below meth c s₁ Bd hml0 hP hK
  obtain ⟨rfl, hZ, hh⟩ := hP
  have hx := Bd.exec
  have hby := Bd.bytes
  have hml : c.maxLocals = 3 := hml0
  have hown : s.vm.findClass "com/example/depthline/depthline/core/DecimalParsePinLaw" = some m.cls := findClass_of_methodNamed Bd.named
  have hnm := (name_of_methodNamed Bd.named Bd.method).1
  have X0 : Stand p l e ({ frames := 1, cells := 1, slots := 18, locals := 16 } : Room) s m #[(.long n), (.int q)] below meth c s₁ [] 0 0 := Stand.of_body Bd
  have e0 : s₁.heap = h0 := by rw [← hh, Bd.state]; rfl
  have N0 := Fr.nil n0
  have K0 := Keep.refl h0 []
  refine own_start (ef_rm2 m n q) (Q := fun o' t' => ∃ v' L', o' = .returned v' ∧ Qrm2 Z n q h0 n0 v' t'.heap L' ∧ FrameEnd s o' t' L' ({ frames := 1, cells := 1, slots := 18, locals := 16 } : Room).cells ({ frames := 1, cells := 1, slots := 18, locals := 16 } : Room).slots) ?_
  show own_Fin p e below (s₁.setTop (mkF m 0 #[.val (.long n), .second, .val (.int q)] [])) _
  refine own_go (fun _ k => XS.bipush X0.here hx rfl (hb hby d2_0) (XS.lloadN X0.here hx rfl (hb hby d2_2) rfl (XS.bipush X0.here hx rfl (hb hby d2_3) (XS.iloadN X0.here hx rfl (hb hby d2_5) rfl (XS.isub X0.here hx rfl (hb hby d2_6) rfl k))))) ?_
  show own_Fin p e below (s₁.setTop (mkF m 7 #[.val (.long n), .second, .val (.int q)] [(.int ((17 : Int32) - q)), (.long n), (.int 48)])) _
  obtain ⟨_, _, ⟨T41, L41, k41, n41⟩, -, X41, ⟨Lc41, hQ41, l41, y41, z41⟩, st41⟩ := Jvm.LawKit.callS X0 hx (y := (⟨"com/example/depthline/depthline/core/DecimalParsePinLaw", "pow10", "(I)J"⟩ : MethodName)) hown (mvT hZ (ow hw 12)) (mvT hZ (ow hw 13)) (mvT hZ (ow hw 7)) (mvT hZ (ow hw 14)) (by decide) (backOf (W := 3) (rm3 l Z a0 hw [] ((17 : Int32) - q) h0 n0 O (own_sub17 hq0 hq1).1 (own_sub17 hq0 hq1).2) hZ (ow hw 14) (ow hw 7) (by decide) (by decide)) (g := (mkF m 7 #[.val (.long n), .second, .val (.int q)] [(.int ((17 : Int32) - q)), (.long n), (.int 48)])) rfl (by rw [hml]; rfl) (argsL := [(.int ((17 : Int32) - q))]) (rest := [(.long n), (.int 48)]) (lenOf pd_0 rfl) rfl (by show 2 * 0 + _ ≤ _; exact Nat.le_of_eq rfl) (hb hby d2_7) (fun _ _ => ⟨rfl, e0, (by decide : 0 + 1 ≤ _), (by decide : 0 + 18 ≤ _)⟩)
  dsimp only [Pt.U, Pt.locs, Pt.cells, Pt.slots] at X41 l41 y41 z41 st41 hQ41
  subst y41 z41
  obtain ⟨rfl, N41q, Kq41⟩ := hQ41
  refine own_go (fun _ k => st41 _ k) ?_
  have N41 := own_frl l41 (Fr.app N0 N41q)
  have O := O.keep Kq41 all0
  have K42 := K0.trans Kq41 all0
  show own_Fin p e below (T41.setTop (mkF m 10 #[.val (.long n), .second, .val (.int q)] [(.long (own_p ((17 : Int32) - q))), (.long n), (.int 48)])) _
  refine own_go (fun _ k => XS.ldiv X41.here hx rfl (hb hby d2_10) rfl (own_pnz (own_sub17 hq0 hq1).1 (own_sub17 hq0 hq1).2) k) ?_
  show own_Fin p e below (T41.setTop (mkF m 11 #[.val (.long n), .second, .val (.int q)] [(.long (n / (own_p ((17 : Int32) - q)))), (.int 48)])) _
  refine own_go (fun _ k => X41.ldc2Long hx hown (mvT hZ (ow hw 3)) (g := (mkF m 11 #[.val (.long n), .second, .val (.int q)] [(.long (n / (own_p ((17 : Int32) - q)))), (.int 48)])) rfl (hb hby d2_11) _ k) ?_
  show own_Fin p e below (T41.setTop (mkF m 14 #[.val (.long n), .second, .val (.int q)] [(.long (10 : Int64)), (.long (n / (own_p ((17 : Int32) - q)))), (.int 48)])) _
  refine own_go (fun _ k => XS.lrem X41.here hx rfl (hb hby d2_14) rfl (by decide) (XS.l2i X41.here hx rfl (hb hby d2_15) rfl (XS.iadd X41.here hx rfl (hb hby d2_16) rfl (XS.i2c X41.here hx rfl (hb hby d2_17) rfl k)))) ?_
  show own_Fin p e below (T41.setTop (mkF m 18 #[.val (.long n), .second, .val (.int q)] [(.int (((48 : Int32) + (((n / (own_p ((17 : Int32) - q))) - ((n / (own_p ((17 : Int32) - q))) / (10 : Int64)) * (10 : Int64)).toInt32)).toUInt32.toUInt16.toUInt32.toInt32))])) _
  obtain ⟨fs, hr, hrun, hended, hW, hsame⟩ := X41.leave (v := some (.int (nar .char (((48 : Int32) + (((n / (own_p ((17 : Int32) - q))) - ((n / (own_p ((17 : Int32) - q))) / (10 : Int64)) * (10 : Int64)).toInt32)).toUInt32.toUInt16.toUInt32.toInt32)))) (fun h => by rw [Bd.returns] at h; cases h)
  refine ⟨_, _, ?_, hrun, hended, _, _, rfl, ?_, ⟨_, rfl⟩, hW, hsame.mono (by decide) (by decide)⟩
  ·exact retN X41 hx (t := .char) Bd.returns (by simp) (hb hby d2_18) hr
  ·show Qrm2 Z n q h0 n0 _ T41.heap _
   exact ⟨rfl, N41, K42⟩
theorem d1_0 : decode method_3_code 0 = .ok (.iload_n 0, 1) := by decide +kernel
theorem d1_1 : decode method_3_code 1 = .ok (.iload_n 1, 1) := by decide +kernel
theorem d1_2 : decode method_3_code 2 = .ok (.isub, 1) := by decide +kernel
theorem d1_3 : decode method_3_code 3 = .ok (.istore 8, 2) := by decide +kernel
theorem d1_5 : decode method_3_code 5 = .ok (.iload 8, 2) := by decide +kernel
theorem d1_7 : decode method_3_code 7 = .ok (.ifCond .lt 9, 3) := by decide +kernel
theorem d1_16 : decode method_3_code 16 = .ok (.iload 7, 2) := by decide +kernel
theorem d1_18 : decode method_3_code 18 = .ok (.ireturn, 1) := by decide +kernel
theorem d1_10 : decode method_3_code 10 = .ok (.iload 8, 2) := by decide +kernel
theorem d1_12 : decode method_3_code 12 = .ok (.iload_n 2, 1) := by decide +kernel
theorem d1_13 : decode method_3_code 13 = .ok (.if_icmp .lt 6, 3) := by decide +kernel
theorem d1_19 : decode method_3_code 19 = .ok (.iload 8, 2) := by decide +kernel
theorem d1_21 : decode method_3_code 21 = .ok (.iload_n 3, 1) := by decide +kernel
theorem d1_22 : decode method_3_code 22 = .ok (.if_icmp .ge 6, 3) := by decide +kernel
theorem d1_25 : decode method_3_code 25 = .ok (.bipush 48, 2) := by decide +kernel
theorem d1_27 : decode method_3_code 27 = .ok (.ireturn, 1) := by decide +kernel
theorem d1_28 : decode method_3_code 28 = .ok (.iload 8, 2) := by decide +kernel
theorem d1_30 : decode method_3_code 30 = .ok (.iload_n 3, 1) := by decide +kernel
theorem d1_31 : decode method_3_code 31 = .ok (.isub, 1) := by decide +kernel
theorem d1_32 : decode method_3_code 32 = .ok (.istore 9, 2) := by decide +kernel
theorem d1_34 : decode method_3_code 34 = .ok (.iload 4, 2) := by decide +kernel
theorem d1_36 : decode method_3_code 36 = .ok (.bipush 19, 2) := by decide +kernel
theorem d1_38 : decode method_3_code 38 = .ok (.if_icmp .ne 11, 3) := by decide +kernel
theorem d1_41 : decode method_3_code 41 = .ok (.lload 5, 2) := by decide +kernel
theorem d1_43 : decode method_3_code 43 = .ok (.iload 9, 2) := by decide +kernel
theorem d1_45 : decode method_3_code 45 = .ok (.invokestatic 36, 3) := by decide +kernel
theorem pd_1 : parseMethodDescriptor "(JI)C" = some ⟨[.long, .int], some .char⟩ := by decide +kernel
theorem d1_48 : decode method_3_code 48 = .ok (.ireturn, 1) := by decide +kernel
theorem d1_49 : decode method_3_code 49 = .ok (.iload 9, 2) := by decide +kernel
theorem d1_51 : decode method_3_code 51 = .ok (.iload 4, 2) := by decide +kernel
theorem d1_53 : decode method_3_code 53 = .ok (.if_icmp .ge 11, 3) := by decide +kernel
theorem d1_56 : decode method_3_code 56 = .ok (.lload 5, 2) := by decide +kernel
theorem d1_58 : decode method_3_code 58 = .ok (.iload 9, 2) := by decide +kernel
theorem d1_60 : decode method_3_code 60 = .ok (.invokestatic 36, 3) := by decide +kernel
theorem d1_63 : decode method_3_code 63 = .ok (.ireturn, 1) := by decide +kernel
theorem d1_64 : decode method_3_code 64 = .ok (.iload 9, 2) := by decide +kernel
theorem d1_66 : decode method_3_code 66 = .ok (.iload 4, 2) := by decide +kernel
theorem d1_68 : decode method_3_code 68 = .ok (.if_icmp .ne 6, 3) := by decide +kernel
theorem d1_71 : decode method_3_code 71 = .ok (.bipush 46, 2) := by decide +kernel
theorem d1_73 : decode method_3_code 73 = .ok (.ireturn, 1) := by decide +kernel
theorem d1_74 : decode method_3_code 74 = .ok (.iload 9, 2) := by decide +kernel
theorem d1_76 : decode method_3_code 76 = .ok (.bipush 18, 2) := by decide +kernel
theorem d1_78 : decode method_3_code 78 = .ok (.if_icmp .gt 13, 3) := by decide +kernel
theorem d1_91 : decode method_3_code 91 = .ok (.bipush 48, 2) := by decide +kernel
theorem d1_93 : decode method_3_code 93 = .ok (.ireturn, 1) := by decide +kernel
theorem d1_81 : decode method_3_code 81 = .ok (.lload 5, 2) := by decide +kernel
theorem d1_83 : decode method_3_code 83 = .ok (.iload 9, 2) := by decide +kernel
theorem d1_85 : decode method_3_code 85 = .ok (.iconst 1, 1) := by decide +kernel
theorem d1_86 : decode method_3_code 86 = .ok (.isub, 1) := by decide +kernel
theorem d1_87 : decode method_3_code 87 = .ok (.invokestatic 36, 3) := by decide +kernel
theorem d1_90 : decode method_3_code 90 = .ok (.ireturn, 1) := by decide +kernel
theorem ef_rm1 (m : MethodId) (x0 : Int32) (x1 : Int32) (x2 : Int32) (x3 : Int32) (x4 : Int32) (x5 : Int64) (x6 : Int32) : entryFrame m #[(.int x0), (.int x1), (.int x2), (.int x3), (.int x4), (.long x5), (.int x6)] 10 = mkF m 0 #[.val (.int x0), .val (.int x1), .val (.int x2), .val (.int x3), .val (.int x4), .val (.long x5), .second, .val (.int x6), .unset, .unset] [] := by first | (simp [entryFrame, mkF, argsToLocals, Value.category]; done) | rfl
def Qrm1 (Z : State) (j : Int32) (o : Int32) (len : Int32) (z : Int32) (kz : Int32) (n : Int64) (g_ : Int32) (h0 : Heap) (n0 : Nat) (v : Option Value) (h : Heap) (L : List Loc) : Prop := v = some (.int (own_cell j o len z kz n g_)) ∧ Fr n0 L ∧ Keep h0 h []
set_option maxRecDepth 65536 in
set_option maxHeartbeats 40000000 in
theorem rm1 (l : Launch) (Z : State) (a0 : Array Value) (hw : ∀ d ∈ tables_1, d.before a0 Z = true) (ws : List Jvm.Cond) (j : Int32) (o : Int32) (len : Int32) (z : Int32) (kz : Int32) (n : Int64) (g_ : Int32) (h0 : Heap) (n0 : Nat) (O : Old Z n0 h0) (hB : own_B j o len z kz) :
    MetFree l (⟨"com/example/depthline/depthline/core/DecimalParsePinLaw", "cell", "(IIIIIJC)C"⟩ : MethodName) (head1 (Jvm.Cond.code (⟨"com/example/depthline/depthline/core/DecimalParsePinLaw", "cell", "(IIIIIJC)C"⟩ : MethodName) method_3_code 10 (some .char) :: ws) ({ frames := 2, cells := 1, slots := 18, locals := 30 } : Room)) (fun a' U' => a' = #[(.int j), (.int o), (.int len), (.int z), (.int kz), (.long n), (.int g_)] ∧ Z.Warmed39 U'.vm ∧ U'.heap = h0) (fun _ _ _ _ _ => True) (fun _ U' o' W' => ∃ v' L', o' = .returned v' ∧ Qrm1 Z j o len z kz n g_ h0 n0 v' W'.heap L' ∧ FrameEnd U' o' W' L' ({ frames := 2, cells := 1, slots := 18, locals := 30 } : Room).cells ({ frames := 2, cells := 1, slots := 18, locals := 30 } : Room).slots) := by
  refine MetFree.of_bodySF (plainFor_of_name pn_0) hisR ?_
  intro p e s m args below meth c s₁ Bd hml0 hP hK
  obtain ⟨rfl, hZ, hh⟩ := hP
  have hx := Bd.exec
  have hby := Bd.bytes
  have hml : c.maxLocals = 10 := hml0
  have hown : s.vm.findClass "com/example/depthline/depthline/core/DecimalParsePinLaw" = some m.cls := findClass_of_methodNamed Bd.named
  have hnm := (name_of_methodNamed Bd.named Bd.method).1
  have X0 : Stand p l e ({ frames := 2, cells := 1, slots := 18, locals := 30 } : Room) s m #[(.int j), (.int o), (.int len), (.int z), (.int kz), (.long n), (.int g_)] below meth c s₁ [] 0 0 := Stand.of_body Bd
  have e0 : s₁.heap = h0 := by rw [← hh, Bd.state]; rfl
  have N0 := Fr.nil n0
  have K0 := Keep.refl h0 []
  refine own_start (ef_rm1 m j o len z kz n g_) (Q := fun o' t' => ∃ v' L', o' = .returned v' ∧ Qrm1 Z j o len z kz n g_ h0 n0 v' t'.heap L' ∧ FrameEnd s o' t' L' ({ frames := 2, cells := 1, slots := 18, locals := 30 } : Room).cells ({ frames := 2, cells := 1, slots := 18, locals := 30 } : Room).slots) ?_
  show own_Fin p e below (s₁.setTop (mkF m 0 #[.val (.int j), .val (.int o), .val (.int len), .val (.int z), .val (.int kz), .val (.long n), .second, .val (.int g_), .unset, .unset] [])) _
  refine own_go (fun _ k => XS.iloadN X0.here hx rfl (hb hby d1_0) rfl (XS.iloadN X0.here hx rfl (hb hby d1_1) rfl (XS.isub X0.here hx rfl (hb hby d1_2) rfl (XS.istore X0.here hx rfl (hb hby d1_3) rfl (l' := #[.val (.int j), .val (.int o), .val (.int len), .val (.int z), .val (.int kz), .val (.long n), .second, .val (.int g_), .val (.int (j - o)), .unset]) rfl (XS.iload X0.here hx rfl (hb hby d1_5) rfl k))))) ?_
  show own_Fin p e below (s₁.setTop (mkF m 7 #[.val (.int j), .val (.int o), .val (.int len), .val (.int z), .val (.int kz), .val (.long n), .second, .val (.int g_), .val (.int (j - o)), .unset] [(.int (j - o))])) _
  by_cases hc7_44 : (j - o) < (0 : Int32)
  ·refine own_go (fun _ k => XS.ifYes X0.here hx rfl (pc0 := 7) (pc' := 16) rfl (hb hby d1_7) rfl ((if0 _ _).trans (tlt hc7_44).1) (by decide) (by decide) (XS.iload X0.here hx rfl (hb hby d1_16) rfl k)) ?_
   show own_Fin p e below (s₁.setTop (mkF m 18 #[.val (.int j), .val (.int o), .val (.int len), .val (.int z), .val (.int kz), .val (.long n), .second, .val (.int g_), .val (.int (j - o)), .unset] [(.int g_)])) _
   obtain ⟨fs, hr, hrun, hended, hW, hsame⟩ := X0.leave (v := some (.int (nar .char g_))) (fun h => by rw [Bd.returns] at h; cases h)
   refine ⟨_, _, ?_, hrun, hended, _, _, rfl, ?_, ⟨_, rfl⟩, hW, hsame.mono (by decide) (by decide)⟩
   ·exact retN X0 hx (t := .char) Bd.returns (by simp) (hb hby d1_18) hr
   ·show Qrm1 Z j o len z kz n g_ h0 n0 _ s₁.heap _
    rw [e0]
    exact ⟨(by unfold own_cell; simp only [eq_true hc7_44, if_true, if_false, ↓reduceIte] <;> rfl), N0, K0⟩
  ·refine own_go (fun _ k => XS.ifNo X0.here hx rfl (hb hby d1_7) rfl ((if0 _ _).trans (flt hc7_44).1) (XS.iload X0.here hx rfl (hb hby d1_10) rfl (XS.iloadN X0.here hx rfl (hb hby d1_12) rfl k))) ?_
   show own_Fin p e below (s₁.setTop (mkF m 13 #[.val (.int j), .val (.int o), .val (.int len), .val (.int z), .val (.int kz), .val (.long n), .second, .val (.int g_), .val (.int (j - o)), .unset] [(.int len), (.int (j - o))])) _
   by_cases hc13_46 : (j - o) < len
   ·refine own_go (fun _ k => XS.icmpYes X0.here hx rfl (pc0 := 13) (pc' := 19) rfl (hb hby d1_13) rfl (tlt hc13_46).1 (by decide) (by decide) (XS.iload X0.here hx rfl (hb hby d1_19) rfl (XS.iloadN X0.here hx rfl (hb hby d1_21) rfl k))) ?_
    show own_Fin p e below (s₁.setTop (mkF m 22 #[.val (.int j), .val (.int o), .val (.int len), .val (.int z), .val (.int kz), .val (.long n), .second, .val (.int g_), .val (.int (j - o)), .unset] [(.int z), (.int (j - o))])) _
    by_cases hc22_47 : (j - o) < z
    ·refine own_go (fun _ k => XS.icmpNo X0.here hx rfl (hb hby d1_22) rfl (tlt hc22_47).2.1 (XS.bipush X0.here hx rfl (hb hby d1_25) k)) ?_
     show own_Fin p e below (s₁.setTop (mkF m 27 #[.val (.int j), .val (.int o), .val (.int len), .val (.int z), .val (.int kz), .val (.long n), .second, .val (.int g_), .val (.int (j - o)), .unset] [(.int 48)])) _
     obtain ⟨fs, hr, hrun, hended, hW, hsame⟩ := X0.leave (v := some (.int 48)) (fun h => by rw [Bd.returns] at h; cases h)
     refine ⟨_, _, ?_, hrun, hended, _, _, rfl, ?_, ⟨_, rfl⟩, hW, hsame.mono (by decide) (by decide)⟩
     ·exact retN X0 hx (t := .char) Bd.returns (by simp) (hb hby d1_27) hr
     ·show Qrm1 Z j o len z kz n g_ h0 n0 _ s₁.heap _
      rw [e0]
      exact ⟨(by unfold own_cell; simp only [eq_false hc7_44, eq_true hc13_46, eq_true hc22_47, if_true, if_false, ↓reduceIte] <;> rfl), N0, K0⟩
    ·refine own_go (fun _ k => XS.icmpYes X0.here hx rfl (pc0 := 22) (pc' := 28) rfl (hb hby d1_22) rfl (flt hc22_47).2.1 (by decide) (by decide) (XS.iload X0.here hx rfl (hb hby d1_28) rfl (XS.iloadN X0.here hx rfl (hb hby d1_30) rfl (XS.isub X0.here hx rfl (hb hby d1_31) rfl (XS.istore X0.here hx rfl (hb hby d1_32) rfl (l' := #[.val (.int j), .val (.int o), .val (.int len), .val (.int z), .val (.int kz), .val (.long n), .second, .val (.int g_), .val (.int (j - o)), .val (.int ((j - o) - z))]) rfl (XS.iload X0.here hx rfl (hb hby d1_34) rfl (XS.bipush X0.here hx rfl (hb hby d1_36) k))))))) ?_
     show own_Fin p e below (s₁.setTop (mkF m 38 #[.val (.int j), .val (.int o), .val (.int len), .val (.int z), .val (.int kz), .val (.long n), .second, .val (.int g_), .val (.int (j - o)), .val (.int ((j - o) - z))] [(.int 19), (.int kz)])) _
     by_cases hc38_49 : kz = (19 : Int32)
     ·refine own_go (fun _ k => XS.icmpNo X0.here hx rfl (hb hby d1_38) rfl (teq hc38_49).2 (XS.lload X0.here hx rfl (hb hby d1_41) rfl (XS.iload X0.here hx rfl (hb hby d1_43) rfl k))) ?_
      show own_Fin p e below (s₁.setTop (mkF m 45 #[.val (.int j), .val (.int o), .val (.int len), .val (.int z), .val (.int kz), .val (.long n), .second, .val (.int g_), .val (.int (j - o)), .val (.int ((j - o) - z))] [(.int ((j - o) - z)), (.long n)])) _
      obtain ⟨_, _, ⟨T50, L50, k50, n50⟩, -, X50, ⟨Lc50, hQ50, l50, y50, z50⟩, st50⟩ := Jvm.LawKit.callS X0 hx (y := (⟨"com/example/depthline/depthline/core/DecimalParsePinLaw", "digit", "(JI)C"⟩ : MethodName)) hown (mvT hZ (ow hw 9)) (mvT hZ (ow hw 10)) (mvT hZ (ow hw 7)) (mvT hZ (ow hw 11)) (by decide) (backOf (W := 0) (rm2 l Z a0 hw [] n ((j - o) - z) h0 n0 O (own_dq hB hc7_44 hc13_46 hc22_47 (Or.inl hc38_49)).1 (own_dq hB hc7_44 hc13_46 hc22_47 (Or.inl hc38_49)).2) hZ (ow hw 11) (ow hw 7) (by decide) (by decide)) (g := (mkF m 45 #[.val (.int j), .val (.int o), .val (.int len), .val (.int z), .val (.int kz), .val (.long n), .second, .val (.int g_), .val (.int (j - o)), .val (.int ((j - o) - z))] [(.int ((j - o) - z)), (.long n)])) rfl (by rw [hml]; rfl) (argsL := [(.long n), (.int ((j - o) - z))]) (rest := []) (lenOf pd_1 rfl) rfl (by show 2 * 0 + _ ≤ _; exact Nat.le_of_eq rfl) (hb hby d1_45) (fun _ _ => ⟨rfl, e0, (by decide : 0 + 1 ≤ _), (by decide : 0 + 18 ≤ _)⟩)
      dsimp only [Pt.U, Pt.locs, Pt.cells, Pt.slots] at X50 l50 y50 z50 st50 hQ50
      subst y50 z50
      obtain ⟨rfl, N50q, Kq50⟩ := hQ50
      refine own_go (fun _ k => st50 _ k) ?_
      have N50 := own_frl l50 (Fr.app N0 N50q)
      have O := O.keep Kq50 all0
      have K51 := K0.trans Kq50 all0
      show own_Fin p e below (T50.setTop (mkF m 48 #[.val (.int j), .val (.int o), .val (.int len), .val (.int z), .val (.int kz), .val (.long n), .second, .val (.int g_), .val (.int (j - o)), .val (.int ((j - o) - z))] [(.int (own_dig n ((j - o) - z)))])) _
      obtain ⟨fs, hr, hrun, hended, hW, hsame⟩ := X50.leave (v := some (.int (nar .char (own_dig n ((j - o) - z))))) (fun h => by rw [Bd.returns] at h; cases h)
      refine ⟨_, _, ?_, hrun, hended, _, _, rfl, ?_, ⟨_, rfl⟩, hW, hsame.mono (by decide) (by decide)⟩
      ·exact retN X50 hx (t := .char) Bd.returns (by simp) (hb hby d1_48) hr
      ·show Qrm1 Z j o len z kz n g_ h0 n0 _ T50.heap _
       exact ⟨(by unfold own_cell; simp only [eq_false hc7_44, eq_true hc13_46, eq_false hc22_47, eq_true hc38_49, if_true, if_false, ↓reduceIte] <;> rfl), N50, K51⟩
     ·refine own_go (fun _ k => XS.icmpYes X0.here hx rfl (pc0 := 38) (pc' := 49) rfl (hb hby d1_38) rfl (feq hc38_49).2 (by decide) (by decide) (XS.iload X0.here hx rfl (hb hby d1_49) rfl (XS.iload X0.here hx rfl (hb hby d1_51) rfl k))) ?_
      show own_Fin p e below (s₁.setTop (mkF m 53 #[.val (.int j), .val (.int o), .val (.int len), .val (.int z), .val (.int kz), .val (.long n), .second, .val (.int g_), .val (.int (j - o)), .val (.int ((j - o) - z))] [(.int kz), (.int ((j - o) - z))])) _
      by_cases hc53_53 : ((j - o) - z) < kz
      ·refine own_go (fun _ k => XS.icmpNo X0.here hx rfl (hb hby d1_53) rfl (tlt hc53_53).2.1 (XS.lload X0.here hx rfl (hb hby d1_56) rfl (XS.iload X0.here hx rfl (hb hby d1_58) rfl k))) ?_
       show own_Fin p e below (s₁.setTop (mkF m 60 #[.val (.int j), .val (.int o), .val (.int len), .val (.int z), .val (.int kz), .val (.long n), .second, .val (.int g_), .val (.int (j - o)), .val (.int ((j - o) - z))] [(.int ((j - o) - z)), (.long n)])) _
       obtain ⟨_, _, ⟨T54, L54, k54, n54⟩, -, X54, ⟨Lc54, hQ54, l54, y54, z54⟩, st54⟩ := Jvm.LawKit.callS X0 hx (y := (⟨"com/example/depthline/depthline/core/DecimalParsePinLaw", "digit", "(JI)C"⟩ : MethodName)) hown (mvT hZ (ow hw 9)) (mvT hZ (ow hw 10)) (mvT hZ (ow hw 7)) (mvT hZ (ow hw 11)) (by decide) (backOf (W := 0) (rm2 l Z a0 hw [] n ((j - o) - z) h0 n0 O (own_dq hB hc7_44 hc13_46 hc22_47 (Or.inr ⟨hc53_53, hc38_49⟩)).1 (own_dq hB hc7_44 hc13_46 hc22_47 (Or.inr ⟨hc53_53, hc38_49⟩)).2) hZ (ow hw 11) (ow hw 7) (by decide) (by decide)) (g := (mkF m 60 #[.val (.int j), .val (.int o), .val (.int len), .val (.int z), .val (.int kz), .val (.long n), .second, .val (.int g_), .val (.int (j - o)), .val (.int ((j - o) - z))] [(.int ((j - o) - z)), (.long n)])) rfl (by rw [hml]; rfl) (argsL := [(.long n), (.int ((j - o) - z))]) (rest := []) (lenOf pd_1 rfl) rfl (by show 2 * 0 + _ ≤ _; exact Nat.le_of_eq rfl) (hb hby d1_60) (fun _ _ => ⟨rfl, e0, (by decide : 0 + 1 ≤ _), (by decide : 0 + 18 ≤ _)⟩)
       dsimp only [Pt.U, Pt.locs, Pt.cells, Pt.slots] at X54 l54 y54 z54 st54 hQ54
       subst y54 z54
       obtain ⟨rfl, N54q, Kq54⟩ := hQ54
       refine own_go (fun _ k => st54 _ k) ?_
       have N54 := own_frl l54 (Fr.app N0 N54q)
       have O := O.keep Kq54 all0
       have K55 := K0.trans Kq54 all0
       show own_Fin p e below (T54.setTop (mkF m 63 #[.val (.int j), .val (.int o), .val (.int len), .val (.int z), .val (.int kz), .val (.long n), .second, .val (.int g_), .val (.int (j - o)), .val (.int ((j - o) - z))] [(.int (own_dig n ((j - o) - z)))])) _
       obtain ⟨fs, hr, hrun, hended, hW, hsame⟩ := X54.leave (v := some (.int (nar .char (own_dig n ((j - o) - z))))) (fun h => by rw [Bd.returns] at h; cases h)
       refine ⟨_, _, ?_, hrun, hended, _, _, rfl, ?_, ⟨_, rfl⟩, hW, hsame.mono (by decide) (by decide)⟩
       ·exact retN X54 hx (t := .char) Bd.returns (by simp) (hb hby d1_63) hr
       ·show Qrm1 Z j o len z kz n g_ h0 n0 _ T54.heap _
        exact ⟨(by unfold own_cell; simp only [eq_false hc7_44, eq_true hc13_46, eq_false hc22_47, eq_false hc38_49, eq_true hc53_53, if_true, if_false, ↓reduceIte] <;> rfl), N54, K55⟩
      ·refine own_go (fun _ k => XS.icmpYes X0.here hx rfl (pc0 := 53) (pc' := 64) rfl (hb hby d1_53) rfl (flt hc53_53).2.1 (by decide) (by decide) (XS.iload X0.here hx rfl (hb hby d1_64) rfl (XS.iload X0.here hx rfl (hb hby d1_66) rfl k))) ?_
       show own_Fin p e below (s₁.setTop (mkF m 68 #[.val (.int j), .val (.int o), .val (.int len), .val (.int z), .val (.int kz), .val (.long n), .second, .val (.int g_), .val (.int (j - o)), .val (.int ((j - o) - z))] [(.int kz), (.int ((j - o) - z))])) _
       by_cases hc68_57 : ((j - o) - z) = kz
       ·refine own_go (fun _ k => XS.icmpNo X0.here hx rfl (hb hby d1_68) rfl (teq hc68_57).2 (XS.bipush X0.here hx rfl (hb hby d1_71) k)) ?_
        show own_Fin p e below (s₁.setTop (mkF m 73 #[.val (.int j), .val (.int o), .val (.int len), .val (.int z), .val (.int kz), .val (.long n), .second, .val (.int g_), .val (.int (j - o)), .val (.int ((j - o) - z))] [(.int 46)])) _
        obtain ⟨fs, hr, hrun, hended, hW, hsame⟩ := X0.leave (v := some (.int 46)) (fun h => by rw [Bd.returns] at h; cases h)
        refine ⟨_, _, ?_, hrun, hended, _, _, rfl, ?_, ⟨_, rfl⟩, hW, hsame.mono (by decide) (by decide)⟩
        ·exact retN X0 hx (t := .char) Bd.returns (by simp) (hb hby d1_73) hr
        ·show Qrm1 Z j o len z kz n g_ h0 n0 _ s₁.heap _
         rw [e0]
         exact ⟨(by unfold own_cell; simp only [eq_false hc7_44, eq_true hc13_46, eq_false hc22_47, eq_false hc38_49, eq_false hc53_53, eq_true hc68_57, if_true, if_false, ↓reduceIte] <;> rfl), N0, K0⟩
       ·refine own_go (fun _ k => XS.icmpYes X0.here hx rfl (pc0 := 68) (pc' := 74) rfl (hb hby d1_68) rfl (feq hc68_57).2 (by decide) (by decide) (XS.iload X0.here hx rfl (hb hby d1_74) rfl (XS.bipush X0.here hx rfl (hb hby d1_76) k))) ?_
        show own_Fin p e below (s₁.setTop (mkF m 78 #[.val (.int j), .val (.int o), .val (.int len), .val (.int z), .val (.int kz), .val (.long n), .second, .val (.int g_), .val (.int (j - o)), .val (.int ((j - o) - z))] [(.int 18), (.int ((j - o) - z))])) _
        by_cases hc78_59 : (18 : Int32) < ((j - o) - z)
        ·refine own_go (fun _ k => XS.icmpYes X0.here hx rfl (pc0 := 78) (pc' := 91) rfl (hb hby d1_78) rfl (tlt hc78_59).2.2.1 (by decide) (by decide) (XS.bipush X0.here hx rfl (hb hby d1_91) k)) ?_
         show own_Fin p e below (s₁.setTop (mkF m 93 #[.val (.int j), .val (.int o), .val (.int len), .val (.int z), .val (.int kz), .val (.long n), .second, .val (.int g_), .val (.int (j - o)), .val (.int ((j - o) - z))] [(.int 48)])) _
         obtain ⟨fs, hr, hrun, hended, hW, hsame⟩ := X0.leave (v := some (.int 48)) (fun h => by rw [Bd.returns] at h; cases h)
         refine ⟨_, _, ?_, hrun, hended, _, _, rfl, ?_, ⟨_, rfl⟩, hW, hsame.mono (by decide) (by decide)⟩
         ·exact retN X0 hx (t := .char) Bd.returns (by simp) (hb hby d1_93) hr
         ·show Qrm1 Z j o len z kz n g_ h0 n0 _ s₁.heap _
          rw [e0]
          exact ⟨(by unfold own_cell; simp only [eq_false hc7_44, eq_true hc13_46, eq_false hc22_47, eq_false hc38_49, eq_false hc53_53, eq_false hc68_57, eq_true hc78_59, if_true, if_false, ↓reduceIte] <;> rfl), N0, K0⟩
        ·refine own_go (fun _ k => XS.icmpNo X0.here hx rfl (hb hby d1_78) rfl (flt hc78_59).2.2.1 (XS.lload X0.here hx rfl (hb hby d1_81) rfl (XS.iload X0.here hx rfl (hb hby d1_83) rfl (XS.iconst X0.here hx rfl (hb hby d1_85) (XS.isub X0.here hx rfl (hb hby d1_86) rfl k))))) ?_
         show own_Fin p e below (s₁.setTop (mkF m 87 #[.val (.int j), .val (.int o), .val (.int len), .val (.int z), .val (.int kz), .val (.long n), .second, .val (.int g_), .val (.int (j - o)), .val (.int ((j - o) - z))] [(.int (((j - o) - z) - (1 : Int32))), (.long n)])) _
         obtain ⟨_, _, ⟨T61, L61, k61, n61⟩, -, X61, ⟨Lc61, hQ61, l61, y61, z61⟩, st61⟩ := Jvm.LawKit.callS X0 hx (y := (⟨"com/example/depthline/depthline/core/DecimalParsePinLaw", "digit", "(JI)C"⟩ : MethodName)) hown (mvT hZ (ow hw 9)) (mvT hZ (ow hw 10)) (mvT hZ (ow hw 7)) (mvT hZ (ow hw 11)) (by decide) (backOf (W := 0) (rm2 l Z a0 hw [] n (((j - o) - z) - (1 : Int32)) h0 n0 O (own_dq1 hB hc7_44 hc13_46 hc22_47 hc53_53 hc68_57 hc78_59).1 (own_dq1 hB hc7_44 hc13_46 hc22_47 hc53_53 hc68_57 hc78_59).2) hZ (ow hw 11) (ow hw 7) (by decide) (by decide)) (g := (mkF m 87 #[.val (.int j), .val (.int o), .val (.int len), .val (.int z), .val (.int kz), .val (.long n), .second, .val (.int g_), .val (.int (j - o)), .val (.int ((j - o) - z))] [(.int (((j - o) - z) - (1 : Int32))), (.long n)])) rfl (by rw [hml]; rfl) (argsL := [(.long n), (.int (((j - o) - z) - (1 : Int32)))]) (rest := []) (lenOf pd_1 rfl) rfl (by show 2 * 0 + _ ≤ _; exact Nat.le_of_eq rfl) (hb hby d1_87) (fun _ _ => ⟨rfl, e0, (by decide : 0 + 1 ≤ _), (by decide : 0 + 18 ≤ _)⟩)
         dsimp only [Pt.U, Pt.locs, Pt.cells, Pt.slots] at X61 l61 y61 z61 st61 hQ61
         subst y61 z61
         obtain ⟨rfl, N61q, Kq61⟩ := hQ61
         refine own_go (fun _ k => st61 _ k) ?_
         have N61 := own_frl l61 (Fr.app N0 N61q)
         have O := O.keep Kq61 all0
         have K62 := K0.trans Kq61 all0
         show own_Fin p e below (T61.setTop (mkF m 90 #[.val (.int j), .val (.int o), .val (.int len), .val (.int z), .val (.int kz), .val (.long n), .second, .val (.int g_), .val (.int (j - o)), .val (.int ((j - o) - z))] [(.int (own_dig n (((j - o) - z) - (1 : Int32))))])) _
         obtain ⟨fs, hr, hrun, hended, hW, hsame⟩ := X61.leave (v := some (.int (nar .char (own_dig n (((j - o) - z) - (1 : Int32)))))) (fun h => by rw [Bd.returns] at h; cases h)
         refine ⟨_, _, ?_, hrun, hended, _, _, rfl, ?_, ⟨_, rfl⟩, hW, hsame.mono (by decide) (by decide)⟩
         ·exact retN X61 hx (t := .char) Bd.returns (by simp) (hb hby d1_90) hr
         ·show Qrm1 Z j o len z kz n g_ h0 n0 _ T61.heap _
          exact ⟨(by unfold own_cell; simp only [eq_false hc7_44, eq_true hc13_46, eq_false hc22_47, eq_false hc38_49, eq_false hc53_53, eq_false hc68_57, eq_false hc78_59, if_true, if_false, ↓reduceIte] <;> rfl), N61, K62⟩
   ·refine own_go (fun _ k => XS.icmpNo X0.here hx rfl (hb hby d1_13) rfl (flt hc13_46).1 (XS.iload X0.here hx rfl (hb hby d1_16) rfl k)) ?_
    show own_Fin p e below (s₁.setTop (mkF m 18 #[.val (.int j), .val (.int o), .val (.int len), .val (.int z), .val (.int kz), .val (.long n), .second, .val (.int g_), .val (.int (j - o)), .unset] [(.int g_)])) _
    obtain ⟨fs, hr, hrun, hended, hW, hsame⟩ := X0.leave (v := some (.int (nar .char g_))) (fun h => by rw [Bd.returns] at h; cases h)
    refine ⟨_, _, ?_, hrun, hended, _, _, rfl, ?_, ⟨_, rfl⟩, hW, hsame.mono (by decide) (by decide)⟩
    ·exact retN X0 hx (t := .char) Bd.returns (by simp) (hb hby d1_18) hr
    ·show Qrm1 Z j o len z kz n g_ h0 n0 _ s₁.heap _
     rw [e0]
     exact ⟨(by unfold own_cell; simp only [eq_false hc7_44, eq_false hc13_46, if_true, if_false, ↓reduceIte] <;> rfl), N0, K0⟩
theorem d5_0 : decode prog_8_method_1_code 0 = .ok (.aload_n 0, 1) := by decide +kernel
theorem d5_1 : decode prog_8_method_1_code 1 = .ok (.invokespecial 1, 3) := by decide +kernel
theorem d5_4 : decode prog_8_method_1_code 4 = .ok (.aload_n 0, 1) := by decide +kernel
theorem d5_5 : decode prog_8_method_1_code 5 = .ok (.lload_n 1, 1) := by decide +kernel
theorem d5_6 : decode prog_8_method_1_code 6 = .ok (.putfield 7, 3) := by decide +kernel
theorem d5_9 : decode prog_8_method_1_code 9 = .ok (.aload_n 0, 1) := by decide +kernel
theorem d5_10 : decode prog_8_method_1_code 10 = .ok (.iload_n 3, 1) := by decide +kernel
theorem d5_11 : decode prog_8_method_1_code 11 = .ok (.putfield 13, 3) := by decide +kernel
theorem d5_14 : decode prog_8_method_1_code 14 = .ok (.return_, 1) := by decide +kernel
theorem pn_1 : plainName "com/example/depthline/depthline/core/Decimal" = true := by first | (simp [plainName, overriddenIn]; done) | decide +kernel
theorem ef_rm5 (m : MethodId) (x0 : Addr) (x1 : Int64) (x2 : Int32) : entryFrame m #[(.ref x0), (.long x1), (.int x2)] 4 = mkF m 0 #[.val (.ref x0), .val (.long x1), .second, .val (.int x2)] [] := by first | (simp [entryFrame, mkF, argsToLocals, Value.category]; done) | rfl
def Qrm5 (Z : State) (b : Addr) (q : Int64) (pa : Int32) (h0 : Heap) (n0 : Nat) (v : Option Value) (h : Heap) (L : List Loc) : Prop := v = none ∧ Fr n0 L ∧ Keep h0 h [b] ∧ Exa Z h b "com/example/depthline/depthline/core/Decimal" ∧ Fld Z h b "com/example/depthline/depthline/core/Decimal" "unscaled" "J" (.long q) ∧ Fld Z h b "com/example/depthline/depthline/core/Decimal" "scale" "I" (.int pa)
set_option maxRecDepth 65536 in
set_option maxHeartbeats 40000000 in
theorem rm5 (l : Launch) (Z : State) (a0 : Array Value) (hw : ∀ d ∈ tables_1, d.before a0 Z = true) (ws : List Jvm.Cond) (b : Addr) (q : Int64) (pa : Int32) (h0 : Heap) (n0 : Nat) (O : Old Z n0 h0) (E_b : Exa Z h0 b "com/example/depthline/depthline/core/Decimal") (F_b_Decimal_unscaled : Fld Z h0 b "com/example/depthline/depthline/core/Decimal" "unscaled" "J" (.long (0 : Int64))) (F_b_Decimal_scale : Fld Z h0 b "com/example/depthline/depthline/core/Decimal" "scale" "I" (.int 0)) (g_b : n0 ≤ b) :
    MetFree l (⟨"com/example/depthline/depthline/core/Decimal", "<init>", "(JI)V"⟩ : MethodName) (head1 (Jvm.Cond.code (⟨"com/example/depthline/depthline/core/Decimal", "<init>", "(JI)V"⟩ : MethodName) prog_8_method_1_code 4 none :: ws) ({ frames := 1, cells := 0, slots := 0, locals := 12 } : Room)) (fun a' U' => a' = #[(.ref b), (.long q), (.int pa)] ∧ Z.Warmed39 U'.vm ∧ U'.heap = h0) (fun _ _ _ _ _ => True) (fun _ U' o' W' => ∃ v' L', o' = .returned v' ∧ Qrm5 Z b q pa h0 n0 v' W'.heap L' ∧ FrameEnd U' o' W' L' ({ frames := 1, cells := 0, slots := 0, locals := 12 } : Room).cells ({ frames := 1, cells := 0, slots := 0, locals := 12 } : Room).slots) := by
  refine MetFree.of_bodySF (plainFor_of_name pn_1) hisR ?_
  intro p e s m args below meth c s₁ Bd hml0 hP hK
  obtain ⟨rfl, hZ, hh⟩ := hP
  have hx := Bd.exec
  have hby := Bd.bytes
  have hml : c.maxLocals = 4 := hml0
  have hown : s.vm.findClass "com/example/depthline/depthline/core/Decimal" = some m.cls := findClass_of_methodNamed Bd.named
  have hnm := (name_of_methodNamed Bd.named Bd.method).1
  have X0 : Stand p l e ({ frames := 1, cells := 0, slots := 0, locals := 12 } : Room) s m #[(.ref b), (.long q), (.int pa)] below meth c s₁ [] 0 0 := Stand.of_body Bd
  have e0 : s₁.heap = h0 := by rw [← hh, Bd.state]; rfl
  have N0 := Fr.nil n0
  have K0 := Keep.refl h0 [b]
  refine own_start (ef_rm5 m b q pa) (Q := fun o' t' => ∃ v' L', o' = .returned v' ∧ Qrm5 Z b q pa h0 n0 v' t'.heap L' ∧ FrameEnd s o' t' L' ({ frames := 1, cells := 0, slots := 0, locals := 12 } : Room).cells ({ frames := 1, cells := 0, slots := 0, locals := 12 } : Room).slots) ?_
  show own_Fin p e below (s₁.setTop (mkF m 0 #[.val (.ref b), .val (.long q), .second, .val (.int pa)] [])) _
  refine own_go (fun _ k => XS.aloadN X0.here hx rfl (hb hby d5_0) rfl rfl k) ?_
  show own_Fin p e below (s₁.setTop (mkF m 1 #[.val (.ref b), .val (.long q), .second, .val (.int pa)] [(.ref b)])) _
  obtain ⟨T65, X65, e65, st65⟩ := initO X0 hx hZ hown (ow hw 43) (ow hw 44) (ow hw 45) e0 (g := (mkF m 1 #[.val (.ref b), .val (.long q), .second, .val (.int pa)] [(.ref b)])) rfl (by rw [hml]; rfl) rfl (hb hby d5_1) (by decide) (W := 0) (by show 2 * 0 + _ ≤ _; exact Nat.le_of_eq rfl) (by decide)
  refine own_go (fun _ k => st65 _ k) ?_
  show own_Fin p e below (T65.setTop (mkF m 4 #[.val (.ref b), .val (.long q), .second, .val (.int pa)] [])) _
  refine own_go (fun _ k => XS.aloadN X65.here hx rfl (hb hby d5_4) rfl rfl (XS.lloadN X65.here hx rfl (hb hby d5_5) rfl k)) ?_
  show own_Fin p e below (T65.setTop (mkF m 6 #[.val (.ref b), .val (.long q), .second, .val (.int pa)] [(.long q), (.ref b)])) _
  obtain ⟨T66, h66, X66, e66, W66, st66⟩ := putF X65 hx hZ hown (host := "") (Or.inl (ow hw 46)) Via.refl e65 F_b_Decimal_unscaled E_b (Or.inr ⟨(ow hw 47), rfl, hnm⟩) (ow hw 39) (ty := .long) (by decide) rfl rfl (g := (mkF m 6 #[.val (.ref b), .val (.long q), .second, .val (.int pa)] [(.long q), (.ref b)])) rfl rfl (hb hby d5_6)
  refine own_go (fun _ k => st66 _ k) ?_
  have E_b := E_b.wr W66
  have F_b_Decimal_scale := F_b_Decimal_scale.other W66 (Or.inr (slot_ne (Or.inr (ow hw 49)) (Or.inr (ow hw 47)) (by decide) (t := .int) (t' := .long) (by decide) (by decide)))
  have O := O.wr W66 g_b
  have K67 := K0.wr W66 (Or.inl (List.mem_of_getElem? (i := 0) rfl))
  have F_b_Decimal_unscaled := F_b_Decimal_unscaled.same W66
  have N66 := Fr.snoc X66 N0 g_b
  show own_Fin p e below (T66.setTop (mkF m 9 #[.val (.ref b), .val (.long q), .second, .val (.int pa)] [])) _
  refine own_go (fun _ k => XS.aloadN X66.here hx rfl (hb hby d5_9) rfl rfl (XS.iloadN X66.here hx rfl (hb hby d5_10) rfl k)) ?_
  show own_Fin p e below (T66.setTop (mkF m 11 #[.val (.ref b), .val (.long q), .second, .val (.int pa)] [(.int pa), (.ref b)])) _
  obtain ⟨T68, h68, X68, e68, W68, st68⟩ := putF X66 hx hZ hown (host := "") (Or.inl (ow hw 48)) Via.refl e66 F_b_Decimal_scale E_b (Or.inr ⟨(ow hw 49), rfl, hnm⟩) (ow hw 39) (ty := .int) (by decide) rfl rfl (g := (mkF m 11 #[.val (.ref b), .val (.long q), .second, .val (.int pa)] [(.int pa), (.ref b)])) rfl rfl (hb hby d5_11)
  refine own_go (fun _ k => st68 _ k) ?_
  have E_b := E_b.wr W68
  have F_b_Decimal_unscaled := F_b_Decimal_unscaled.other W68 (Or.inr (slot_ne (Or.inr (ow hw 47)) (Or.inr (ow hw 49)) (by decide) (t := .long) (t' := .int) (by decide) (by decide)))
  have O := O.wr W68 g_b
  have K69 := K67.wr W68 (Or.inl (List.mem_of_getElem? (i := 0) rfl))
  have F_b_Decimal_scale := F_b_Decimal_scale.same W68
  have N68 := Fr.snoc X68 N66 g_b
  show own_Fin p e below (T68.setTop (mkF m 14 #[.val (.ref b), .val (.long q), .second, .val (.int pa)] [])) _
  obtain ⟨fs, hr, hrun, hended, hW, hsame⟩ := X68.leave (v := none) (fun _ => rfl)
  refine ⟨_, _, ?_, hrun, hended, _, _, rfl, ?_, ⟨_, rfl⟩, hW, hsame.mono (by decide) (by decide)⟩
  ·exact X68.returnOut hx Bd.returns (hb hby d5_14) hr
  ·show Qrm5 Z b q pa h0 n0 _ T68.heap _
   rw [e68]
   exact ⟨rfl, N68, K69, E_b, F_b_Decimal_unscaled, F_b_Decimal_scale⟩
def own_PH (vs : List Value) (o len : Int32) (nn : Int64) (sk : Int32) : Prop := ∃ (N K zz tt ov L : Nat), nn.toInt = N ∧ N < 10 ^ 18 ∧ K ≤ 19 ∧ zz ≤ 1 ∧ (K = 0 → zz = 1) ∧ (K ≤ 17 → N % 10 ≠ 0) ∧ tt ≤ 2 ∧ (K = 18 → 1 ≤ tt) ∧ (K = 19 → tt = 0) ∧ L = zz + 18 + (if K ≤ 18 then 1 else 0) + tt ∧ o.toInt = ov ∧ ov ≤ 1 ∧ len.toInt = L ∧ sk.toInt = ((if K ≤ 17 then 18 - K else 0 : Nat) : Int) ∧ ∀ p, p < L → ∃ c : Int32, vs.getD (ov + p) (.int 0) = .int c ∧ c.toInt = own_chr N K zz p
def own_Inv (N K zz ov j : Nat) (U : Int64) (dg sc pt pd : Int32) : Prop := ∃ u d s e : Nat, U.toInt = u ∧ dg.toInt = d ∧ sc.toInt = s ∧ pd.toInt = e ∧ u < 10 ^ 18 ∧ d ≤ 18 ∧ s ≤ 18 ∧ e ≤ 30 ∧ own_NI N K zz j u d s e ∧ ((j ≤ zz + K ∨ K = 19) → pt.toInt = -1) ∧ (zz + K < j ∧ K ≤ 18 → pt.toInt = ov + zz + K)
theorem own_inb24 {ii : Int32} {k : Nat} (h : ii.toInt = k) (hk : k < 24) : ¬ ii < 0 ∧ ii < (24 : Int32) := by
  rw [Int32.lt_iff_toInt_lt, Int32.lt_iff_toInt_lt]
  have e0 : (0 : Int32).toInt = 0 := by decide
  have e1 : (24 : Int32).toInt = 24 := by decide
  omega
theorem own_inb19 {ii : Int32} {k : Nat} (h : ii.toInt = k) (hk : k < 19) : ¬ ii < 0 ∧ ii < (19 : Int32) := by
  rw [Int32.lt_iff_toInt_lt, Int32.lt_iff_toInt_lt]
  have e0 : (0 : Int32).toInt = 0 := by decide
  have e1 : (19 : Int32).toInt = 19 := by decide
  omega
theorem d4_0 : decode prog_8_method_3_code 0 = .ok (.iload_n 1, 1) := by decide +kernel
theorem d4_1 : decode prog_8_method_3_code 1 = .ok (.iload_n 2, 1) := by decide +kernel
theorem d4_2 : decode prog_8_method_3_code 2 = .ok (.iadd, 1) := by decide +kernel
theorem d4_3 : decode prog_8_method_3_code 3 = .ok (.istore_n 3, 1) := by decide +kernel
theorem d4_4 : decode prog_8_method_3_code 4 = .ok (.lconst 0, 1) := by decide +kernel
theorem d4_5 : decode prog_8_method_3_code 5 = .ok (.lstore 4, 2) := by decide +kernel
theorem d4_7 : decode prog_8_method_3_code 7 = .ok (.iconst 0, 1) := by decide +kernel
theorem d4_8 : decode prog_8_method_3_code 8 = .ok (.istore 6, 2) := by decide +kernel
theorem d4_10 : decode prog_8_method_3_code 10 = .ok (.iconst 0, 1) := by decide +kernel
theorem d4_11 : decode prog_8_method_3_code 11 = .ok (.istore 7, 2) := by decide +kernel
theorem d4_13 : decode prog_8_method_3_code 13 = .ok (.iconst (-1), 1) := by decide +kernel
theorem d4_14 : decode prog_8_method_3_code 14 = .ok (.istore 8, 2) := by decide +kernel
theorem d4_16 : decode prog_8_method_3_code 16 = .ok (.iconst 0, 1) := by decide +kernel
theorem d4_17 : decode prog_8_method_3_code 17 = .ok (.istore 9, 2) := by decide +kernel
theorem d4_19 : decode prog_8_method_3_code 19 = .ok (.iload_n 1, 1) := by decide +kernel
theorem d4_20 : decode prog_8_method_3_code 20 = .ok (.istore 10, 2) := by decide +kernel
theorem d4_22 : decode prog_8_method_3_code 22 = .ok (.iload 10, 2) := by decide +kernel
theorem d4_24 : decode prog_8_method_3_code 24 = .ok (.iload_n 3, 1) := by decide +kernel
theorem d4_25 : decode prog_8_method_3_code 25 = .ok (.if_icmp .ge 183, 3) := by decide +kernel
theorem d4_208 : decode prog_8_method_3_code 208 = .ok (.iload_n 2, 1) := by decide +kernel
theorem d4_209 : decode prog_8_method_3_code 209 = .ok (.ifCond .eq 11, 3) := by decide +kernel
theorem d4_212 : decode prog_8_method_3_code 212 = .ok (.iload 8, 2) := by decide +kernel
theorem d4_214 : decode prog_8_method_3_code 214 = .ok (.iload_n 3, 1) := by decide +kernel
theorem d4_215 : decode prog_8_method_3_code 215 = .ok (.iconst 1, 1) := by decide +kernel
theorem d4_216 : decode prog_8_method_3_code 216 = .ok (.isub, 1) := by decide +kernel
theorem d4_217 : decode prog_8_method_3_code 217 = .ok (.if_icmp .ne 12, 3) := by decide +kernel
theorem d4_229 : decode prog_8_method_3_code 229 = .ok (.new 8, 3) := by decide +kernel
theorem d4_232 : decode prog_8_method_3_code 232 = .ok (.dup, 1) := by decide +kernel
theorem d4_233 : decode prog_8_method_3_code 233 = .ok (.lload 4, 2) := by decide +kernel
theorem d4_235 : decode prog_8_method_3_code 235 = .ok (.iload 7, 2) := by decide +kernel
theorem d4_237 : decode prog_8_method_3_code 237 = .ok (.invokespecial 47, 3) := by decide +kernel
theorem pd_2 : parseMethodDescriptor "(JI)V" = some ⟨[.long, .int], none⟩ := by decide +kernel
theorem d4_240 : decode prog_8_method_3_code 240 = .ok (.areturn, 1) := by decide +kernel
theorem d4_28 : decode prog_8_method_3_code 28 = .ok (.aload_n 0, 1) := by decide +kernel
theorem d4_29 : decode prog_8_method_3_code 29 = .ok (.iload 10, 2) := by decide +kernel
theorem d4_31 : decode prog_8_method_3_code 31 = .ok (.caload, 1) := by decide +kernel
theorem d4_32 : decode prog_8_method_3_code 32 = .ok (.istore 11, 2) := by decide +kernel
theorem d4_34 : decode prog_8_method_3_code 34 = .ok (.iload 11, 2) := by decide +kernel
theorem d4_36 : decode prog_8_method_3_code 36 = .ok (.bipush 46, 2) := by decide +kernel
theorem d4_38 : decode prog_8_method_3_code 38 = .ok (.if_icmp .ne 21, 3) := by decide +kernel
theorem d4_59 : decode prog_8_method_3_code 59 = .ok (.iload 11, 2) := by decide +kernel
theorem d4_61 : decode prog_8_method_3_code 61 = .ok (.bipush 48, 2) := by decide +kernel
theorem d4_63 : decode prog_8_method_3_code 63 = .ok (.if_icmp .lt 10, 3) := by decide +kernel
theorem d4_66 : decode prog_8_method_3_code 66 = .ok (.iload 11, 2) := by decide +kernel
theorem d4_68 : decode prog_8_method_3_code 68 = .ok (.bipush 57, 2) := by decide +kernel
theorem d4_70 : decode prog_8_method_3_code 70 = .ok (.if_icmp .le 12, 3) := by decide +kernel
theorem d4_82 : decode prog_8_method_3_code 82 = .ok (.iload 8, 2) := by decide +kernel
theorem d4_84 : decode prog_8_method_3_code 84 = .ok (.ifCond .ge 9, 3) := by decide +kernel
theorem d4_87 : decode prog_8_method_3_code 87 = .ok (.iconst 1, 1) := by decide +kernel
theorem d4_88 : decode prog_8_method_3_code 88 = .ok (.istore 12, 2) := by decide +kernel
theorem d4_90 : decode prog_8_method_3_code 90 = .ok (.goto 51, 3) := by decide +kernel
theorem d4_141 : decode prog_8_method_3_code 141 = .ok (.iload 6, 2) := by decide +kernel
theorem d4_143 : decode prog_8_method_3_code 143 = .ok (.ifCond .le 11, 3) := by decide +kernel
theorem d4_146 : decode prog_8_method_3_code 146 = .ok (.iload 6, 2) := by decide +kernel
theorem d4_148 : decode prog_8_method_3_code 148 = .ok (.iload 12, 2) := by decide +kernel
theorem d4_150 : decode prog_8_method_3_code 150 = .ok (.iadd, 1) := by decide +kernel
theorem d4_151 : decode prog_8_method_3_code 151 = .ok (.goto 15, 3) := by decide +kernel
theorem d4_166 : decode prog_8_method_3_code 166 = .ok (.istore 6, 2) := by decide +kernel
theorem d4_168 : decode prog_8_method_3_code 168 = .ok (.iload 6, 2) := by decide +kernel
theorem d4_170 : decode prog_8_method_3_code 170 = .ok (.bipush 18, 2) := by decide +kernel
theorem d4_172 : decode prog_8_method_3_code 172 = .ok (.if_icmp .le 12, 3) := by decide +kernel
theorem d4_184 : decode prog_8_method_3_code 184 = .ok (.lload 4, 2) := by decide +kernel
theorem d4_186 : decode prog_8_method_3_code 186 = .ok (.getstatic 43, 3) := by decide +kernel
theorem d4_189 : decode prog_8_method_3_code 189 = .ok (.iload 12, 2) := by decide +kernel
theorem d4_191 : decode prog_8_method_3_code 191 = .ok (.laload, 1) := by decide +kernel
theorem d4_192 : decode prog_8_method_3_code 192 = .ok (.lmul, 1) := by decide +kernel
theorem d4_193 : decode prog_8_method_3_code 193 = .ok (.iload 11, 2) := by decide +kernel
theorem d4_195 : decode prog_8_method_3_code 195 = .ok (.bipush 48, 2) := by decide +kernel
theorem d4_197 : decode prog_8_method_3_code 197 = .ok (.isub, 1) := by decide +kernel
theorem d4_198 : decode prog_8_method_3_code 198 = .ok (.i2l, 1) := by decide +kernel
theorem d4_199 : decode prog_8_method_3_code 199 = .ok (.ladd, 1) := by decide +kernel
theorem d4_200 : decode prog_8_method_3_code 200 = .ok (.lstore 4, 2) := by decide +kernel
theorem d4_202 : decode prog_8_method_3_code 202 = .ok (.iinc 10 1, 3) := by decide +kernel
theorem d4_205 : decode prog_8_method_3_code 205 = .ok (.goto (-183), 3) := by decide +kernel
theorem d4_154 : decode prog_8_method_3_code 154 = .ok (.iload 11, 2) := by decide +kernel
theorem d4_156 : decode prog_8_method_3_code 156 = .ok (.bipush 48, 2) := by decide +kernel
theorem d4_158 : decode prog_8_method_3_code 158 = .ok (.if_icmp .ne 7, 3) := by decide +kernel
theorem d4_161 : decode prog_8_method_3_code 161 = .ok (.iconst 0, 1) := by decide +kernel
theorem d4_162 : decode prog_8_method_3_code 162 = .ok (.goto 4, 3) := by decide +kernel
theorem d4_165 : decode prog_8_method_3_code 165 = .ok (.iconst 1, 1) := by decide +kernel
theorem d4_41 : decode prog_8_method_3_code 41 = .ok (.iload 8, 2) := by decide +kernel
theorem d4_43 : decode prog_8_method_3_code 43 = .ok (.ifCond .ge 16, 3) := by decide +kernel
theorem d4_46 : decode prog_8_method_3_code 46 = .ok (.iload 10, 2) := by decide +kernel
theorem d4_48 : decode prog_8_method_3_code 48 = .ok (.iload_n 1, 1) := by decide +kernel
theorem d4_49 : decode prog_8_method_3_code 49 = .ok (.if_icmp .le 10, 3) := by decide +kernel
theorem d4_52 : decode prog_8_method_3_code 52 = .ok (.iload 10, 2) := by decide +kernel
theorem d4_54 : decode prog_8_method_3_code 54 = .ok (.istore 8, 2) := by decide +kernel
theorem d4_56 : decode prog_8_method_3_code 56 = .ok (.goto 146, 3) := by decide +kernel
theorem d4_93 : decode prog_8_method_3_code 93 = .ok (.iload 11, 2) := by decide +kernel
theorem d4_95 : decode prog_8_method_3_code 95 = .ok (.bipush 48, 2) := by decide +kernel
theorem d4_97 : decode prog_8_method_3_code 97 = .ok (.if_icmp .ne 9, 3) := by decide +kernel
theorem d4_100 : decode prog_8_method_3_code 100 = .ok (.iinc 9 1, 3) := by decide +kernel
theorem d4_103 : decode prog_8_method_3_code 103 = .ok (.goto 99, 3) := by decide +kernel
theorem d4_106 : decode prog_8_method_3_code 106 = .ok (.iload 9, 2) := by decide +kernel
theorem d4_108 : decode prog_8_method_3_code 108 = .ok (.iconst 1, 1) := by decide +kernel
theorem d4_109 : decode prog_8_method_3_code 109 = .ok (.iadd, 1) := by decide +kernel
theorem d4_110 : decode prog_8_method_3_code 110 = .ok (.istore 12, 2) := by decide +kernel
theorem d4_112 : decode prog_8_method_3_code 112 = .ok (.iload 12, 2) := by decide +kernel
theorem d4_114 : decode prog_8_method_3_code 114 = .ok (.bipush 18, 2) := by decide +kernel
theorem d4_116 : decode prog_8_method_3_code 116 = .ok (.iload 7, 2) := by decide +kernel
theorem d4_118 : decode prog_8_method_3_code 118 = .ok (.isub, 1) := by decide +kernel
theorem d4_119 : decode prog_8_method_3_code 119 = .ok (.if_icmp .le 12, 3) := by decide +kernel
theorem d4_131 : decode prog_8_method_3_code 131 = .ok (.iload 7, 2) := by decide +kernel
theorem d4_133 : decode prog_8_method_3_code 133 = .ok (.iload 12, 2) := by decide +kernel
theorem d4_135 : decode prog_8_method_3_code 135 = .ok (.iadd, 1) := by decide +kernel
theorem d4_136 : decode prog_8_method_3_code 136 = .ok (.istore 7, 2) := by decide +kernel
theorem d4_138 : decode prog_8_method_3_code 138 = .ok (.iconst 0, 1) := by decide +kernel
theorem d4_139 : decode prog_8_method_3_code 139 = .ok (.istore 9, 2) := by decide +kernel
theorem ef_rm4 (m : MethodId) (x0 : Addr) (x1 : Int32) (x2 : Int32) : entryFrame m #[(.ref x0), (.int x1), (.int x2)] 13 = mkF m 0 #[.val (.ref x0), .val (.int x1), .val (.int x2), .unset, .unset, .unset, .unset, .unset, .unset, .unset, .unset, .unset, .unset] [] := by first | (simp [entryFrame, mkF, argsToLocals, Value.category]; done) | rfl
def Qrm4 (Z : State) (a : Addr) (o : Int32) (len : Int32) (pw : Addr) (kp : ClassId) (kc : ClassId) (vs : List Value) (nn : Int64) (sk : Int32) (h0 : Heap) (n0 : Nat) (v : Option Value) (h : Heap) (L : List Loc) : Prop := ∃ (b_ : Addr), v = some (.ref b_) ∧ Fr n0 L ∧ Keep h0 h [] ∧ h0.size ≤ b_ ∧ Exa Z h b_ "com/example/depthline/depthline/core/Decimal" ∧ Fld Z h b_ "com/example/depthline/depthline/core/Decimal" "unscaled" "J" (.long nn) ∧ Fld Z h b_ "com/example/depthline/depthline/core/Decimal" "scale" "I" (.int sk)
set_option maxRecDepth 65536 in
set_option maxHeartbeats 40000000 in
theorem rm4 (l : Launch) (Z : State) (a0 : Array Value) (hw : ∀ d ∈ tables_1, d.before a0 Z = true) (ws : List Jvm.Cond) (a : Addr) (o : Int32) (len : Int32) (pw : Addr) (kp : ClassId) (kc : ClassId) (vs : List Value) (nn : Int64) (sk : Int32) (h0 : Heap) (n0 : Nat) (O : Old Z n0 h0) (S_Decimal_POWERS : Sta Z Z.heap "com/example/depthline/depthline/core/Decimal" "POWERS" "[J" (.ref pw)) (V_pw : Arv Z Z.heap pw kp .long (19 : Int32) (own_ql.map Value.long) (.long (0 : Int64))) (V_a : Arv Z h0 a kc .char (24 : Int32) vs (.int 0)) (hH : own_PH vs o len nn sk) :
    MetFree l (⟨"com/example/depthline/depthline/core/Decimal", "parse", "([CII)Lcom/example/depthline/depthline/core/Decimal;"⟩ : MethodName) (head1 (Jvm.Cond.code (⟨"com/example/depthline/depthline/core/Decimal", "parse", "([CII)Lcom/example/depthline/depthline/core/Decimal;"⟩ : MethodName) prog_8_method_3_code 13 (some (.object "com/example/depthline/depthline/core/Decimal")) :: ws) ({ frames := 2, cells := 1, slots := 2, locals := 28 } : Room)) (fun a' U' => a' = #[(.ref a), (.int o), (.int len)] ∧ Z.Warmed39 U'.vm ∧ U'.heap = h0) (fun _ _ _ _ _ => True) (fun _ U' o' W' => ∃ v' L', o' = .returned v' ∧ Qrm4 Z a o len pw kp kc vs nn sk h0 n0 v' W'.heap L' ∧ FrameEnd U' o' W' L' ({ frames := 2, cells := 1, slots := 2, locals := 28 } : Room).cells ({ frames := 2, cells := 1, slots := 2, locals := 28 } : Room).slots) := by
  refine MetFree.of_bodySF (plainFor_of_name pn_1) hisR ?_
  intro p e s m args below meth c s₁ Bd hml0 hP hK
  obtain ⟨rfl, hZ, hh⟩ := hP
  have hx := Bd.exec
  have hby := Bd.bytes
  have hml : c.maxLocals = 13 := hml0
  have hown : s.vm.findClass "com/example/depthline/depthline/core/Decimal" = some m.cls := findClass_of_methodNamed Bd.named
  have hnm := (name_of_methodNamed Bd.named Bd.method).1
  have X0 : Stand p l e ({ frames := 2, cells := 1, slots := 2, locals := 28 } : Room) s m #[(.ref a), (.int o), (.int len)] below meth c s₁ [] 0 0 := Stand.of_body Bd
  have e0 : s₁.heap = h0 := by rw [← hh, Bd.state]; rfl
  have N0 := Fr.nil n0
  have K0 := Keep.refl h0 []
  refine own_start (ef_rm4 m a o len) (Q := fun o' t' => ∃ v' L', o' = .returned v' ∧ Qrm4 Z a o len pw kp kc vs nn sk h0 n0 v' t'.heap L' ∧ FrameEnd s o' t' L' ({ frames := 2, cells := 1, slots := 2, locals := 28 } : Room).cells ({ frames := 2, cells := 1, slots := 2, locals := 28 } : Room).slots) ?_
  obtain ⟨N, K, zz, tt, ov, L, hN, hN18, hK, hzz, hK0, hK17, htt, hK18, hK19, hL, ho, hov, hlen, hsk, hcs⟩ := hH
  have e0_ : (0 : Int32).toInt = 0 := by decide
  have e1_ : (1 : Int32).toInt = 1 := by decide
  have em1_ : (-1 : Int32).toInt = -1 := by decide
  have e18_ : (18 : Int32).toInt = 18 := by decide
  have e46_ : (46 : Int32).toInt = 46 := by decide
  have e48_ : (48 : Int32).toInt = 48 := by decide
  have e57_ : (57 : Int32).toInt = 57 := by decide
  have l0_ : (0 : Int64).toInt = 0 := by decide
  have hLb : L ≤ 22 := by rw [hL]; split <;> omega
  have hend : (o + len).toInt = (ov + L : Nat) := by
    have q1 := c_iadd o len
    have q2 := rng32 (o + len)
    omega
  show own_Fin p e below (s₁.setTop (mkF m 0 #[.val (.ref a), .val (.int o), .val (.int len), .unset, .unset, .unset, .unset, .unset, .unset, .unset, .unset, .unset, .unset] [])) _
  refine own_go (fun _ k => XS.iloadN X0.here hx rfl (hb hby d4_0) rfl (XS.iloadN X0.here hx rfl (hb hby d4_1) rfl (XS.iadd X0.here hx rfl (hb hby d4_2) rfl (XS.istoreN X0.here hx rfl (hb hby d4_3) rfl (l' := #[.val (.ref a), .val (.int o), .val (.int len), .val (.int (o + len)), .unset, .unset, .unset, .unset, .unset, .unset, .unset, .unset, .unset]) rfl (XS.lconst X0.here hx rfl (hb hby d4_4) (XS.lstore X0.here hx rfl (hb hby d4_5) rfl (l' := #[.val (.ref a), .val (.int o), .val (.int len), .val (.int (o + len)), .val (.long (0 : Int64)), .second, .unset, .unset, .unset, .unset, .unset, .unset, .unset]) rfl (XS.iconst X0.here hx rfl (hb hby d4_7) (XS.istore X0.here hx rfl (hb hby d4_8) rfl (l' := #[.val (.ref a), .val (.int o), .val (.int len), .val (.int (o + len)), .val (.long (0 : Int64)), .second, .val (.int 0), .unset, .unset, .unset, .unset, .unset, .unset]) rfl (XS.iconst X0.here hx rfl (hb hby d4_10) (XS.istore X0.here hx rfl (hb hby d4_11) rfl (l' := #[.val (.ref a), .val (.int o), .val (.int len), .val (.int (o + len)), .val (.long (0 : Int64)), .second, .val (.int 0), .val (.int 0), .unset, .unset, .unset, .unset, .unset]) rfl k)))))))))) ?_
  show own_Fin p e below (s₁.setTop (mkF m 13 #[.val (.ref a), .val (.int o), .val (.int len), .val (.int (o + len)), .val (.long (0 : Int64)), .second, .val (.int 0), .val (.int 0), .unset, .unset, .unset, .unset, .unset] [])) _
  refine own_go (fun _ k => XS.iconst X0.here hx rfl (hb hby d4_13) (XS.istore X0.here hx rfl (hb hby d4_14) rfl (l' := #[.val (.ref a), .val (.int o), .val (.int len), .val (.int (o + len)), .val (.long (0 : Int64)), .second, .val (.int 0), .val (.int 0), .val (.int (-1 : Int32)), .unset, .unset, .unset, .unset]) rfl (XS.iconst X0.here hx rfl (hb hby d4_16) (XS.istore X0.here hx rfl (hb hby d4_17) rfl (l' := #[.val (.ref a), .val (.int o), .val (.int len), .val (.int (o + len)), .val (.long (0 : Int64)), .second, .val (.int 0), .val (.int 0), .val (.int (-1 : Int32)), .val (.int 0), .unset, .unset, .unset]) rfl (XS.iloadN X0.here hx rfl (hb hby d4_19) rfl (XS.istore X0.here hx rfl (hb hby d4_20) rfl (l' := #[.val (.ref a), .val (.int o), .val (.int len), .val (.int (o + len)), .val (.long (0 : Int64)), .second, .val (.int 0), .val (.int 0), .val (.int (-1 : Int32)), .val (.int 0), .val (.int o), .unset, .unset]) rfl k)))))) ?_
  show own_Fin p e below (s₁.setTop (mkF m 22 #[.val (.ref a), .val (.int o), .val (.int len), .val (.int (o + len)), .val (.long (0 : Int64)), .second, .val (.int 0), .val (.int 0), .val (.int (-1 : Int32)), .val (.int 0), .val (.int o), .unset, .unset] [])) _
  have loop : ∀ (r j : Nat) (U : Int64) (dg sc pt pd ii : Int32) (s11 s12 : Slot) (T1 : State), Stand p l e ({ frames := 2, cells := 1, slots := 2, locals := 28 } : Room) s m #[(.ref a), (.int o), (.int len)] below meth c T1 [] 0 0 → T1.heap = h0 → One s11 → One s12 → ii.toInt = (ov + j : Nat) → j + r = L → own_Inv N K zz ov j U dg sc pt pd → own_Fin p e below (T1.setTop (mkF m 22 #[.val (.ref a), .val (.int o), .val (.int len), .val (.int (o + len)), .val (.long U), .second, .val (.int dg), .val (.int sc), .val (.int pt), .val (.int pd), .val (.int ii), s11, s12] [])) (fun o' t' => ∃ v' L', o' = .returned v' ∧ Qrm4 Z a o len pw kp kc vs nn sk h0 n0 v' t'.heap L' ∧ FrameEnd s o' t' L' ({ frames := 2, cells := 1, slots := 2, locals := 28 } : Room).cells ({ frames := 2, cells := 1, slots := 2, locals := 28 } : Room).slots) := by
   intro r
   induction r with
   | zero =>
    intro j U dg sc pt pd ii s11 s12 T1 XT eT h11 h12 hii hjr hI
    obtain rfl : j = L := by omega
    obtain ⟨u, d, s_, e_, hu, hd, hs, he, bu, bd, bs, be, hNI, hp1, hp2⟩ := hI
    obtain ⟨hdu, hds⟩ := own_done hK hzz hK17 htt hK18 hK19 hL hNI
    have hU : U = nn := by rw [← Int64.toInt_inj]; omega
    have hS_ : sc = sk := by rw [← Int32.toInt_inj]; omega
    have hsub := c_isub (o + len) 1
    have hsub' := rng32 ((o + len) - 1)
    have hpt : ¬ (pt = ((o + len) - (1 : Int32))) := by
     rw [← Int32.toInt_inj]
     by_cases hk9 : K = 19
     ·have := hp1 (Or.inr hk9); omega
     ·rw [if_pos (by omega)] at hL; have := hp2 ⟨by omega, by omega⟩; have := hK18; omega
    rw [hU, hS_]
    show own_Fin p e below (T1.setTop (mkF m 22 #[.val (.ref a), .val (.int o), .val (.int len), .val (.int (o + len)), .val (.long nn), .second, .val (.int dg), .val (.int sk), .val (.int pt), .val (.int pd), .val (.int ii), s11, s12] [])) _
    refine own_go (fun _ k => XS.iload XT.here hx rfl (hb hby d4_22) rfl (XS.iloadN XT.here hx rfl (hb hby d4_24) rfl (XS.icmpYes XT.here hx rfl (pc0 := 25) (pc' := 208) rfl (hb hby d4_25) rfl (flt (by rw [Int32.lt_iff_toInt_lt]; omega : ¬ (ii < (o + len)))).2.1 (by decide) (by decide) (XS.iloadN XT.here hx rfl (hb hby d4_208) rfl (XS.ifNo XT.here hx rfl (hb hby d4_209) rfl ((if0 _ _).trans (feq (by rw [← Int32.toInt_inj]; omega : ¬ (len = (0 : Int32)))).1) (XS.iload XT.here hx rfl (hb hby d4_212) rfl (XS.iloadN XT.here hx rfl (hb hby d4_214) rfl (XS.iconst XT.here hx rfl (hb hby d4_215) (XS.isub XT.here hx rfl (hb hby d4_216) rfl (XS.icmpYes XT.here hx rfl (pc0 := 217) (pc' := 229) rfl (hb hby d4_217) rfl (feq hpt).2 (by decide) (by decide) k)))))))))) ?_
    show own_Fin p e below (T1.setTop (mkF m 229 #[.val (.ref a), .val (.int o), .val (.int len), .val (.int (o + len)), .val (.long nn), .second, .val (.int dg), .val (.int sk), .val (.int pt), .val (.int pd), .val (.int ii), s11, s12] [])) _
    obtain ⟨T71, h71, X71, e71, E71, A71, D71, -, st71⟩ := newO XT hx hZ hown (ow hw 38) (ow hw 39) (ow hw 34) eT (g := (mkF m 229 #[.val (.ref a), .val (.int o), .val (.int len), .val (.int (o + len)), .val (.long nn), .second, .val (.int dg), .val (.int sk), .val (.int pt), .val (.int pd), .val (.int ii), s11, s12] [])) rfl (hb hby d4_229) (by decide) (by decide)
    obtain ⟨b71, g71⟩ : ∃ z, z = h0.size := ⟨_, rfl⟩
    rw [← g71] at A71 D71 st71
    refine own_go (fun _ k => st71 _ k) ?_
    have ne_a_b71 : a ≠ b71 := Nat.ne_of_lt (Nat.lt_of_lt_of_le V_a.lt (Nat.le_of_eq g71.symm))
    have g_b71 : n0 ≤ b71 := Nat.le_trans (own_osz O) (Nat.le_of_eq g71.symm)
    have sz_b71 : h0.size ≤ b71 := Nat.le_trans K0.1 (Nat.le_of_eq g71.symm)
    have V_a := V_a.ext E71
    have O := O.ext E71
    have K72 := K0.ext E71
    have E_b71 := A71
    have F_b71_Decimal_unscaled : Fld Z h71 b71 "com/example/depthline/depthline/core/Decimal" "unscaled" "J" (.long (0 : Int64)) := D71 (Or.inr (ow hw 47)) (ty := .long) (by decide)
    have F_b71_Decimal_scale : Fld Z h71 b71 "com/example/depthline/depthline/core/Decimal" "scale" "I" (.int 0) := D71 (Or.inr (ow hw 49)) (ty := .int) (by decide)
    show own_Fin p e below (T71.setTop (mkF m 232 #[.val (.ref a), .val (.int o), .val (.int len), .val (.int (o + len)), .val (.long nn), .second, .val (.int dg), .val (.int sk), .val (.int pt), .val (.int pd), .val (.int ii), s11, s12] [(.ref b71)])) _
    refine own_go (fun _ k => XS.dup X71.here hx rfl (hb hby d4_232) rfl rfl (XS.lload X71.here hx rfl (hb hby d4_233) rfl (XS.iload X71.here hx rfl (hb hby d4_235) rfl k))) ?_
    show own_Fin p e below (T71.setTop (mkF m 237 #[.val (.ref a), .val (.int o), .val (.int len), .val (.int (o + len)), .val (.long nn), .second, .val (.int dg), .val (.int sk), .val (.int pt), .val (.int pd), .val (.int ii), s11, s12] [(.int sk), (.long nn), (.ref b71), (.ref b71)])) _
    obtain ⟨_, _, ⟨T73, L73, k73, n73⟩, -, X73, ⟨Lc73, hQ73, l73, y73, z73⟩, st73⟩ := X71.specialBack hx (y := (⟨"com/example/depthline/depthline/core/Decimal", "<init>", "(JI)V"⟩ : MethodName)) rfl hown (mvT hZ (ow hw 40)) (mvT hZ (ow hw 41)) (mvT hZ (ow hw 42)) (by decide) (backOf (W := 1) (rm5 l Z a0 hw [] b71 nn sk h71 n0 O E_b71 F_b71_Decimal_unscaled F_b71_Decimal_scale g_b71) hZ (ow hw 42) (ow hw 34) (by decide) (by decide)) (g := (mkF m 237 #[.val (.ref a), .val (.int o), .val (.int len), .val (.int (o + len)), .val (.long nn), .second, .val (.int dg), .val (.int sk), .val (.int pt), .val (.int pd), .val (.int ii), s11, s12] [(.int sk), (.long nn), (.ref b71), (.ref b71)])) rfl (by rw [hml]; rfl) (Steps.refl _) (a := b71) (argsL := [(.long nn), (.int sk)]) (rest := [(.ref b71)]) (lenOf pd_2 rfl) rfl (by show 2 * 0 + _ ≤ _; exact Nat.le_of_eq rfl) (hb hby d4_237) (fun _ _ => ⟨rfl, e71, (by decide : 1 + 0 ≤ _), (by decide : 2 + 0 ≤ _)⟩)
    dsimp only [Pt.U, Pt.locs, Pt.cells, Pt.slots] at X73 l73 y73 z73 st73 hQ73
    subst y73 z73
    obtain ⟨rfl, N73q, Kq73, P73_0, P73_1, P73_2⟩ := hQ73
    refine own_go (fun _ k => st73.trans k) ?_
    have N73 := own_frl l73 (Fr.app N0 N73q)
    have V_a := V_a.keep Kq73 (ninS ne_a_b71 nin0)
    have E_b71 := E_b71.keep Kq73
    clear F_b71_Decimal_unscaled
    clear F_b71_Decimal_scale
    have O := O.keep Kq73 (allS g_b71 all0)
    have K74 := K72.trans Kq73 (allS (Or.inr sz_b71) all0)
    have E_b71 := P73_0
    have F_b71_Decimal_unscaled := P73_1
    have F_b71_Decimal_scale := P73_2
    show own_Fin p e below (T73.setTop (mkF m 240 #[.val (.ref a), .val (.int o), .val (.int len), .val (.int (o + len)), .val (.long nn), .second, .val (.int dg), .val (.int sk), .val (.int pt), .val (.int pd), .val (.int ii), s11, s12] [(.ref b71)])) _
    obtain ⟨fs, hr, hrun, hended, hW, hsame⟩ := X73.leave (v := some (.ref b71)) (fun h => by rw [Bd.returns] at h; cases h)
    refine ⟨_, _, ?_, hrun, hended, _, _, rfl, ?_, ⟨_, rfl⟩, hW, hsame.mono (by decide) (by decide)⟩
    ·exact X73.areturnOut hx rfl Bd.returns rfl (hb hby d4_240) hr
    ·show Qrm4 Z a o len pw kp kc vs nn sk h0 n0 _ T73.heap _
     exact ⟨b71, rfl, N73, K74, sz_b71, E_b71, F_b71_Decimal_unscaled, F_b71_Decimal_scale⟩
   | succ r ih =>
    intro j U dg sc pt pd ii s11 s12 T1 XT eT h11 h12 hii hjr hI
    obtain ⟨u, d, s_, e_, hu, hd, hs, he, bu, bd, bs, be, hNI, hp1, hp2⟩ := hI
    obtain ⟨cc, hat, hcc⟩ := hcs j (by omega)
    have hi1 := c_iadd ii 1
    have hi2 := rng32 (ii + 1)
    have hp3 := c_iadd pd 1
    have hp4 := rng32 (pd + 1)
    have hcs1 := c_isub cc 48
    have hcs2 := rng32 (cc - 48)
    have hcs3 := c_i2l (cc - 48)
    have hin' : ii.toNatClampNeg = ov + j := own_clamp hii
    rcases own_turn hN18 hK hzz hK0 hK17 htt hK18 hK19 hL (by omega) hNI with ⟨hph, ss0, ee0, dd, hdd, hch, hub, hdb, hI'⟩ | ⟨hph, hk8, hch, hj0, hI'⟩ | ⟨hph, hk8, hch, heb, hI'⟩ | ⟨hph, hk8, hes, dd, hd1, hdd, hch, hub, hdb, hI'⟩
    ·have hpt := hp1 (by omega)
     show own_Fin p e below (T1.setTop (mkF m 22 #[.val (.ref a), .val (.int o), .val (.int len), .val (.int (o + len)), .val (.long U), .second, .val (.int dg), .val (.int sc), .val (.int pt), .val (.int pd), .val (.int ii), s11, s12] [])) _
     refine own_go (fun _ k => XS.iload XT.here hx rfl (hb hby d4_22) rfl (XS.iloadN XT.here hx rfl (hb hby d4_24) rfl (XS.icmpNo XT.here hx rfl (hb hby d4_25) rfl (tlt (by rw [Int32.lt_iff_toInt_lt]; omega : ii < (o + len))).2.1 (XS.aloadN XT.here hx rfl (hb hby d4_28) rfl rfl (XS.iload XT.here hx rfl (hb hby d4_29) rfl k))))) ?_
     show own_Fin p e below (T1.setTop (mkF m 31 #[.val (.ref a), .val (.int o), .val (.int len), .val (.int (o + len)), .val (.long U), .second, .val (.int dg), .val (.int sc), .val (.int pt), .val (.int pd), .val (.int ii), s11, s12] [(.int ii), (.ref a)])) _
     obtain ⟨cl76, A76, q76, S76, M76, H76, G76⟩ := id V_a
     have hin76 : ¬ (ii < 0 ∨ cl76.slots.size ≤ (ii).toNatClampNeg) := inb_of S76 (own_inb24 hii (by omega))
     have hat76 : cl76.slots[(ii).toNatClampNeg]? = some (.int cc) := Has.at H76 hin76 (by rw [hin']; exact hat)
     refine own_go (fun _ k => XT.caload hx (j := ii) (v := (.int cc)) (own_eqE eT A76.1) (State.isArrayOf_alike hZ.alike A76.2.1) A76.2.2 hin76 hat76 (g := (mkF m 31 #[.val (.ref a), .val (.int o), .val (.int len), .val (.int (o + len)), .val (.long U), .second, .val (.int dg), .val (.int sc), .val (.int pt), .val (.int pd), .val (.int ii), s11, s12] [(.int ii), (.ref a)])) rfl rfl (hb hby d4_31) _ k) ?_
     show own_Fin p e below (T1.setTop (mkF m 32 #[.val (.ref a), .val (.int o), .val (.int len), .val (.int (o + len)), .val (.long U), .second, .val (.int dg), .val (.int sc), .val (.int pt), .val (.int pd), .val (.int ii), s11, s12] [(.int cc)])) _
     refine own_go (fun _ k => XS.istore XT.here hx rfl (hb hby d4_32) rfl (l' := #[.val (.ref a), .val (.int o), .val (.int len), .val (.int (o + len)), .val (.long U), .second, .val (.int dg), .val (.int sc), .val (.int pt), .val (.int pd), .val (.int ii), .val (.int cc), s12]) (own_st2 rfl h11 rfl rfl) (XS.iload XT.here hx rfl (hb hby d4_34) rfl (XS.bipush XT.here hx rfl (hb hby d4_36) (XS.icmpYes XT.here hx rfl (pc0 := 38) (pc' := 59) rfl (hb hby d4_38) rfl (feq (by rw [← Int32.toInt_inj]; omega : ¬ (cc = (46 : Int32)))).2 (by decide) (by decide) (XS.iload XT.here hx rfl (hb hby d4_59) rfl (XS.bipush XT.here hx rfl (hb hby d4_61) (XS.icmpNo XT.here hx rfl (hb hby d4_63) rfl (flt (by rw [Int32.lt_iff_toInt_lt]; omega : ¬ (cc < (48 : Int32)))).1 (XS.iload XT.here hx rfl (hb hby d4_66) rfl (XS.bipush XT.here hx rfl (hb hby d4_68) (XS.icmpYes XT.here hx rfl (pc0 := 70) (pc' := 82) rfl (hb hby d4_70) rfl (flt (by rw [Int32.lt_iff_toInt_lt]; omega : ¬ ((57 : Int32) < cc))).2.2.2 (by decide) (by decide) k)))))))))) ?_
     show own_Fin p e below (T1.setTop (mkF m 82 #[.val (.ref a), .val (.int o), .val (.int len), .val (.int (o + len)), .val (.long U), .second, .val (.int dg), .val (.int sc), .val (.int pt), .val (.int pd), .val (.int ii), .val (.int cc), s12] [])) _
     refine own_go (fun _ k => XS.iload XT.here hx rfl (hb hby d4_82) rfl (XS.ifNo XT.here hx rfl (hb hby d4_84) rfl ((if0 _ _).trans (tlt (by rw [Int32.lt_iff_toInt_lt]; omega : pt < (0 : Int32))).2.1) (XS.iconst XT.here hx rfl (hb hby d4_87) (XS.istore XT.here hx rfl (hb hby d4_88) rfl (l' := #[.val (.ref a), .val (.int o), .val (.int len), .val (.int (o + len)), .val (.long U), .second, .val (.int dg), .val (.int sc), .val (.int pt), .val (.int pd), .val (.int ii), .val (.int cc), .val (.int 1)]) (own_st2 rfl h12 rfl rfl) (XS.goto XT.here hx rfl (pc0 := 90) (pc' := 141) rfl (hb hby d4_90) (by decide) (by decide) (XS.iload XT.here hx rfl (hb hby d4_141) rfl k)))))) ?_
     show own_Fin p e below (T1.setTop (mkF m 143 #[.val (.ref a), .val (.int o), .val (.int len), .val (.int (o + len)), .val (.long U), .second, .val (.int dg), .val (.int sc), .val (.int pt), .val (.int pd), .val (.int ii), .val (.int cc), .val (.int 1)] [(.int dg)])) _
     by_cases hc143_77 : (0 : Int32) < dg
     ·refine own_go (fun _ k => XS.ifNo XT.here hx rfl (hb hby d4_143) rfl ((if0 _ _).trans (tlt hc143_77).2.2.2) (XS.iload XT.here hx rfl (hb hby d4_146) rfl (XS.iload XT.here hx rfl (hb hby d4_148) rfl (XS.iadd XT.here hx rfl (hb hby d4_150) rfl (XS.goto XT.here hx rfl (pc0 := 151) (pc' := 166) rfl (hb hby d4_151) (by decide) (by decide) (XS.istore XT.here hx rfl (hb hby d4_166) rfl (l' := #[.val (.ref a), .val (.int o), .val (.int len), .val (.int (o + len)), .val (.long U), .second, .val (.int (dg + (1 : Int32))), .val (.int sc), .val (.int pt), .val (.int pd), .val (.int ii), .val (.int cc), .val (.int 1)]) rfl (XS.iload XT.here hx rfl (hb hby d4_168) rfl (XS.bipush XT.here hx rfl (hb hby d4_170) (XS.icmpYes XT.here hx rfl (pc0 := 172) (pc' := 184) rfl (hb hby d4_172) rfl (flt (by have q1 := c_iadd dg (1 : Int32); have q2 := rng32 (dg + (1 : Int32)); rw [Int32.lt_iff_toInt_lt]; simp only [Int32.lt_iff_toInt_lt, ← Int32.toInt_inj] at *; split at hdb <;> omega : ¬ ((18 : Int32) < (dg + (1 : Int32))))).2.2.2 (by decide) (by decide) (XS.lload XT.here hx rfl (hb hby d4_184) rfl k)))))))))) ?_
      show own_Fin p e below (T1.setTop (mkF m 186 #[.val (.ref a), .val (.int o), .val (.int len), .val (.int (o + len)), .val (.long U), .second, .val (.int (dg + (1 : Int32))), .val (.int sc), .val (.int pt), .val (.int pd), .val (.int ii), .val (.int cc), .val (.int 1)] [(.long U)])) _
      obtain ⟨T78, X78, e78, st78⟩ := getS2 XT hx hZ hown (host := "") (Or.inl (ow hw 36)) Via.refl eT (S_Decimal_POWERS.ext O.2) (g := (mkF m 186 #[.val (.ref a), .val (.int o), .val (.int len), .val (.int (o + len)), .val (.long U), .second, .val (.int (dg + (1 : Int32))), .val (.int sc), .val (.int pt), .val (.int pd), .val (.int ii), .val (.int cc), .val (.int 1)] [(.long U)])) rfl (hb hby d4_186)
      refine own_go (fun _ k => st78 _ k) ?_
      show own_Fin p e below (T78.setTop (mkF m 189 #[.val (.ref a), .val (.int o), .val (.int len), .val (.int (o + len)), .val (.long U), .second, .val (.int (dg + (1 : Int32))), .val (.int sc), .val (.int pt), .val (.int pd), .val (.int ii), .val (.int cc), .val (.int 1)] [(.ref pw), (.long U)])) _
      refine own_go (fun _ k => XS.iload X78.here hx rfl (hb hby d4_189) rfl k) ?_
      show own_Fin p e below (T78.setTop (mkF m 191 #[.val (.ref a), .val (.int o), .val (.int len), .val (.int (o + len)), .val (.long U), .second, .val (.int (dg + (1 : Int32))), .val (.int sc), .val (.int pt), .val (.int pd), .val (.int ii), .val (.int cc), .val (.int 1)] [(.int 1), (.ref pw), (.long U)])) _
      obtain ⟨cl79, A79, q79, S79, M79, H79, G79⟩ := id (V_pw.ext O.2)
      have hin79 : ¬ ((1 : Int32) < 0 ∨ cl79.slots.size ≤ ((1 : Int32)).toNatClampNeg) := inb_of S79 ⟨by decide, by decide⟩
      have hat79 : cl79.slots[((1 : Int32)).toNatClampNeg]? = some (.long (10 : Int64)) := Has.at H79 hin79 rfl
      refine own_go (fun _ k => X78.laload hx (j := (1 : Int32)) (v := (.long (10 : Int64))) (own_eqE e78 A79.1) (State.isArrayOf_alike hZ.alike A79.2.1) A79.2.2 hin79 hat79 (g := (mkF m 191 #[.val (.ref a), .val (.int o), .val (.int len), .val (.int (o + len)), .val (.long U), .second, .val (.int (dg + (1 : Int32))), .val (.int sc), .val (.int pt), .val (.int pd), .val (.int ii), .val (.int cc), .val (.int 1)] [(.int 1), (.ref pw), (.long U)])) rfl rfl (hb hby d4_191) _ k) ?_
      show own_Fin p e below (T78.setTop (mkF m 192 #[.val (.ref a), .val (.int o), .val (.int len), .val (.int (o + len)), .val (.long U), .second, .val (.int (dg + (1 : Int32))), .val (.int sc), .val (.int pt), .val (.int pd), .val (.int ii), .val (.int cc), .val (.int 1)] [(.long (10 : Int64)), (.long U)])) _
      refine own_go (fun _ k => XS.lmul X78.here hx rfl (hb hby d4_192) rfl (XS.iload X78.here hx rfl (hb hby d4_193) rfl (XS.bipush X78.here hx rfl (hb hby d4_195) (XS.isub X78.here hx rfl (hb hby d4_197) rfl (XS.i2l X78.here hx rfl (hb hby d4_198) rfl (XS.ladd X78.here hx rfl (hb hby d4_199) rfl (XS.lstore X78.here hx rfl (hb hby d4_200) rfl (l' := #[.val (.ref a), .val (.int o), .val (.int len), .val (.int (o + len)), .val (.long ((U * (10 : Int64)) + ((cc - (48 : Int32)).toInt64))), .second, .val (.int (dg + (1 : Int32))), .val (.int sc), .val (.int pt), .val (.int pd), .val (.int ii), .val (.int cc), .val (.int 1)]) rfl k))))))) ?_
      show own_Fin p e below (T78.setTop (mkF m 202 #[.val (.ref a), .val (.int o), .val (.int len), .val (.int (o + len)), .val (.long ((U * (10 : Int64)) + ((cc - (48 : Int32)).toInt64))), .second, .val (.int (dg + (1 : Int32))), .val (.int sc), .val (.int pt), .val (.int pd), .val (.int ii), .val (.int cc), .val (.int 1)] [])) _
      have hnd : ((dg + (1 : Int32))).toInt = ((if 0 < d then d + 1 else if dd = 0 then 0 else 1) : Nat) := by
       have q1 := c_iadd dg (1 : Int32)
       have q2 := rng32 (dg + (1 : Int32))
       simp only [Int32.lt_iff_toInt_lt, ← Int32.toInt_inj] at *
       split <;> (try split) <;> omega
      have hnu : (((U * (10 : Int64)) + ((cc - (48 : Int32)).toInt64))).toInt = (u * 10 + dd : Nat) := by
       have q0 : (10 : Int64).toInt = 10 := by decide
       have q1 := c_lmul U (10 : Int64)
       have q2 := rng64 (U * (10 : Int64))
       have q3 := c_ladd (U * (10 : Int64)) (cc - (48 : Int32)).toInt64
       have q4 := rng64 ((U * (10 : Int64)) + (cc - (48 : Int32)).toInt64)
       rw [q0, hu] at q1
       omega
      subst ss0 ee0
      show own_Fin p e below (T78.setTop (mkF m 202 #[.val (.ref a), .val (.int o), .val (.int len), .val (.int (o + len)), .val (.long ((U * (10 : Int64)) + ((cc - (48 : Int32)).toInt64))), .second, .val (.int (dg + (1 : Int32))), .val (.int sc), .val (.int pt), .val (.int pd), .val (.int ii), .val (.int cc), .val (.int 1)] [])) _
      refine own_go (fun _ k => XS.iinc X78.here hx rfl (hb hby d4_202) rfl (l' := #[.val (.ref a), .val (.int o), .val (.int len), .val (.int (o + len)), .val (.long ((U * (10 : Int64)) + ((cc - (48 : Int32)).toInt64))), .second, .val (.int (dg + (1 : Int32))), .val (.int sc), .val (.int pt), .val (.int pd), .val (.int (ii + (1 : Int32))), .val (.int cc), .val (.int 1)]) rfl (XS.goto X78.here hx rfl (pc0 := 205) (pc' := 22) rfl (hb hby d4_205) (by decide) (by decide) k)) ?_
      show own_Fin p e below (T78.setTop (mkF m 22 #[.val (.ref a), .val (.int o), .val (.int len), .val (.int (o + len)), .val (.long ((U * (10 : Int64)) + ((cc - (48 : Int32)).toInt64))), .second, .val (.int (dg + (1 : Int32))), .val (.int sc), .val (.int pt), .val (.int pd), .val (.int (ii + (1 : Int32))), .val (.int cc), .val (.int 1)] [])) _
      exact ih (j + 1) ((U * (10 : Int64)) + ((cc - (48 : Int32)).toInt64)) (dg + (1 : Int32)) sc pt pd (ii + (1 : Int32)) _ _ T78 X78 e78 (One.val rfl) (One.val rfl) (by omega) (by omega) ⟨_, _, _, 0, hnu, hnd, by omega, by omega, hub, hdb, by omega, by omega, hI', fun h => hpt, fun h => by omega⟩
     ·refine own_go (fun _ k => XS.ifYes XT.here hx rfl (pc0 := 143) (pc' := 154) rfl (hb hby d4_143) rfl ((if0 _ _).trans (flt hc143_77).2.2.2) (by decide) (by decide) (XS.iload XT.here hx rfl (hb hby d4_154) rfl (XS.bipush XT.here hx rfl (hb hby d4_156) k))) ?_
      show own_Fin p e below (T1.setTop (mkF m 158 #[.val (.ref a), .val (.int o), .val (.int len), .val (.int (o + len)), .val (.long U), .second, .val (.int dg), .val (.int sc), .val (.int pt), .val (.int pd), .val (.int ii), .val (.int cc), .val (.int 1)] [(.int 48), (.int cc)])) _
      by_cases hc158_80 : cc = (48 : Int32)
      ·refine own_go (fun _ k => XS.icmpNo XT.here hx rfl (hb hby d4_158) rfl (teq hc158_80).2 (XS.iconst XT.here hx rfl (hb hby d4_161) (XS.goto XT.here hx rfl (pc0 := 162) (pc' := 166) rfl (hb hby d4_162) (by decide) (by decide) (XS.istore XT.here hx rfl (hb hby d4_166) rfl (l' := #[.val (.ref a), .val (.int o), .val (.int len), .val (.int (o + len)), .val (.long U), .second, .val (.int 0), .val (.int sc), .val (.int pt), .val (.int pd), .val (.int ii), .val (.int cc), .val (.int 1)]) rfl (XS.iload XT.here hx rfl (hb hby d4_168) rfl (XS.bipush XT.here hx rfl (hb hby d4_170) (XS.icmpYes XT.here hx rfl (pc0 := 172) (pc' := 184) rfl (hb hby d4_172) rfl (flt (by decide : ¬ ((18 : Int32) < (0 : Int32)))).2.2.2 (by decide) (by decide) (XS.lload XT.here hx rfl (hb hby d4_184) rfl k)))))))) ?_
       show own_Fin p e below (T1.setTop (mkF m 186 #[.val (.ref a), .val (.int o), .val (.int len), .val (.int (o + len)), .val (.long U), .second, .val (.int 0), .val (.int sc), .val (.int pt), .val (.int pd), .val (.int ii), .val (.int cc), .val (.int 1)] [(.long U)])) _
       obtain ⟨T81, X81, e81, st81⟩ := getS2 XT hx hZ hown (host := "") (Or.inl (ow hw 36)) Via.refl eT (S_Decimal_POWERS.ext O.2) (g := (mkF m 186 #[.val (.ref a), .val (.int o), .val (.int len), .val (.int (o + len)), .val (.long U), .second, .val (.int 0), .val (.int sc), .val (.int pt), .val (.int pd), .val (.int ii), .val (.int cc), .val (.int 1)] [(.long U)])) rfl (hb hby d4_186)
       refine own_go (fun _ k => st81 _ k) ?_
       show own_Fin p e below (T81.setTop (mkF m 189 #[.val (.ref a), .val (.int o), .val (.int len), .val (.int (o + len)), .val (.long U), .second, .val (.int 0), .val (.int sc), .val (.int pt), .val (.int pd), .val (.int ii), .val (.int cc), .val (.int 1)] [(.ref pw), (.long U)])) _
       refine own_go (fun _ k => XS.iload X81.here hx rfl (hb hby d4_189) rfl k) ?_
       show own_Fin p e below (T81.setTop (mkF m 191 #[.val (.ref a), .val (.int o), .val (.int len), .val (.int (o + len)), .val (.long U), .second, .val (.int 0), .val (.int sc), .val (.int pt), .val (.int pd), .val (.int ii), .val (.int cc), .val (.int 1)] [(.int 1), (.ref pw), (.long U)])) _
       obtain ⟨cl82, A82, q82, S82, M82, H82, G82⟩ := id (V_pw.ext O.2)
       have hin82 : ¬ ((1 : Int32) < 0 ∨ cl82.slots.size ≤ ((1 : Int32)).toNatClampNeg) := inb_of S82 ⟨by decide, by decide⟩
       have hat82 : cl82.slots[((1 : Int32)).toNatClampNeg]? = some (.long (10 : Int64)) := Has.at H82 hin82 rfl
       refine own_go (fun _ k => X81.laload hx (j := (1 : Int32)) (v := (.long (10 : Int64))) (own_eqE e81 A82.1) (State.isArrayOf_alike hZ.alike A82.2.1) A82.2.2 hin82 hat82 (g := (mkF m 191 #[.val (.ref a), .val (.int o), .val (.int len), .val (.int (o + len)), .val (.long U), .second, .val (.int 0), .val (.int sc), .val (.int pt), .val (.int pd), .val (.int ii), .val (.int cc), .val (.int 1)] [(.int 1), (.ref pw), (.long U)])) rfl rfl (hb hby d4_191) _ k) ?_
       show own_Fin p e below (T81.setTop (mkF m 192 #[.val (.ref a), .val (.int o), .val (.int len), .val (.int (o + len)), .val (.long U), .second, .val (.int 0), .val (.int sc), .val (.int pt), .val (.int pd), .val (.int ii), .val (.int cc), .val (.int 1)] [(.long (10 : Int64)), (.long U)])) _
       refine own_go (fun _ k => XS.lmul X81.here hx rfl (hb hby d4_192) rfl (XS.iload X81.here hx rfl (hb hby d4_193) rfl (XS.bipush X81.here hx rfl (hb hby d4_195) (XS.isub X81.here hx rfl (hb hby d4_197) rfl (XS.i2l X81.here hx rfl (hb hby d4_198) rfl (XS.ladd X81.here hx rfl (hb hby d4_199) rfl (XS.lstore X81.here hx rfl (hb hby d4_200) rfl (l' := #[.val (.ref a), .val (.int o), .val (.int len), .val (.int (o + len)), .val (.long ((U * (10 : Int64)) + ((cc - (48 : Int32)).toInt64))), .second, .val (.int 0), .val (.int sc), .val (.int pt), .val (.int pd), .val (.int ii), .val (.int cc), .val (.int 1)]) rfl k))))))) ?_
       show own_Fin p e below (T81.setTop (mkF m 202 #[.val (.ref a), .val (.int o), .val (.int len), .val (.int (o + len)), .val (.long ((U * (10 : Int64)) + ((cc - (48 : Int32)).toInt64))), .second, .val (.int 0), .val (.int sc), .val (.int pt), .val (.int pd), .val (.int ii), .val (.int cc), .val (.int 1)] [])) _
       have hnd : ((0 : Int32)).toInt = ((if 0 < d then d + 1 else if dd = 0 then 0 else 1) : Nat) := by
        have q1 := c_iadd dg (1 : Int32)
        have q2 := rng32 (dg + (1 : Int32))
        simp only [Int32.lt_iff_toInt_lt, ← Int32.toInt_inj] at *
        split <;> (try split) <;> omega
       have hnu : (((U * (10 : Int64)) + ((cc - (48 : Int32)).toInt64))).toInt = (u * 10 + dd : Nat) := by
        have q0 : (10 : Int64).toInt = 10 := by decide
        have q1 := c_lmul U (10 : Int64)
        have q2 := rng64 (U * (10 : Int64))
        have q3 := c_ladd (U * (10 : Int64)) (cc - (48 : Int32)).toInt64
        have q4 := rng64 ((U * (10 : Int64)) + (cc - (48 : Int32)).toInt64)
        rw [q0, hu] at q1
        omega
       subst ss0 ee0
       show own_Fin p e below (T81.setTop (mkF m 202 #[.val (.ref a), .val (.int o), .val (.int len), .val (.int (o + len)), .val (.long ((U * (10 : Int64)) + ((cc - (48 : Int32)).toInt64))), .second, .val (.int 0), .val (.int sc), .val (.int pt), .val (.int pd), .val (.int ii), .val (.int cc), .val (.int 1)] [])) _
       refine own_go (fun _ k => XS.iinc X81.here hx rfl (hb hby d4_202) rfl (l' := #[.val (.ref a), .val (.int o), .val (.int len), .val (.int (o + len)), .val (.long ((U * (10 : Int64)) + ((cc - (48 : Int32)).toInt64))), .second, .val (.int 0), .val (.int sc), .val (.int pt), .val (.int pd), .val (.int (ii + (1 : Int32))), .val (.int cc), .val (.int 1)]) rfl (XS.goto X81.here hx rfl (pc0 := 205) (pc' := 22) rfl (hb hby d4_205) (by decide) (by decide) k)) ?_
       show own_Fin p e below (T81.setTop (mkF m 22 #[.val (.ref a), .val (.int o), .val (.int len), .val (.int (o + len)), .val (.long ((U * (10 : Int64)) + ((cc - (48 : Int32)).toInt64))), .second, .val (.int 0), .val (.int sc), .val (.int pt), .val (.int pd), .val (.int (ii + (1 : Int32))), .val (.int cc), .val (.int 1)] [])) _
       exact ih (j + 1) ((U * (10 : Int64)) + ((cc - (48 : Int32)).toInt64)) (0 : Int32) sc pt pd (ii + (1 : Int32)) _ _ T81 X81 e81 (One.val rfl) (One.val rfl) (by omega) (by omega) ⟨_, _, _, 0, hnu, hnd, by omega, by omega, hub, hdb, by omega, by omega, hI', fun h => hpt, fun h => by omega⟩
      ·refine own_go (fun _ k => XS.icmpYes XT.here hx rfl (pc0 := 158) (pc' := 165) rfl (hb hby d4_158) rfl (feq hc158_80).2 (by decide) (by decide) (XS.iconst XT.here hx rfl (hb hby d4_165) (XS.istore XT.here hx rfl (hb hby d4_166) rfl (l' := #[.val (.ref a), .val (.int o), .val (.int len), .val (.int (o + len)), .val (.long U), .second, .val (.int 1), .val (.int sc), .val (.int pt), .val (.int pd), .val (.int ii), .val (.int cc), .val (.int 1)]) rfl (XS.iload XT.here hx rfl (hb hby d4_168) rfl (XS.bipush XT.here hx rfl (hb hby d4_170) (XS.icmpYes XT.here hx rfl (pc0 := 172) (pc' := 184) rfl (hb hby d4_172) rfl (flt (by decide : ¬ ((18 : Int32) < (1 : Int32)))).2.2.2 (by decide) (by decide) (XS.lload XT.here hx rfl (hb hby d4_184) rfl k))))))) ?_
       show own_Fin p e below (T1.setTop (mkF m 186 #[.val (.ref a), .val (.int o), .val (.int len), .val (.int (o + len)), .val (.long U), .second, .val (.int 1), .val (.int sc), .val (.int pt), .val (.int pd), .val (.int ii), .val (.int cc), .val (.int 1)] [(.long U)])) _
       obtain ⟨T83, X83, e83, st83⟩ := getS2 XT hx hZ hown (host := "") (Or.inl (ow hw 36)) Via.refl eT (S_Decimal_POWERS.ext O.2) (g := (mkF m 186 #[.val (.ref a), .val (.int o), .val (.int len), .val (.int (o + len)), .val (.long U), .second, .val (.int 1), .val (.int sc), .val (.int pt), .val (.int pd), .val (.int ii), .val (.int cc), .val (.int 1)] [(.long U)])) rfl (hb hby d4_186)
       refine own_go (fun _ k => st83 _ k) ?_
       show own_Fin p e below (T83.setTop (mkF m 189 #[.val (.ref a), .val (.int o), .val (.int len), .val (.int (o + len)), .val (.long U), .second, .val (.int 1), .val (.int sc), .val (.int pt), .val (.int pd), .val (.int ii), .val (.int cc), .val (.int 1)] [(.ref pw), (.long U)])) _
       refine own_go (fun _ k => XS.iload X83.here hx rfl (hb hby d4_189) rfl k) ?_
       show own_Fin p e below (T83.setTop (mkF m 191 #[.val (.ref a), .val (.int o), .val (.int len), .val (.int (o + len)), .val (.long U), .second, .val (.int 1), .val (.int sc), .val (.int pt), .val (.int pd), .val (.int ii), .val (.int cc), .val (.int 1)] [(.int 1), (.ref pw), (.long U)])) _
       obtain ⟨cl84, A84, q84, S84, M84, H84, G84⟩ := id (V_pw.ext O.2)
       have hin84 : ¬ ((1 : Int32) < 0 ∨ cl84.slots.size ≤ ((1 : Int32)).toNatClampNeg) := inb_of S84 ⟨by decide, by decide⟩
       have hat84 : cl84.slots[((1 : Int32)).toNatClampNeg]? = some (.long (10 : Int64)) := Has.at H84 hin84 rfl
       refine own_go (fun _ k => X83.laload hx (j := (1 : Int32)) (v := (.long (10 : Int64))) (own_eqE e83 A84.1) (State.isArrayOf_alike hZ.alike A84.2.1) A84.2.2 hin84 hat84 (g := (mkF m 191 #[.val (.ref a), .val (.int o), .val (.int len), .val (.int (o + len)), .val (.long U), .second, .val (.int 1), .val (.int sc), .val (.int pt), .val (.int pd), .val (.int ii), .val (.int cc), .val (.int 1)] [(.int 1), (.ref pw), (.long U)])) rfl rfl (hb hby d4_191) _ k) ?_
       show own_Fin p e below (T83.setTop (mkF m 192 #[.val (.ref a), .val (.int o), .val (.int len), .val (.int (o + len)), .val (.long U), .second, .val (.int 1), .val (.int sc), .val (.int pt), .val (.int pd), .val (.int ii), .val (.int cc), .val (.int 1)] [(.long (10 : Int64)), (.long U)])) _
       refine own_go (fun _ k => XS.lmul X83.here hx rfl (hb hby d4_192) rfl (XS.iload X83.here hx rfl (hb hby d4_193) rfl (XS.bipush X83.here hx rfl (hb hby d4_195) (XS.isub X83.here hx rfl (hb hby d4_197) rfl (XS.i2l X83.here hx rfl (hb hby d4_198) rfl (XS.ladd X83.here hx rfl (hb hby d4_199) rfl (XS.lstore X83.here hx rfl (hb hby d4_200) rfl (l' := #[.val (.ref a), .val (.int o), .val (.int len), .val (.int (o + len)), .val (.long ((U * (10 : Int64)) + ((cc - (48 : Int32)).toInt64))), .second, .val (.int 1), .val (.int sc), .val (.int pt), .val (.int pd), .val (.int ii), .val (.int cc), .val (.int 1)]) rfl k))))))) ?_
       show own_Fin p e below (T83.setTop (mkF m 202 #[.val (.ref a), .val (.int o), .val (.int len), .val (.int (o + len)), .val (.long ((U * (10 : Int64)) + ((cc - (48 : Int32)).toInt64))), .second, .val (.int 1), .val (.int sc), .val (.int pt), .val (.int pd), .val (.int ii), .val (.int cc), .val (.int 1)] [])) _
       have hnd : ((1 : Int32)).toInt = ((if 0 < d then d + 1 else if dd = 0 then 0 else 1) : Nat) := by
        have q1 := c_iadd dg (1 : Int32)
        have q2 := rng32 (dg + (1 : Int32))
        simp only [Int32.lt_iff_toInt_lt, ← Int32.toInt_inj] at *
        split <;> (try split) <;> omega
       have hnu : (((U * (10 : Int64)) + ((cc - (48 : Int32)).toInt64))).toInt = (u * 10 + dd : Nat) := by
        have q0 : (10 : Int64).toInt = 10 := by decide
        have q1 := c_lmul U (10 : Int64)
        have q2 := rng64 (U * (10 : Int64))
        have q3 := c_ladd (U * (10 : Int64)) (cc - (48 : Int32)).toInt64
        have q4 := rng64 ((U * (10 : Int64)) + (cc - (48 : Int32)).toInt64)
        rw [q0, hu] at q1
        omega
       subst ss0 ee0
       show own_Fin p e below (T83.setTop (mkF m 202 #[.val (.ref a), .val (.int o), .val (.int len), .val (.int (o + len)), .val (.long ((U * (10 : Int64)) + ((cc - (48 : Int32)).toInt64))), .second, .val (.int 1), .val (.int sc), .val (.int pt), .val (.int pd), .val (.int ii), .val (.int cc), .val (.int 1)] [])) _
       refine own_go (fun _ k => XS.iinc X83.here hx rfl (hb hby d4_202) rfl (l' := #[.val (.ref a), .val (.int o), .val (.int len), .val (.int (o + len)), .val (.long ((U * (10 : Int64)) + ((cc - (48 : Int32)).toInt64))), .second, .val (.int 1), .val (.int sc), .val (.int pt), .val (.int pd), .val (.int (ii + (1 : Int32))), .val (.int cc), .val (.int 1)]) rfl (XS.goto X83.here hx rfl (pc0 := 205) (pc' := 22) rfl (hb hby d4_205) (by decide) (by decide) k)) ?_
       show own_Fin p e below (T83.setTop (mkF m 22 #[.val (.ref a), .val (.int o), .val (.int len), .val (.int (o + len)), .val (.long ((U * (10 : Int64)) + ((cc - (48 : Int32)).toInt64))), .second, .val (.int 1), .val (.int sc), .val (.int pt), .val (.int pd), .val (.int (ii + (1 : Int32))), .val (.int cc), .val (.int 1)] [])) _
       exact ih (j + 1) ((U * (10 : Int64)) + ((cc - (48 : Int32)).toInt64)) (1 : Int32) sc pt pd (ii + (1 : Int32)) _ _ T83 X83 e83 (One.val rfl) (One.val rfl) (by omega) (by omega) ⟨_, _, _, 0, hnu, hnd, by omega, by omega, hub, hdb, by omega, by omega, hI', fun h => hpt, fun h => by omega⟩
    ·have hpt := hp1 (by omega)
     show own_Fin p e below (T1.setTop (mkF m 22 #[.val (.ref a), .val (.int o), .val (.int len), .val (.int (o + len)), .val (.long U), .second, .val (.int dg), .val (.int sc), .val (.int pt), .val (.int pd), .val (.int ii), s11, s12] [])) _
     refine own_go (fun _ k => XS.iload XT.here hx rfl (hb hby d4_22) rfl (XS.iloadN XT.here hx rfl (hb hby d4_24) rfl (XS.icmpNo XT.here hx rfl (hb hby d4_25) rfl (tlt (by rw [Int32.lt_iff_toInt_lt]; omega : ii < (o + len))).2.1 (XS.aloadN XT.here hx rfl (hb hby d4_28) rfl rfl (XS.iload XT.here hx rfl (hb hby d4_29) rfl k))))) ?_
     show own_Fin p e below (T1.setTop (mkF m 31 #[.val (.ref a), .val (.int o), .val (.int len), .val (.int (o + len)), .val (.long U), .second, .val (.int dg), .val (.int sc), .val (.int pt), .val (.int pd), .val (.int ii), s11, s12] [(.int ii), (.ref a)])) _
     obtain ⟨cl85, A85, q85, S85, M85, H85, G85⟩ := id V_a
     have hin85 : ¬ (ii < 0 ∨ cl85.slots.size ≤ (ii).toNatClampNeg) := inb_of S85 (own_inb24 hii (by omega))
     have hat85 : cl85.slots[(ii).toNatClampNeg]? = some (.int cc) := Has.at H85 hin85 (by rw [hin']; exact hat)
     refine own_go (fun _ k => XT.caload hx (j := ii) (v := (.int cc)) (own_eqE eT A85.1) (State.isArrayOf_alike hZ.alike A85.2.1) A85.2.2 hin85 hat85 (g := (mkF m 31 #[.val (.ref a), .val (.int o), .val (.int len), .val (.int (o + len)), .val (.long U), .second, .val (.int dg), .val (.int sc), .val (.int pt), .val (.int pd), .val (.int ii), s11, s12] [(.int ii), (.ref a)])) rfl rfl (hb hby d4_31) _ k) ?_
     show own_Fin p e below (T1.setTop (mkF m 32 #[.val (.ref a), .val (.int o), .val (.int len), .val (.int (o + len)), .val (.long U), .second, .val (.int dg), .val (.int sc), .val (.int pt), .val (.int pd), .val (.int ii), s11, s12] [(.int cc)])) _
     refine own_go (fun _ k => XS.istore XT.here hx rfl (hb hby d4_32) rfl (l' := #[.val (.ref a), .val (.int o), .val (.int len), .val (.int (o + len)), .val (.long U), .second, .val (.int dg), .val (.int sc), .val (.int pt), .val (.int pd), .val (.int ii), .val (.int cc), s12]) (own_st2 rfl h11 rfl rfl) (XS.iload XT.here hx rfl (hb hby d4_34) rfl (XS.bipush XT.here hx rfl (hb hby d4_36) (XS.icmpNo XT.here hx rfl (hb hby d4_38) rfl (teq (by rw [← Int32.toInt_inj]; omega : cc = (46 : Int32))).2 (XS.iload XT.here hx rfl (hb hby d4_41) rfl (XS.ifNo XT.here hx rfl (hb hby d4_43) rfl ((if0 _ _).trans (tlt (by rw [Int32.lt_iff_toInt_lt]; omega : pt < (0 : Int32))).2.1) (XS.iload XT.here hx rfl (hb hby d4_46) rfl (XS.iloadN XT.here hx rfl (hb hby d4_48) rfl (XS.icmpNo XT.here hx rfl (hb hby d4_49) rfl (tlt (by rw [Int32.lt_iff_toInt_lt]; omega : o < ii)).2.2.2 (XS.iload XT.here hx rfl (hb hby d4_52) rfl k)))))))))) ?_
     show own_Fin p e below (T1.setTop (mkF m 54 #[.val (.ref a), .val (.int o), .val (.int len), .val (.int (o + len)), .val (.long U), .second, .val (.int dg), .val (.int sc), .val (.int pt), .val (.int pd), .val (.int ii), .val (.int cc), s12] [(.int ii)])) _
     refine own_go (fun _ k => XS.istore XT.here hx rfl (hb hby d4_54) rfl (l' := #[.val (.ref a), .val (.int o), .val (.int len), .val (.int (o + len)), .val (.long U), .second, .val (.int dg), .val (.int sc), .val (.int ii), .val (.int pd), .val (.int ii), .val (.int cc), s12]) rfl (XS.goto XT.here hx rfl (pc0 := 56) (pc' := 202) rfl (hb hby d4_56) (by decide) (by decide) k)) ?_
     show own_Fin p e below (T1.setTop (mkF m 202 #[.val (.ref a), .val (.int o), .val (.int len), .val (.int (o + len)), .val (.long U), .second, .val (.int dg), .val (.int sc), .val (.int ii), .val (.int pd), .val (.int ii), .val (.int cc), s12] [])) _
     show own_Fin p e below (T1.setTop (mkF m 202 #[.val (.ref a), .val (.int o), .val (.int len), .val (.int (o + len)), .val (.long U), .second, .val (.int dg), .val (.int sc), .val (.int ii), .val (.int pd), .val (.int ii), .val (.int cc), s12] [])) _
     refine own_go (fun _ k => XS.iinc XT.here hx rfl (hb hby d4_202) rfl (l' := #[.val (.ref a), .val (.int o), .val (.int len), .val (.int (o + len)), .val (.long U), .second, .val (.int dg), .val (.int sc), .val (.int ii), .val (.int pd), .val (.int (ii + (1 : Int32))), .val (.int cc), s12]) rfl (XS.goto XT.here hx rfl (pc0 := 205) (pc' := 22) rfl (hb hby d4_205) (by decide) (by decide) k)) ?_
     show own_Fin p e below (T1.setTop (mkF m 22 #[.val (.ref a), .val (.int o), .val (.int len), .val (.int (o + len)), .val (.long U), .second, .val (.int dg), .val (.int sc), .val (.int ii), .val (.int pd), .val (.int (ii + (1 : Int32))), .val (.int cc), s12] [])) _
     exact ih (j + 1) U dg sc ii pd (ii + (1 : Int32)) _ _ T1 XT eT (One.val rfl) h12 (by omega) (by omega) ⟨u, d, s_, e_, hu, hd, hs, he, bu, bd, bs, be, hI', fun h => by omega, fun _ => by omega⟩
    ·have hpt := hp2 ⟨hph, hk8⟩
     show own_Fin p e below (T1.setTop (mkF m 22 #[.val (.ref a), .val (.int o), .val (.int len), .val (.int (o + len)), .val (.long U), .second, .val (.int dg), .val (.int sc), .val (.int pt), .val (.int pd), .val (.int ii), s11, s12] [])) _
     refine own_go (fun _ k => XS.iload XT.here hx rfl (hb hby d4_22) rfl (XS.iloadN XT.here hx rfl (hb hby d4_24) rfl (XS.icmpNo XT.here hx rfl (hb hby d4_25) rfl (tlt (by rw [Int32.lt_iff_toInt_lt]; omega : ii < (o + len))).2.1 (XS.aloadN XT.here hx rfl (hb hby d4_28) rfl rfl (XS.iload XT.here hx rfl (hb hby d4_29) rfl k))))) ?_
     show own_Fin p e below (T1.setTop (mkF m 31 #[.val (.ref a), .val (.int o), .val (.int len), .val (.int (o + len)), .val (.long U), .second, .val (.int dg), .val (.int sc), .val (.int pt), .val (.int pd), .val (.int ii), s11, s12] [(.int ii), (.ref a)])) _
     obtain ⟨cl86, A86, q86, S86, M86, H86, G86⟩ := id V_a
     have hin86 : ¬ (ii < 0 ∨ cl86.slots.size ≤ (ii).toNatClampNeg) := inb_of S86 (own_inb24 hii (by omega))
     have hat86 : cl86.slots[(ii).toNatClampNeg]? = some (.int cc) := Has.at H86 hin86 (by rw [hin']; exact hat)
     refine own_go (fun _ k => XT.caload hx (j := ii) (v := (.int cc)) (own_eqE eT A86.1) (State.isArrayOf_alike hZ.alike A86.2.1) A86.2.2 hin86 hat86 (g := (mkF m 31 #[.val (.ref a), .val (.int o), .val (.int len), .val (.int (o + len)), .val (.long U), .second, .val (.int dg), .val (.int sc), .val (.int pt), .val (.int pd), .val (.int ii), s11, s12] [(.int ii), (.ref a)])) rfl rfl (hb hby d4_31) _ k) ?_
     show own_Fin p e below (T1.setTop (mkF m 32 #[.val (.ref a), .val (.int o), .val (.int len), .val (.int (o + len)), .val (.long U), .second, .val (.int dg), .val (.int sc), .val (.int pt), .val (.int pd), .val (.int ii), s11, s12] [(.int cc)])) _
     refine own_go (fun _ k => XS.istore XT.here hx rfl (hb hby d4_32) rfl (l' := #[.val (.ref a), .val (.int o), .val (.int len), .val (.int (o + len)), .val (.long U), .second, .val (.int dg), .val (.int sc), .val (.int pt), .val (.int pd), .val (.int ii), .val (.int cc), s12]) (own_st2 rfl h11 rfl rfl) (XS.iload XT.here hx rfl (hb hby d4_34) rfl (XS.bipush XT.here hx rfl (hb hby d4_36) (XS.icmpYes XT.here hx rfl (pc0 := 38) (pc' := 59) rfl (hb hby d4_38) rfl (feq (by rw [← Int32.toInt_inj]; omega : ¬ (cc = (46 : Int32)))).2 (by decide) (by decide) (XS.iload XT.here hx rfl (hb hby d4_59) rfl (XS.bipush XT.here hx rfl (hb hby d4_61) (XS.icmpNo XT.here hx rfl (hb hby d4_63) rfl (flt (by rw [Int32.lt_iff_toInt_lt]; omega : ¬ (cc < (48 : Int32)))).1 (XS.iload XT.here hx rfl (hb hby d4_66) rfl (XS.bipush XT.here hx rfl (hb hby d4_68) (XS.icmpYes XT.here hx rfl (pc0 := 70) (pc' := 82) rfl (hb hby d4_70) rfl (flt (by rw [Int32.lt_iff_toInt_lt]; omega : ¬ ((57 : Int32) < cc))).2.2.2 (by decide) (by decide) k)))))))))) ?_
     show own_Fin p e below (T1.setTop (mkF m 82 #[.val (.ref a), .val (.int o), .val (.int len), .val (.int (o + len)), .val (.long U), .second, .val (.int dg), .val (.int sc), .val (.int pt), .val (.int pd), .val (.int ii), .val (.int cc), s12] [])) _
     refine own_go (fun _ k => XS.iload XT.here hx rfl (hb hby d4_82) rfl (XS.ifYes XT.here hx rfl (pc0 := 84) (pc' := 93) rfl (hb hby d4_84) rfl ((if0 _ _).trans (flt (by rw [Int32.lt_iff_toInt_lt]; omega : ¬ (pt < (0 : Int32)))).2.1) (by decide) (by decide) (XS.iload XT.here hx rfl (hb hby d4_93) rfl (XS.bipush XT.here hx rfl (hb hby d4_95) (XS.icmpNo XT.here hx rfl (hb hby d4_97) rfl (teq (by rw [← Int32.toInt_inj]; omega : cc = (48 : Int32))).2 (XS.iinc XT.here hx rfl (hb hby d4_100) rfl (l' := #[.val (.ref a), .val (.int o), .val (.int len), .val (.int (o + len)), .val (.long U), .second, .val (.int dg), .val (.int sc), .val (.int pt), .val (.int (pd + (1 : Int32))), .val (.int ii), .val (.int cc), s12]) rfl (XS.goto XT.here hx rfl (pc0 := 103) (pc' := 202) rfl (hb hby d4_103) (by decide) (by decide) k))))))) ?_
     show own_Fin p e below (T1.setTop (mkF m 202 #[.val (.ref a), .val (.int o), .val (.int len), .val (.int (o + len)), .val (.long U), .second, .val (.int dg), .val (.int sc), .val (.int pt), .val (.int (pd + (1 : Int32))), .val (.int ii), .val (.int cc), s12] [])) _
     show own_Fin p e below (T1.setTop (mkF m 202 #[.val (.ref a), .val (.int o), .val (.int len), .val (.int (o + len)), .val (.long U), .second, .val (.int dg), .val (.int sc), .val (.int pt), .val (.int (pd + (1 : Int32))), .val (.int ii), .val (.int cc), s12] [])) _
     refine own_go (fun _ k => XS.iinc XT.here hx rfl (hb hby d4_202) rfl (l' := #[.val (.ref a), .val (.int o), .val (.int len), .val (.int (o + len)), .val (.long U), .second, .val (.int dg), .val (.int sc), .val (.int pt), .val (.int (pd + (1 : Int32))), .val (.int (ii + (1 : Int32))), .val (.int cc), s12]) rfl (XS.goto XT.here hx rfl (pc0 := 205) (pc' := 22) rfl (hb hby d4_205) (by decide) (by decide) k)) ?_
     show own_Fin p e below (T1.setTop (mkF m 22 #[.val (.ref a), .val (.int o), .val (.int len), .val (.int (o + len)), .val (.long U), .second, .val (.int dg), .val (.int sc), .val (.int pt), .val (.int (pd + (1 : Int32))), .val (.int (ii + (1 : Int32))), .val (.int cc), s12] [])) _
     exact ih (j + 1) U dg sc pt (pd + (1 : Int32)) (ii + (1 : Int32)) _ _ T1 XT eT (One.val rfl) h12 (by omega) (by omega) ⟨u, d, s_, e_ + 1, hu, hd, hs, by omega, bu, bd, bs, by omega, hI', fun h => by omega, fun _ => hpt⟩
    ·have hpt := hp2 ⟨hph, hk8⟩
     show own_Fin p e below (T1.setTop (mkF m 22 #[.val (.ref a), .val (.int o), .val (.int len), .val (.int (o + len)), .val (.long U), .second, .val (.int dg), .val (.int sc), .val (.int pt), .val (.int pd), .val (.int ii), s11, s12] [])) _
     refine own_go (fun _ k => XS.iload XT.here hx rfl (hb hby d4_22) rfl (XS.iloadN XT.here hx rfl (hb hby d4_24) rfl (XS.icmpNo XT.here hx rfl (hb hby d4_25) rfl (tlt (by rw [Int32.lt_iff_toInt_lt]; omega : ii < (o + len))).2.1 (XS.aloadN XT.here hx rfl (hb hby d4_28) rfl rfl (XS.iload XT.here hx rfl (hb hby d4_29) rfl k))))) ?_
     show own_Fin p e below (T1.setTop (mkF m 31 #[.val (.ref a), .val (.int o), .val (.int len), .val (.int (o + len)), .val (.long U), .second, .val (.int dg), .val (.int sc), .val (.int pt), .val (.int pd), .val (.int ii), s11, s12] [(.int ii), (.ref a)])) _
     obtain ⟨cl87, A87, q87, S87, M87, H87, G87⟩ := id V_a
     have hin87 : ¬ (ii < 0 ∨ cl87.slots.size ≤ (ii).toNatClampNeg) := inb_of S87 (own_inb24 hii (by omega))
     have hat87 : cl87.slots[(ii).toNatClampNeg]? = some (.int cc) := Has.at H87 hin87 (by rw [hin']; exact hat)
     refine own_go (fun _ k => XT.caload hx (j := ii) (v := (.int cc)) (own_eqE eT A87.1) (State.isArrayOf_alike hZ.alike A87.2.1) A87.2.2 hin87 hat87 (g := (mkF m 31 #[.val (.ref a), .val (.int o), .val (.int len), .val (.int (o + len)), .val (.long U), .second, .val (.int dg), .val (.int sc), .val (.int pt), .val (.int pd), .val (.int ii), s11, s12] [(.int ii), (.ref a)])) rfl rfl (hb hby d4_31) _ k) ?_
     show own_Fin p e below (T1.setTop (mkF m 32 #[.val (.ref a), .val (.int o), .val (.int len), .val (.int (o + len)), .val (.long U), .second, .val (.int dg), .val (.int sc), .val (.int pt), .val (.int pd), .val (.int ii), s11, s12] [(.int cc)])) _
     refine own_go (fun _ k => XS.istore XT.here hx rfl (hb hby d4_32) rfl (l' := #[.val (.ref a), .val (.int o), .val (.int len), .val (.int (o + len)), .val (.long U), .second, .val (.int dg), .val (.int sc), .val (.int pt), .val (.int pd), .val (.int ii), .val (.int cc), s12]) (own_st2 rfl h11 rfl rfl) (XS.iload XT.here hx rfl (hb hby d4_34) rfl (XS.bipush XT.here hx rfl (hb hby d4_36) (XS.icmpYes XT.here hx rfl (pc0 := 38) (pc' := 59) rfl (hb hby d4_38) rfl (feq (by rw [← Int32.toInt_inj]; omega : ¬ (cc = (46 : Int32)))).2 (by decide) (by decide) (XS.iload XT.here hx rfl (hb hby d4_59) rfl (XS.bipush XT.here hx rfl (hb hby d4_61) (XS.icmpNo XT.here hx rfl (hb hby d4_63) rfl (flt (by rw [Int32.lt_iff_toInt_lt]; omega : ¬ (cc < (48 : Int32)))).1 (XS.iload XT.here hx rfl (hb hby d4_66) rfl (XS.bipush XT.here hx rfl (hb hby d4_68) (XS.icmpYes XT.here hx rfl (pc0 := 70) (pc' := 82) rfl (hb hby d4_70) rfl (flt (by rw [Int32.lt_iff_toInt_lt]; omega : ¬ ((57 : Int32) < cc))).2.2.2 (by decide) (by decide) k)))))))))) ?_
     show own_Fin p e below (T1.setTop (mkF m 82 #[.val (.ref a), .val (.int o), .val (.int len), .val (.int (o + len)), .val (.long U), .second, .val (.int dg), .val (.int sc), .val (.int pt), .val (.int pd), .val (.int ii), .val (.int cc), s12] [])) _
     refine own_go (fun _ k => XS.iload XT.here hx rfl (hb hby d4_82) rfl (XS.ifYes XT.here hx rfl (pc0 := 84) (pc' := 93) rfl (hb hby d4_84) rfl ((if0 _ _).trans (flt (by rw [Int32.lt_iff_toInt_lt]; omega : ¬ (pt < (0 : Int32)))).2.1) (by decide) (by decide) (XS.iload XT.here hx rfl (hb hby d4_93) rfl (XS.bipush XT.here hx rfl (hb hby d4_95) (XS.icmpYes XT.here hx rfl (pc0 := 97) (pc' := 106) rfl (hb hby d4_97) rfl (feq (by rw [← Int32.toInt_inj]; omega : ¬ (cc = (48 : Int32)))).2 (by decide) (by decide) (XS.iload XT.here hx rfl (hb hby d4_106) rfl (XS.iconst XT.here hx rfl (hb hby d4_108) (XS.iadd XT.here hx rfl (hb hby d4_109) rfl (XS.istore XT.here hx rfl (hb hby d4_110) rfl (l' := #[.val (.ref a), .val (.int o), .val (.int len), .val (.int (o + len)), .val (.long U), .second, .val (.int dg), .val (.int sc), .val (.int pt), .val (.int pd), .val (.int ii), .val (.int cc), .val (.int (pd + (1 : Int32)))]) (own_st2 rfl h12 rfl rfl) (XS.iload XT.here hx rfl (hb hby d4_112) rfl k)))))))))) ?_
     show own_Fin p e below (T1.setTop (mkF m 114 #[.val (.ref a), .val (.int o), .val (.int len), .val (.int (o + len)), .val (.long U), .second, .val (.int dg), .val (.int sc), .val (.int pt), .val (.int pd), .val (.int ii), .val (.int cc), .val (.int (pd + (1 : Int32)))] [(.int (pd + (1 : Int32)))])) _
     refine own_go (fun _ k => XS.bipush XT.here hx rfl (hb hby d4_114) (XS.iload XT.here hx rfl (hb hby d4_116) rfl (XS.isub XT.here hx rfl (hb hby d4_118) rfl (XS.icmpYes XT.here hx rfl (pc0 := 119) (pc' := 131) rfl (hb hby d4_119) rfl (flt (by have q1 := c_isub 18 sc; have q2 := rng32 (18 - sc); rw [Int32.lt_iff_toInt_lt]; omega : ¬ (((18 : Int32) - sc) < (pd + (1 : Int32))))).2.2.2 (by decide) (by decide) (XS.iload XT.here hx rfl (hb hby d4_131) rfl (XS.iload XT.here hx rfl (hb hby d4_133) rfl (XS.iadd XT.here hx rfl (hb hby d4_135) rfl (XS.istore XT.here hx rfl (hb hby d4_136) rfl (l' := #[.val (.ref a), .val (.int o), .val (.int len), .val (.int (o + len)), .val (.long U), .second, .val (.int dg), .val (.int (sc + (pd + (1 : Int32)))), .val (.int pt), .val (.int pd), .val (.int ii), .val (.int cc), .val (.int (pd + (1 : Int32)))]) rfl (XS.iconst XT.here hx rfl (hb hby d4_138) (XS.istore XT.here hx rfl (hb hby d4_139) rfl (l' := #[.val (.ref a), .val (.int o), .val (.int len), .val (.int (o + len)), .val (.long U), .second, .val (.int dg), .val (.int (sc + (pd + (1 : Int32)))), .val (.int pt), .val (.int 0), .val (.int ii), .val (.int cc), .val (.int (pd + (1 : Int32)))]) rfl k)))))))))) ?_
     show own_Fin p e below (T1.setTop (mkF m 141 #[.val (.ref a), .val (.int o), .val (.int len), .val (.int (o + len)), .val (.long U), .second, .val (.int dg), .val (.int (sc + (pd + (1 : Int32)))), .val (.int pt), .val (.int 0), .val (.int ii), .val (.int cc), .val (.int (pd + (1 : Int32)))] [])) _
     refine own_go (fun _ k => XS.iload XT.here hx rfl (hb hby d4_141) rfl k) ?_
     show own_Fin p e below (T1.setTop (mkF m 143 #[.val (.ref a), .val (.int o), .val (.int len), .val (.int (o + len)), .val (.long U), .second, .val (.int dg), .val (.int (sc + (pd + (1 : Int32)))), .val (.int pt), .val (.int 0), .val (.int ii), .val (.int cc), .val (.int (pd + (1 : Int32)))] [(.int dg)])) _
     by_cases hc143_88 : (0 : Int32) < dg
     ·refine own_go (fun _ k => XS.ifNo XT.here hx rfl (hb hby d4_143) rfl ((if0 _ _).trans (tlt hc143_88).2.2.2) (XS.iload XT.here hx rfl (hb hby d4_146) rfl (XS.iload XT.here hx rfl (hb hby d4_148) rfl (XS.iadd XT.here hx rfl (hb hby d4_150) rfl (XS.goto XT.here hx rfl (pc0 := 151) (pc' := 166) rfl (hb hby d4_151) (by decide) (by decide) (XS.istore XT.here hx rfl (hb hby d4_166) rfl (l' := #[.val (.ref a), .val (.int o), .val (.int len), .val (.int (o + len)), .val (.long U), .second, .val (.int (dg + (pd + (1 : Int32)))), .val (.int (sc + (pd + (1 : Int32)))), .val (.int pt), .val (.int 0), .val (.int ii), .val (.int cc), .val (.int (pd + (1 : Int32)))]) rfl (XS.iload XT.here hx rfl (hb hby d4_168) rfl (XS.bipush XT.here hx rfl (hb hby d4_170) (XS.icmpYes XT.here hx rfl (pc0 := 172) (pc' := 184) rfl (hb hby d4_172) rfl (flt (by have q1 := c_iadd dg (pd + (1 : Int32)); have q2 := rng32 (dg + (pd + (1 : Int32))); rw [Int32.lt_iff_toInt_lt]; simp only [Int32.lt_iff_toInt_lt, ← Int32.toInt_inj] at *; split at hdb <;> omega : ¬ ((18 : Int32) < (dg + (pd + (1 : Int32)))))).2.2.2 (by decide) (by decide) (XS.lload XT.here hx rfl (hb hby d4_184) rfl k)))))))))) ?_
      show own_Fin p e below (T1.setTop (mkF m 186 #[.val (.ref a), .val (.int o), .val (.int len), .val (.int (o + len)), .val (.long U), .second, .val (.int (dg + (pd + (1 : Int32)))), .val (.int (sc + (pd + (1 : Int32)))), .val (.int pt), .val (.int 0), .val (.int ii), .val (.int cc), .val (.int (pd + (1 : Int32)))] [(.long U)])) _
      obtain ⟨T89, X89, e89, st89⟩ := getS2 XT hx hZ hown (host := "") (Or.inl (ow hw 36)) Via.refl eT (S_Decimal_POWERS.ext O.2) (g := (mkF m 186 #[.val (.ref a), .val (.int o), .val (.int len), .val (.int (o + len)), .val (.long U), .second, .val (.int (dg + (pd + (1 : Int32)))), .val (.int (sc + (pd + (1 : Int32)))), .val (.int pt), .val (.int 0), .val (.int ii), .val (.int cc), .val (.int (pd + (1 : Int32)))] [(.long U)])) rfl (hb hby d4_186)
      refine own_go (fun _ k => st89 _ k) ?_
      show own_Fin p e below (T89.setTop (mkF m 189 #[.val (.ref a), .val (.int o), .val (.int len), .val (.int (o + len)), .val (.long U), .second, .val (.int (dg + (pd + (1 : Int32)))), .val (.int (sc + (pd + (1 : Int32)))), .val (.int pt), .val (.int 0), .val (.int ii), .val (.int cc), .val (.int (pd + (1 : Int32)))] [(.ref pw), (.long U)])) _
      refine own_go (fun _ k => XS.iload X89.here hx rfl (hb hby d4_189) rfl k) ?_
      show own_Fin p e below (T89.setTop (mkF m 191 #[.val (.ref a), .val (.int o), .val (.int len), .val (.int (o + len)), .val (.long U), .second, .val (.int (dg + (pd + (1 : Int32)))), .val (.int (sc + (pd + (1 : Int32)))), .val (.int pt), .val (.int 0), .val (.int ii), .val (.int cc), .val (.int (pd + (1 : Int32)))] [(.int (pd + (1 : Int32))), (.ref pw), (.long U)])) _
      obtain ⟨cl90, A90, q90, S90, M90, H90, G90⟩ := id (V_pw.ext O.2)
      have hin90 : ¬ ((pd + (1 : Int32)) < 0 ∨ cl90.slots.size ≤ ((pd + (1 : Int32))).toNatClampNeg) := inb_of S90 (own_inb19 (k := e_ + 1) (by omega) (by omega))
      have hat90 : cl90.slots[((pd + (1 : Int32))).toNatClampNeg]? = some (.long (own_q (pd + (1 : Int32)))) := Has.at H90 hin90 (own_qget _)
      refine own_go (fun _ k => X89.laload hx (j := (pd + (1 : Int32))) (v := (.long (own_q (pd + (1 : Int32))))) (own_eqE e89 A90.1) (State.isArrayOf_alike hZ.alike A90.2.1) A90.2.2 hin90 hat90 (g := (mkF m 191 #[.val (.ref a), .val (.int o), .val (.int len), .val (.int (o + len)), .val (.long U), .second, .val (.int (dg + (pd + (1 : Int32)))), .val (.int (sc + (pd + (1 : Int32)))), .val (.int pt), .val (.int 0), .val (.int ii), .val (.int cc), .val (.int (pd + (1 : Int32)))] [(.int (pd + (1 : Int32))), (.ref pw), (.long U)])) rfl rfl (hb hby d4_191) _ k) ?_
      show own_Fin p e below (T89.setTop (mkF m 192 #[.val (.ref a), .val (.int o), .val (.int len), .val (.int (o + len)), .val (.long U), .second, .val (.int (dg + (pd + (1 : Int32)))), .val (.int (sc + (pd + (1 : Int32)))), .val (.int pt), .val (.int 0), .val (.int ii), .val (.int cc), .val (.int (pd + (1 : Int32)))] [(.long (own_q (pd + (1 : Int32)))), (.long U)])) _
      refine own_go (fun _ k => XS.lmul X89.here hx rfl (hb hby d4_192) rfl (XS.iload X89.here hx rfl (hb hby d4_193) rfl (XS.bipush X89.here hx rfl (hb hby d4_195) (XS.isub X89.here hx rfl (hb hby d4_197) rfl (XS.i2l X89.here hx rfl (hb hby d4_198) rfl (XS.ladd X89.here hx rfl (hb hby d4_199) rfl (XS.lstore X89.here hx rfl (hb hby d4_200) rfl (l' := #[.val (.ref a), .val (.int o), .val (.int len), .val (.int (o + len)), .val (.long ((U * (own_q (pd + (1 : Int32)))) + ((cc - (48 : Int32)).toInt64))), .second, .val (.int (dg + (pd + (1 : Int32)))), .val (.int (sc + (pd + (1 : Int32)))), .val (.int pt), .val (.int 0), .val (.int ii), .val (.int cc), .val (.int (pd + (1 : Int32)))]) rfl k))))))) ?_
      show own_Fin p e below (T89.setTop (mkF m 202 #[.val (.ref a), .val (.int o), .val (.int len), .val (.int (o + len)), .val (.long ((U * (own_q (pd + (1 : Int32)))) + ((cc - (48 : Int32)).toInt64))), .second, .val (.int (dg + (pd + (1 : Int32)))), .val (.int (sc + (pd + (1 : Int32)))), .val (.int pt), .val (.int 0), .val (.int ii), .val (.int cc), .val (.int (pd + (1 : Int32)))] [])) _
      have hnd : ((dg + (pd + (1 : Int32)))).toInt = ((if 0 < d then d + (e_ + 1) else 1) : Nat) := by
       have q1 := c_iadd dg (pd + (1 : Int32))
       have q2 := rng32 (dg + (pd + (1 : Int32)))
       simp only [Int32.lt_iff_toInt_lt, ← Int32.toInt_inj] at *
       split <;> (try split) <;> omega
      have hnu : (((U * (own_q (pd + (1 : Int32)))) + ((cc - (48 : Int32)).toInt64))).toInt = (u * 10 ^ (e_ + 1) + dd : Nat) := by
       have q0 := own_qv (e := pd + (1 : Int32)) (k := e_ + 1) (by omega) (by omega)
       have q1 := c_lmul U (own_q (pd + (1 : Int32)))
       have q2 := rng64 (U * (own_q (pd + (1 : Int32))))
       have q3 := c_ladd (U * (own_q (pd + (1 : Int32)))) (cc - (48 : Int32)).toInt64
       have q4 := rng64 ((U * (own_q (pd + (1 : Int32)))) + (cc - (48 : Int32)).toInt64)
       rw [q0, hu] at q1
       rw [← Int.natCast_mul] at q1
       generalize hW : u * 10 ^ (e_ + 1) = W at *
       omega
      have hns : (sc + (pd + (1 : Int32))).toInt = (s_ + (e_ + 1) : Nat) := by
       have q1 := c_iadd sc (pd + (1 : Int32))
       have q2 := rng32 (sc + (pd + (1 : Int32)))
       omega
      show own_Fin p e below (T89.setTop (mkF m 202 #[.val (.ref a), .val (.int o), .val (.int len), .val (.int (o + len)), .val (.long ((U * (own_q (pd + (1 : Int32)))) + ((cc - (48 : Int32)).toInt64))), .second, .val (.int (dg + (pd + (1 : Int32)))), .val (.int (sc + (pd + (1 : Int32)))), .val (.int pt), .val (.int 0), .val (.int ii), .val (.int cc), .val (.int (pd + (1 : Int32)))] [])) _
      refine own_go (fun _ k => XS.iinc X89.here hx rfl (hb hby d4_202) rfl (l' := #[.val (.ref a), .val (.int o), .val (.int len), .val (.int (o + len)), .val (.long ((U * (own_q (pd + (1 : Int32)))) + ((cc - (48 : Int32)).toInt64))), .second, .val (.int (dg + (pd + (1 : Int32)))), .val (.int (sc + (pd + (1 : Int32)))), .val (.int pt), .val (.int 0), .val (.int (ii + (1 : Int32))), .val (.int cc), .val (.int (pd + (1 : Int32)))]) rfl (XS.goto X89.here hx rfl (pc0 := 205) (pc' := 22) rfl (hb hby d4_205) (by decide) (by decide) k)) ?_
      show own_Fin p e below (T89.setTop (mkF m 22 #[.val (.ref a), .val (.int o), .val (.int len), .val (.int (o + len)), .val (.long ((U * (own_q (pd + (1 : Int32)))) + ((cc - (48 : Int32)).toInt64))), .second, .val (.int (dg + (pd + (1 : Int32)))), .val (.int (sc + (pd + (1 : Int32)))), .val (.int pt), .val (.int 0), .val (.int (ii + (1 : Int32))), .val (.int cc), .val (.int (pd + (1 : Int32)))] [])) _
      exact ih (j + 1) ((U * (own_q (pd + (1 : Int32)))) + ((cc - (48 : Int32)).toInt64)) (dg + (pd + (1 : Int32))) (sc + (pd + (1 : Int32))) pt (0 : Int32) (ii + (1 : Int32)) _ _ T89 X89 e89 (One.val rfl) (One.val rfl) (by omega) (by omega) ⟨_, _, _, 0, hnu, hnd, hns, e0_, hub, hdb, by omega, by omega, hI', fun h => by omega, fun h => hpt⟩
     ·refine own_go (fun _ k => XS.ifYes XT.here hx rfl (pc0 := 143) (pc' := 154) rfl (hb hby d4_143) rfl ((if0 _ _).trans (flt hc143_88).2.2.2) (by decide) (by decide) (XS.iload XT.here hx rfl (hb hby d4_154) rfl (XS.bipush XT.here hx rfl (hb hby d4_156) k))) ?_
      show own_Fin p e below (T1.setTop (mkF m 158 #[.val (.ref a), .val (.int o), .val (.int len), .val (.int (o + len)), .val (.long U), .second, .val (.int dg), .val (.int (sc + (pd + (1 : Int32)))), .val (.int pt), .val (.int 0), .val (.int ii), .val (.int cc), .val (.int (pd + (1 : Int32)))] [(.int 48), (.int cc)])) _
      by_cases hc158_91 : cc = (48 : Int32)
      ·refine own_go (fun _ k => XS.icmpNo XT.here hx rfl (hb hby d4_158) rfl (teq hc158_91).2 (XS.iconst XT.here hx rfl (hb hby d4_161) (XS.goto XT.here hx rfl (pc0 := 162) (pc' := 166) rfl (hb hby d4_162) (by decide) (by decide) (XS.istore XT.here hx rfl (hb hby d4_166) rfl (l' := #[.val (.ref a), .val (.int o), .val (.int len), .val (.int (o + len)), .val (.long U), .second, .val (.int 0), .val (.int (sc + (pd + (1 : Int32)))), .val (.int pt), .val (.int 0), .val (.int ii), .val (.int cc), .val (.int (pd + (1 : Int32)))]) rfl (XS.iload XT.here hx rfl (hb hby d4_168) rfl (XS.bipush XT.here hx rfl (hb hby d4_170) (XS.icmpYes XT.here hx rfl (pc0 := 172) (pc' := 184) rfl (hb hby d4_172) rfl (flt (by decide : ¬ ((18 : Int32) < (0 : Int32)))).2.2.2 (by decide) (by decide) (XS.lload XT.here hx rfl (hb hby d4_184) rfl k)))))))) ?_
       show own_Fin p e below (T1.setTop (mkF m 186 #[.val (.ref a), .val (.int o), .val (.int len), .val (.int (o + len)), .val (.long U), .second, .val (.int 0), .val (.int (sc + (pd + (1 : Int32)))), .val (.int pt), .val (.int 0), .val (.int ii), .val (.int cc), .val (.int (pd + (1 : Int32)))] [(.long U)])) _
       obtain ⟨T92, X92, e92, st92⟩ := getS2 XT hx hZ hown (host := "") (Or.inl (ow hw 36)) Via.refl eT (S_Decimal_POWERS.ext O.2) (g := (mkF m 186 #[.val (.ref a), .val (.int o), .val (.int len), .val (.int (o + len)), .val (.long U), .second, .val (.int 0), .val (.int (sc + (pd + (1 : Int32)))), .val (.int pt), .val (.int 0), .val (.int ii), .val (.int cc), .val (.int (pd + (1 : Int32)))] [(.long U)])) rfl (hb hby d4_186)
       refine own_go (fun _ k => st92 _ k) ?_
       show own_Fin p e below (T92.setTop (mkF m 189 #[.val (.ref a), .val (.int o), .val (.int len), .val (.int (o + len)), .val (.long U), .second, .val (.int 0), .val (.int (sc + (pd + (1 : Int32)))), .val (.int pt), .val (.int 0), .val (.int ii), .val (.int cc), .val (.int (pd + (1 : Int32)))] [(.ref pw), (.long U)])) _
       refine own_go (fun _ k => XS.iload X92.here hx rfl (hb hby d4_189) rfl k) ?_
       show own_Fin p e below (T92.setTop (mkF m 191 #[.val (.ref a), .val (.int o), .val (.int len), .val (.int (o + len)), .val (.long U), .second, .val (.int 0), .val (.int (sc + (pd + (1 : Int32)))), .val (.int pt), .val (.int 0), .val (.int ii), .val (.int cc), .val (.int (pd + (1 : Int32)))] [(.int (pd + (1 : Int32))), (.ref pw), (.long U)])) _
       obtain ⟨cl93, A93, q93, S93, M93, H93, G93⟩ := id (V_pw.ext O.2)
       have hin93 : ¬ ((pd + (1 : Int32)) < 0 ∨ cl93.slots.size ≤ ((pd + (1 : Int32))).toNatClampNeg) := inb_of S93 (own_inb19 (k := e_ + 1) (by omega) (by omega))
       have hat93 : cl93.slots[((pd + (1 : Int32))).toNatClampNeg]? = some (.long (own_q (pd + (1 : Int32)))) := Has.at H93 hin93 (own_qget _)
       refine own_go (fun _ k => X92.laload hx (j := (pd + (1 : Int32))) (v := (.long (own_q (pd + (1 : Int32))))) (own_eqE e92 A93.1) (State.isArrayOf_alike hZ.alike A93.2.1) A93.2.2 hin93 hat93 (g := (mkF m 191 #[.val (.ref a), .val (.int o), .val (.int len), .val (.int (o + len)), .val (.long U), .second, .val (.int 0), .val (.int (sc + (pd + (1 : Int32)))), .val (.int pt), .val (.int 0), .val (.int ii), .val (.int cc), .val (.int (pd + (1 : Int32)))] [(.int (pd + (1 : Int32))), (.ref pw), (.long U)])) rfl rfl (hb hby d4_191) _ k) ?_
       show own_Fin p e below (T92.setTop (mkF m 192 #[.val (.ref a), .val (.int o), .val (.int len), .val (.int (o + len)), .val (.long U), .second, .val (.int 0), .val (.int (sc + (pd + (1 : Int32)))), .val (.int pt), .val (.int 0), .val (.int ii), .val (.int cc), .val (.int (pd + (1 : Int32)))] [(.long (own_q (pd + (1 : Int32)))), (.long U)])) _
       refine own_go (fun _ k => XS.lmul X92.here hx rfl (hb hby d4_192) rfl (XS.iload X92.here hx rfl (hb hby d4_193) rfl (XS.bipush X92.here hx rfl (hb hby d4_195) (XS.isub X92.here hx rfl (hb hby d4_197) rfl (XS.i2l X92.here hx rfl (hb hby d4_198) rfl (XS.ladd X92.here hx rfl (hb hby d4_199) rfl (XS.lstore X92.here hx rfl (hb hby d4_200) rfl (l' := #[.val (.ref a), .val (.int o), .val (.int len), .val (.int (o + len)), .val (.long ((U * (own_q (pd + (1 : Int32)))) + ((cc - (48 : Int32)).toInt64))), .second, .val (.int 0), .val (.int (sc + (pd + (1 : Int32)))), .val (.int pt), .val (.int 0), .val (.int ii), .val (.int cc), .val (.int (pd + (1 : Int32)))]) rfl k))))))) ?_
       show own_Fin p e below (T92.setTop (mkF m 202 #[.val (.ref a), .val (.int o), .val (.int len), .val (.int (o + len)), .val (.long ((U * (own_q (pd + (1 : Int32)))) + ((cc - (48 : Int32)).toInt64))), .second, .val (.int 0), .val (.int (sc + (pd + (1 : Int32)))), .val (.int pt), .val (.int 0), .val (.int ii), .val (.int cc), .val (.int (pd + (1 : Int32)))] [])) _
       have hnd : ((0 : Int32)).toInt = ((if 0 < d then d + (e_ + 1) else 1) : Nat) := by
        have q1 := c_iadd dg (pd + (1 : Int32))
        have q2 := rng32 (dg + (pd + (1 : Int32)))
        simp only [Int32.lt_iff_toInt_lt, ← Int32.toInt_inj] at *
        split <;> (try split) <;> omega
       have hnu : (((U * (own_q (pd + (1 : Int32)))) + ((cc - (48 : Int32)).toInt64))).toInt = (u * 10 ^ (e_ + 1) + dd : Nat) := by
        have q0 := own_qv (e := pd + (1 : Int32)) (k := e_ + 1) (by omega) (by omega)
        have q1 := c_lmul U (own_q (pd + (1 : Int32)))
        have q2 := rng64 (U * (own_q (pd + (1 : Int32))))
        have q3 := c_ladd (U * (own_q (pd + (1 : Int32)))) (cc - (48 : Int32)).toInt64
        have q4 := rng64 ((U * (own_q (pd + (1 : Int32)))) + (cc - (48 : Int32)).toInt64)
        rw [q0, hu] at q1
        rw [← Int.natCast_mul] at q1
        generalize hW : u * 10 ^ (e_ + 1) = W at *
        omega
       have hns : (sc + (pd + (1 : Int32))).toInt = (s_ + (e_ + 1) : Nat) := by
        have q1 := c_iadd sc (pd + (1 : Int32))
        have q2 := rng32 (sc + (pd + (1 : Int32)))
        omega
       show own_Fin p e below (T92.setTop (mkF m 202 #[.val (.ref a), .val (.int o), .val (.int len), .val (.int (o + len)), .val (.long ((U * (own_q (pd + (1 : Int32)))) + ((cc - (48 : Int32)).toInt64))), .second, .val (.int 0), .val (.int (sc + (pd + (1 : Int32)))), .val (.int pt), .val (.int 0), .val (.int ii), .val (.int cc), .val (.int (pd + (1 : Int32)))] [])) _
       refine own_go (fun _ k => XS.iinc X92.here hx rfl (hb hby d4_202) rfl (l' := #[.val (.ref a), .val (.int o), .val (.int len), .val (.int (o + len)), .val (.long ((U * (own_q (pd + (1 : Int32)))) + ((cc - (48 : Int32)).toInt64))), .second, .val (.int 0), .val (.int (sc + (pd + (1 : Int32)))), .val (.int pt), .val (.int 0), .val (.int (ii + (1 : Int32))), .val (.int cc), .val (.int (pd + (1 : Int32)))]) rfl (XS.goto X92.here hx rfl (pc0 := 205) (pc' := 22) rfl (hb hby d4_205) (by decide) (by decide) k)) ?_
       show own_Fin p e below (T92.setTop (mkF m 22 #[.val (.ref a), .val (.int o), .val (.int len), .val (.int (o + len)), .val (.long ((U * (own_q (pd + (1 : Int32)))) + ((cc - (48 : Int32)).toInt64))), .second, .val (.int 0), .val (.int (sc + (pd + (1 : Int32)))), .val (.int pt), .val (.int 0), .val (.int (ii + (1 : Int32))), .val (.int cc), .val (.int (pd + (1 : Int32)))] [])) _
       exact ih (j + 1) ((U * (own_q (pd + (1 : Int32)))) + ((cc - (48 : Int32)).toInt64)) (0 : Int32) (sc + (pd + (1 : Int32))) pt (0 : Int32) (ii + (1 : Int32)) _ _ T92 X92 e92 (One.val rfl) (One.val rfl) (by omega) (by omega) ⟨_, _, _, 0, hnu, hnd, hns, e0_, hub, hdb, by omega, by omega, hI', fun h => by omega, fun h => hpt⟩
      ·refine own_go (fun _ k => XS.icmpYes XT.here hx rfl (pc0 := 158) (pc' := 165) rfl (hb hby d4_158) rfl (feq hc158_91).2 (by decide) (by decide) (XS.iconst XT.here hx rfl (hb hby d4_165) (XS.istore XT.here hx rfl (hb hby d4_166) rfl (l' := #[.val (.ref a), .val (.int o), .val (.int len), .val (.int (o + len)), .val (.long U), .second, .val (.int 1), .val (.int (sc + (pd + (1 : Int32)))), .val (.int pt), .val (.int 0), .val (.int ii), .val (.int cc), .val (.int (pd + (1 : Int32)))]) rfl (XS.iload XT.here hx rfl (hb hby d4_168) rfl (XS.bipush XT.here hx rfl (hb hby d4_170) (XS.icmpYes XT.here hx rfl (pc0 := 172) (pc' := 184) rfl (hb hby d4_172) rfl (flt (by decide : ¬ ((18 : Int32) < (1 : Int32)))).2.2.2 (by decide) (by decide) (XS.lload XT.here hx rfl (hb hby d4_184) rfl k))))))) ?_
       show own_Fin p e below (T1.setTop (mkF m 186 #[.val (.ref a), .val (.int o), .val (.int len), .val (.int (o + len)), .val (.long U), .second, .val (.int 1), .val (.int (sc + (pd + (1 : Int32)))), .val (.int pt), .val (.int 0), .val (.int ii), .val (.int cc), .val (.int (pd + (1 : Int32)))] [(.long U)])) _
       obtain ⟨T94, X94, e94, st94⟩ := getS2 XT hx hZ hown (host := "") (Or.inl (ow hw 36)) Via.refl eT (S_Decimal_POWERS.ext O.2) (g := (mkF m 186 #[.val (.ref a), .val (.int o), .val (.int len), .val (.int (o + len)), .val (.long U), .second, .val (.int 1), .val (.int (sc + (pd + (1 : Int32)))), .val (.int pt), .val (.int 0), .val (.int ii), .val (.int cc), .val (.int (pd + (1 : Int32)))] [(.long U)])) rfl (hb hby d4_186)
       refine own_go (fun _ k => st94 _ k) ?_
       show own_Fin p e below (T94.setTop (mkF m 189 #[.val (.ref a), .val (.int o), .val (.int len), .val (.int (o + len)), .val (.long U), .second, .val (.int 1), .val (.int (sc + (pd + (1 : Int32)))), .val (.int pt), .val (.int 0), .val (.int ii), .val (.int cc), .val (.int (pd + (1 : Int32)))] [(.ref pw), (.long U)])) _
       refine own_go (fun _ k => XS.iload X94.here hx rfl (hb hby d4_189) rfl k) ?_
       show own_Fin p e below (T94.setTop (mkF m 191 #[.val (.ref a), .val (.int o), .val (.int len), .val (.int (o + len)), .val (.long U), .second, .val (.int 1), .val (.int (sc + (pd + (1 : Int32)))), .val (.int pt), .val (.int 0), .val (.int ii), .val (.int cc), .val (.int (pd + (1 : Int32)))] [(.int (pd + (1 : Int32))), (.ref pw), (.long U)])) _
       obtain ⟨cl95, A95, q95, S95, M95, H95, G95⟩ := id (V_pw.ext O.2)
       have hin95 : ¬ ((pd + (1 : Int32)) < 0 ∨ cl95.slots.size ≤ ((pd + (1 : Int32))).toNatClampNeg) := inb_of S95 (own_inb19 (k := e_ + 1) (by omega) (by omega))
       have hat95 : cl95.slots[((pd + (1 : Int32))).toNatClampNeg]? = some (.long (own_q (pd + (1 : Int32)))) := Has.at H95 hin95 (own_qget _)
       refine own_go (fun _ k => X94.laload hx (j := (pd + (1 : Int32))) (v := (.long (own_q (pd + (1 : Int32))))) (own_eqE e94 A95.1) (State.isArrayOf_alike hZ.alike A95.2.1) A95.2.2 hin95 hat95 (g := (mkF m 191 #[.val (.ref a), .val (.int o), .val (.int len), .val (.int (o + len)), .val (.long U), .second, .val (.int 1), .val (.int (sc + (pd + (1 : Int32)))), .val (.int pt), .val (.int 0), .val (.int ii), .val (.int cc), .val (.int (pd + (1 : Int32)))] [(.int (pd + (1 : Int32))), (.ref pw), (.long U)])) rfl rfl (hb hby d4_191) _ k) ?_
       show own_Fin p e below (T94.setTop (mkF m 192 #[.val (.ref a), .val (.int o), .val (.int len), .val (.int (o + len)), .val (.long U), .second, .val (.int 1), .val (.int (sc + (pd + (1 : Int32)))), .val (.int pt), .val (.int 0), .val (.int ii), .val (.int cc), .val (.int (pd + (1 : Int32)))] [(.long (own_q (pd + (1 : Int32)))), (.long U)])) _
       refine own_go (fun _ k => XS.lmul X94.here hx rfl (hb hby d4_192) rfl (XS.iload X94.here hx rfl (hb hby d4_193) rfl (XS.bipush X94.here hx rfl (hb hby d4_195) (XS.isub X94.here hx rfl (hb hby d4_197) rfl (XS.i2l X94.here hx rfl (hb hby d4_198) rfl (XS.ladd X94.here hx rfl (hb hby d4_199) rfl (XS.lstore X94.here hx rfl (hb hby d4_200) rfl (l' := #[.val (.ref a), .val (.int o), .val (.int len), .val (.int (o + len)), .val (.long ((U * (own_q (pd + (1 : Int32)))) + ((cc - (48 : Int32)).toInt64))), .second, .val (.int 1), .val (.int (sc + (pd + (1 : Int32)))), .val (.int pt), .val (.int 0), .val (.int ii), .val (.int cc), .val (.int (pd + (1 : Int32)))]) rfl k))))))) ?_
       show own_Fin p e below (T94.setTop (mkF m 202 #[.val (.ref a), .val (.int o), .val (.int len), .val (.int (o + len)), .val (.long ((U * (own_q (pd + (1 : Int32)))) + ((cc - (48 : Int32)).toInt64))), .second, .val (.int 1), .val (.int (sc + (pd + (1 : Int32)))), .val (.int pt), .val (.int 0), .val (.int ii), .val (.int cc), .val (.int (pd + (1 : Int32)))] [])) _
       have hnd : ((1 : Int32)).toInt = ((if 0 < d then d + (e_ + 1) else 1) : Nat) := by
        have q1 := c_iadd dg (pd + (1 : Int32))
        have q2 := rng32 (dg + (pd + (1 : Int32)))
        simp only [Int32.lt_iff_toInt_lt, ← Int32.toInt_inj] at *
        split <;> (try split) <;> omega
       have hnu : (((U * (own_q (pd + (1 : Int32)))) + ((cc - (48 : Int32)).toInt64))).toInt = (u * 10 ^ (e_ + 1) + dd : Nat) := by
        have q0 := own_qv (e := pd + (1 : Int32)) (k := e_ + 1) (by omega) (by omega)
        have q1 := c_lmul U (own_q (pd + (1 : Int32)))
        have q2 := rng64 (U * (own_q (pd + (1 : Int32))))
        have q3 := c_ladd (U * (own_q (pd + (1 : Int32)))) (cc - (48 : Int32)).toInt64
        have q4 := rng64 ((U * (own_q (pd + (1 : Int32)))) + (cc - (48 : Int32)).toInt64)
        rw [q0, hu] at q1
        rw [← Int.natCast_mul] at q1
        generalize hW : u * 10 ^ (e_ + 1) = W at *
        omega
       have hns : (sc + (pd + (1 : Int32))).toInt = (s_ + (e_ + 1) : Nat) := by
        have q1 := c_iadd sc (pd + (1 : Int32))
        have q2 := rng32 (sc + (pd + (1 : Int32)))
        omega
       show own_Fin p e below (T94.setTop (mkF m 202 #[.val (.ref a), .val (.int o), .val (.int len), .val (.int (o + len)), .val (.long ((U * (own_q (pd + (1 : Int32)))) + ((cc - (48 : Int32)).toInt64))), .second, .val (.int 1), .val (.int (sc + (pd + (1 : Int32)))), .val (.int pt), .val (.int 0), .val (.int ii), .val (.int cc), .val (.int (pd + (1 : Int32)))] [])) _
       refine own_go (fun _ k => XS.iinc X94.here hx rfl (hb hby d4_202) rfl (l' := #[.val (.ref a), .val (.int o), .val (.int len), .val (.int (o + len)), .val (.long ((U * (own_q (pd + (1 : Int32)))) + ((cc - (48 : Int32)).toInt64))), .second, .val (.int 1), .val (.int (sc + (pd + (1 : Int32)))), .val (.int pt), .val (.int 0), .val (.int (ii + (1 : Int32))), .val (.int cc), .val (.int (pd + (1 : Int32)))]) rfl (XS.goto X94.here hx rfl (pc0 := 205) (pc' := 22) rfl (hb hby d4_205) (by decide) (by decide) k)) ?_
       show own_Fin p e below (T94.setTop (mkF m 22 #[.val (.ref a), .val (.int o), .val (.int len), .val (.int (o + len)), .val (.long ((U * (own_q (pd + (1 : Int32)))) + ((cc - (48 : Int32)).toInt64))), .second, .val (.int 1), .val (.int (sc + (pd + (1 : Int32)))), .val (.int pt), .val (.int 0), .val (.int (ii + (1 : Int32))), .val (.int cc), .val (.int (pd + (1 : Int32)))] [])) _
       exact ih (j + 1) ((U * (own_q (pd + (1 : Int32)))) + ((cc - (48 : Int32)).toInt64)) (1 : Int32) (sc + (pd + (1 : Int32))) pt (0 : Int32) (ii + (1 : Int32)) _ _ T94 X94 e94 (One.val rfl) (One.val rfl) (by omega) (by omega) ⟨_, _, _, 0, hnu, hnd, hns, e0_, hub, hdb, by omega, by omega, hI', fun h => by omega, fun h => hpt⟩
  exact loop L 0 _ _ _ _ _ _ _ _ _ X0 e0 One.u One.u (by omega) (by omega) ⟨0, 0, 0, 0, l0_, e0_, e0_, e0_, by decide, by decide, by decide, by decide, Or.inl ⟨by omega, by omega, rfl, rfl, by rw [show 0 - zz = 0 from by omega]; exact (Nat.div_eq_of_lt hN18).symm, by omega⟩, fun _ => em1_, fun h => by omega⟩
theorem d8_0 : decode jdk_35_method_36_code 0 = .ok (.lload_n 0, 1) := by decide +kernel
theorem d8_1 : decode jdk_35_method_36_code 1 = .ok (.lload_n 0, 1) := by decide +kernel
theorem d8_2 : decode jdk_35_method_36_code 2 = .ok (.bipush 32, 2) := by decide +kernel
theorem d8_4 : decode jdk_35_method_36_code 4 = .ok (.lushr, 1) := by decide +kernel
theorem d8_5 : decode jdk_35_method_36_code 5 = .ok (.lxor, 1) := by decide +kernel
theorem d8_6 : decode jdk_35_method_36_code 6 = .ok (.l2i, 1) := by decide +kernel
theorem d8_7 : decode jdk_35_method_36_code 7 = .ok (.ireturn, 1) := by decide +kernel
theorem pn_2 : plainName "java/lang/Long" = true := by first | (simp [plainName, overriddenIn]; done) | decide +kernel
theorem ef_rm8 (m : MethodId) (x0 : Int64) : entryFrame m #[(.long x0)] 2 = mkF m 0 #[.val (.long x0), .second] [] := by first | (simp [entryFrame, mkF, argsToLocals, Value.category]; done) | rfl
def Qrm8 (Z : State) (q : Int64) (h0 : Heap) (n0 : Nat) (v : Option Value) (h : Heap) (L : List Loc) : Prop := v = some (.int ((q ^^^ ((q.toUInt64 >>> ((32 : Int32) &&& 0x3f).toInt64.toUInt64).toInt64)).toInt32)) ∧ Fr n0 L ∧ h = h0
set_option maxRecDepth 65536 in
set_option maxHeartbeats 40000000 in
theorem rm8 (l : Launch) (Z : State) (a0 : Array Value) (hw : ∀ d ∈ tables_1, d.before a0 Z = true) (ws : List Jvm.Cond) (q : Int64) (h0 : Heap) (n0 : Nat) :
    MetFree l (⟨"java/lang/Long", "hashCode", "(J)I"⟩ : MethodName) (head1 (Jvm.Cond.code (⟨"java/lang/Long", "hashCode", "(J)I"⟩ : MethodName) jdk_35_method_36_code 2 (some .int) :: ws) ({ frames := 0, cells := 0, slots := 0, locals := 0 } : Room)) (fun a' U' => a' = #[(.long q)] ∧ Z.Warmed39 U'.vm ∧ U'.heap = h0) (fun _ _ _ _ _ => True) (fun _ U' o' W' => ∃ v' L', o' = .returned v' ∧ Qrm8 Z q h0 n0 v' W'.heap L' ∧ FrameEnd U' o' W' L' ({ frames := 0, cells := 0, slots := 0, locals := 0 } : Room).cells ({ frames := 0, cells := 0, slots := 0, locals := 0 } : Room).slots) := by
  refine MetFree.of_bodySF (plainFor_of_name pn_2) hisR ?_
  intro p e s m args below meth c s₁ Bd hml0 hP hK
  obtain ⟨rfl, hZ, hh⟩ := hP
  have hx := Bd.exec
  have hby := Bd.bytes
  have hml : c.maxLocals = 2 := hml0
  have hown : s.vm.findClass "java/lang/Long" = some m.cls := findClass_of_methodNamed Bd.named
  have hnm := (name_of_methodNamed Bd.named Bd.method).1
  have X0 : Stand p l e ({ frames := 0, cells := 0, slots := 0, locals := 0 } : Room) s m #[(.long q)] below meth c s₁ [] 0 0 := Stand.of_body Bd
  have e0 : s₁.heap = h0 := by rw [← hh, Bd.state]; rfl
  have N0 := Fr.nil n0
  refine own_start (ef_rm8 m q) (Q := fun o' t' => ∃ v' L', o' = .returned v' ∧ Qrm8 Z q h0 n0 v' t'.heap L' ∧ FrameEnd s o' t' L' ({ frames := 0, cells := 0, slots := 0, locals := 0 } : Room).cells ({ frames := 0, cells := 0, slots := 0, locals := 0 } : Room).slots) ?_
  show own_Fin p e below (s₁.setTop (mkF m 0 #[.val (.long q), .second] [])) _
  refine own_go (fun _ k => XS.lloadN X0.here hx rfl (hb hby d8_0) rfl (XS.lloadN X0.here hx rfl (hb hby d8_1) rfl (XS.bipush X0.here hx rfl (hb hby d8_2) (XS.lushr X0.here hx rfl (hb hby d8_4) rfl (XS.lxor X0.here hx rfl (hb hby d8_5) rfl (XS.l2i X0.here hx rfl (hb hby d8_6) rfl k)))))) ?_
  show own_Fin p e below (s₁.setTop (mkF m 7 #[.val (.long q), .second] [(.int ((q ^^^ ((q.toUInt64 >>> ((32 : Int32) &&& 0x3f).toInt64.toUInt64).toInt64)).toInt32))])) _
  obtain ⟨fs, hr, hrun, hended, hW, hsame⟩ := X0.leave (v := some (.int ((q ^^^ ((q.toUInt64 >>> ((32 : Int32) &&& 0x3f).toInt64.toUInt64).toInt64)).toInt32))) (fun h => by rw [Bd.returns] at h; cases h)
  refine ⟨_, _, ?_, hrun, hended, _, _, rfl, ?_, ⟨_, rfl⟩, hW, hsame.mono (by decide) (by decide)⟩
  ·exact own_retI X0 hx Bd.returns (hb hby d8_7) hr
  ·show Qrm8 Z q h0 n0 _ s₁.heap _
   rw [e0]
   exact ⟨rfl, N0, rfl⟩
theorem d7_0 : decode prog_8_method_10_code 0 = .ok (.bipush 31, 2) := by decide +kernel
theorem d7_2 : decode prog_8_method_10_code 2 = .ok (.aload_n 0, 1) := by decide +kernel
theorem d7_3 : decode prog_8_method_10_code 3 = .ok (.getfield 7, 3) := by decide +kernel
theorem d7_6 : decode prog_8_method_10_code 6 = .ok (.invokestatic 87, 3) := by decide +kernel
theorem pd_3 : parseMethodDescriptor "(J)I" = some ⟨[.long], some .int⟩ := by decide +kernel
theorem d7_9 : decode prog_8_method_10_code 9 = .ok (.imul, 1) := by decide +kernel
theorem d7_10 : decode prog_8_method_10_code 10 = .ok (.aload_n 0, 1) := by decide +kernel
theorem d7_11 : decode prog_8_method_10_code 11 = .ok (.getfield 13, 3) := by decide +kernel
theorem d7_14 : decode prog_8_method_10_code 14 = .ok (.iadd, 1) := by decide +kernel
theorem d7_15 : decode prog_8_method_10_code 15 = .ok (.ireturn, 1) := by decide +kernel
theorem ef_rm7 (m : MethodId) (x0 : Addr) : entryFrame m #[(.ref x0)] 1 = mkF m 0 #[.val (.ref x0)] [] := by first | (simp [entryFrame, mkF, argsToLocals, Value.category]; done) | rfl
def Qrm7 (Z : State) (a : Addr) (q : Int64) (pa : Int32) (h0 : Heap) (n0 : Nat) (v : Option Value) (h : Heap) (L : List Loc) : Prop := v = some (.int (((31 : Int32) * ((q ^^^ ((q.toUInt64 >>> ((32 : Int32) &&& 0x3f).toInt64.toUInt64).toInt64)).toInt32)) + pa)) ∧ Fr n0 L ∧ h = h0
set_option maxRecDepth 65536 in
set_option maxHeartbeats 40000000 in
theorem rm7 (l : Launch) (Z : State) (a0 : Array Value) (hw : ∀ d ∈ tables_1, d.before a0 Z = true) (ws : List Jvm.Cond) (a : Addr) (q : Int64) (pa : Int32) (h0 : Heap) (n0 : Nat) (O : Old Z n0 h0) (F_a_Decimal_unscaled : Fld Z h0 a "com/example/depthline/depthline/core/Decimal" "unscaled" "J" (.long q)) (F_a_Decimal_scale : Fld Z h0 a "com/example/depthline/depthline/core/Decimal" "scale" "I" (.int pa)) :
    MetFree l (⟨"com/example/depthline/depthline/core/Decimal", "hashCode", "()I"⟩ : MethodName) (head1 (Jvm.Cond.code (⟨"com/example/depthline/depthline/core/Decimal", "hashCode", "()I"⟩ : MethodName) prog_8_method_10_code 1 (some .int) :: ws) ({ frames := 1, cells := 0, slots := 0, locals := 14 } : Room)) (fun a' U' => a' = #[(.ref a)] ∧ Z.Warmed39 U'.vm ∧ U'.heap = h0) (fun _ _ _ _ _ => True) (fun _ U' o' W' => ∃ v' L', o' = .returned v' ∧ Qrm7 Z a q pa h0 n0 v' W'.heap L' ∧ FrameEnd U' o' W' L' ({ frames := 1, cells := 0, slots := 0, locals := 14 } : Room).cells ({ frames := 1, cells := 0, slots := 0, locals := 14 } : Room).slots) := by
  refine MetFree.of_bodySF (plainFor_of_name pn_1) hisR ?_
  intro p e s m args below meth c s₁ Bd hml0 hP hK
  obtain ⟨rfl, hZ, hh⟩ := hP
  have hx := Bd.exec
  have hby := Bd.bytes
  have hml : c.maxLocals = 1 := hml0
  have hown : s.vm.findClass "com/example/depthline/depthline/core/Decimal" = some m.cls := findClass_of_methodNamed Bd.named
  have hnm := (name_of_methodNamed Bd.named Bd.method).1
  have X0 : Stand p l e ({ frames := 1, cells := 0, slots := 0, locals := 14 } : Room) s m #[(.ref a)] below meth c s₁ [] 0 0 := Stand.of_body Bd
  have e0 : s₁.heap = h0 := by rw [← hh, Bd.state]; rfl
  have N0 := Fr.nil n0
  refine own_start (ef_rm7 m a) (Q := fun o' t' => ∃ v' L', o' = .returned v' ∧ Qrm7 Z a q pa h0 n0 v' t'.heap L' ∧ FrameEnd s o' t' L' ({ frames := 1, cells := 0, slots := 0, locals := 14 } : Room).cells ({ frames := 1, cells := 0, slots := 0, locals := 14 } : Room).slots) ?_
  show own_Fin p e below (s₁.setTop (mkF m 0 #[.val (.ref a)] [])) _
  refine own_go (fun _ k => XS.bipush X0.here hx rfl (hb hby d7_0) (XS.aloadN X0.here hx rfl (hb hby d7_2) rfl rfl k)) ?_
  show own_Fin p e below (s₁.setTop (mkF m 3 #[.val (.ref a)] [(.ref a), (.int 31)])) _
  obtain ⟨T97, X97, e97, st97⟩ := getF X0 hx hZ hown (host := "") (Or.inl (ow hw 46)) Via.refl e0 F_a_Decimal_unscaled (g := (mkF m 3 #[.val (.ref a)] [(.ref a), (.int 31)])) rfl rfl (hb hby d7_3)
  refine own_go (fun _ k => st97 _ k) ?_
  show own_Fin p e below (T97.setTop (mkF m 6 #[.val (.ref a)] [(.long q), (.int 31)])) _
  obtain ⟨_, _, ⟨T98, L98, k98, n98⟩, -, X98, ⟨Lc98, hQ98, l98, y98, z98⟩, st98⟩ := Jvm.LawKit.callS X97 hx (y := (⟨"java/lang/Long", "hashCode", "(J)I"⟩ : MethodName)) hown (mvT hZ (ow hw 55)) (mvT hZ (ow hw 56)) (mvT hZ (ow hw 57)) (mvT hZ (ow hw 58)) (by decide) (backOf (W := 1) (rm8 l Z a0 hw [] q h0 n0 ) hZ (ow hw 58) (ow hw 57) (by decide) (by decide)) (g := (mkF m 6 #[.val (.ref a)] [(.long q), (.int 31)])) rfl (by rw [hml]; rfl) (argsL := [(.long q)]) (rest := [(.int 31)]) (lenOf pd_3 rfl) rfl (by show 2 * 0 + _ ≤ _; exact Nat.le_of_eq rfl) (hb hby d7_6) (fun _ _ => ⟨rfl, e97, (by decide : 0 + 0 ≤ _), (by decide : 0 + 0 ≤ _)⟩)
  dsimp only [Pt.U, Pt.locs, Pt.cells, Pt.slots] at X98 l98 y98 z98 st98 hQ98
  subst y98 z98
  obtain ⟨rfl, N98q, e98⟩ := hQ98
  refine own_go (fun _ k => st98 _ k) ?_
  have N98 := own_frl l98 (Fr.app N0 N98q)
  show own_Fin p e below (T98.setTop (mkF m 9 #[.val (.ref a)] [(.int ((q ^^^ ((q.toUInt64 >>> ((32 : Int32) &&& 0x3f).toInt64.toUInt64).toInt64)).toInt32)), (.int 31)])) _
  refine own_go (fun _ k => XS.imul X98.here hx rfl (hb hby d7_9) rfl (XS.aloadN X98.here hx rfl (hb hby d7_10) rfl rfl k)) ?_
  show own_Fin p e below (T98.setTop (mkF m 11 #[.val (.ref a)] [(.ref a), (.int ((31 : Int32) * ((q ^^^ ((q.toUInt64 >>> ((32 : Int32) &&& 0x3f).toInt64.toUInt64).toInt64)).toInt32)))])) _
  obtain ⟨T99, X99, e99, st99⟩ := getF X98 hx hZ hown (host := "") (Or.inl (ow hw 48)) Via.refl e98 F_a_Decimal_scale (g := (mkF m 11 #[.val (.ref a)] [(.ref a), (.int ((31 : Int32) * ((q ^^^ ((q.toUInt64 >>> ((32 : Int32) &&& 0x3f).toInt64.toUInt64).toInt64)).toInt32)))])) rfl rfl (hb hby d7_11)
  refine own_go (fun _ k => st99 _ k) ?_
  show own_Fin p e below (T99.setTop (mkF m 14 #[.val (.ref a)] [(.int pa), (.int ((31 : Int32) * ((q ^^^ ((q.toUInt64 >>> ((32 : Int32) &&& 0x3f).toInt64.toUInt64).toInt64)).toInt32)))])) _
  refine own_go (fun _ k => XS.iadd X99.here hx rfl (hb hby d7_14) rfl k) ?_
  show own_Fin p e below (T99.setTop (mkF m 15 #[.val (.ref a)] [(.int (((31 : Int32) * ((q ^^^ ((q.toUInt64 >>> ((32 : Int32) &&& 0x3f).toInt64.toUInt64).toInt64)).toInt32)) + pa))])) _
  obtain ⟨fs, hr, hrun, hended, hW, hsame⟩ := X99.leave (v := some (.int (((31 : Int32) * ((q ^^^ ((q.toUInt64 >>> ((32 : Int32) &&& 0x3f).toInt64.toUInt64).toInt64)).toInt32)) + pa))) (fun h => by rw [Bd.returns] at h; cases h)
  refine ⟨_, _, ?_, hrun, hended, _, _, rfl, ?_, ⟨_, rfl⟩, hW, hsame.mono (by decide) (by decide)⟩
  ·exact own_retI X99 hx Bd.returns (hb hby d7_15) hr
  ·show Qrm7 Z a q pa h0 n0 _ T99.heap _
   rw [e99]
   exact ⟨rfl, N98, rfl⟩
theorem d9_0 : decode prog_8_method_5_code 0 = .ok (.aload_n 0, 1) := by decide +kernel
theorem d9_1 : decode prog_8_method_5_code 1 = .ok (.getfield 7, 3) := by decide +kernel
theorem d9_4 : decode prog_8_method_5_code 4 = .ok (.lconst 0, 1) := by decide +kernel
theorem d9_5 : decode prog_8_method_5_code 5 = .ok (.lcmp, 1) := by decide +kernel
theorem d9_6 : decode prog_8_method_5_code 6 = .ok (.ifCond .ne 7, 3) := by decide +kernel
theorem d9_9 : decode prog_8_method_5_code 9 = .ok (.iconst 1, 1) := by decide +kernel
theorem d9_10 : decode prog_8_method_5_code 10 = .ok (.goto 4, 3) := by decide +kernel
theorem d9_14 : decode prog_8_method_5_code 14 = .ok (.ireturn, 1) := by decide +kernel
theorem d9_13 : decode prog_8_method_5_code 13 = .ok (.iconst 0, 1) := by decide +kernel
theorem ef_rm9 (m : MethodId) (x0 : Addr) : entryFrame m #[(.ref x0)] 1 = mkF m 0 #[.val (.ref x0)] [] := by first | (simp [entryFrame, mkF, argsToLocals, Value.category]; done) | rfl
def Qrm9 (Z : State) (a : Addr) (q : Int64) (h0 : Heap) (n0 : Nat) (v : Option Value) (h : Heap) (L : List Loc) : Prop := v = some (.int (own_bi (q = (0 : Int64)))) ∧ Fr n0 L ∧ h = h0
set_option maxRecDepth 65536 in
set_option maxHeartbeats 40000000 in
theorem rm9 (l : Launch) (Z : State) (a0 : Array Value) (hw : ∀ d ∈ tables_1, d.before a0 Z = true) (ws : List Jvm.Cond) (a : Addr) (q : Int64) (h0 : Heap) (n0 : Nat) (O : Old Z n0 h0) (F_a_Decimal_unscaled : Fld Z h0 a "com/example/depthline/depthline/core/Decimal" "unscaled" "J" (.long q)) :
    MetFree l (⟨"com/example/depthline/depthline/core/Decimal", "isZero", "()Z"⟩ : MethodName) (head1 (Jvm.Cond.code (⟨"com/example/depthline/depthline/core/Decimal", "isZero", "()Z"⟩ : MethodName) prog_8_method_5_code 1 (some .boolean) :: ws) ({ frames := 0, cells := 0, slots := 0, locals := 0 } : Room)) (fun a' U' => a' = #[(.ref a)] ∧ Z.Warmed39 U'.vm ∧ U'.heap = h0) (fun _ _ _ _ _ => True) (fun _ U' o' W' => ∃ v' L', o' = .returned v' ∧ Qrm9 Z a q h0 n0 v' W'.heap L' ∧ FrameEnd U' o' W' L' ({ frames := 0, cells := 0, slots := 0, locals := 0 } : Room).cells ({ frames := 0, cells := 0, slots := 0, locals := 0 } : Room).slots) := by
  refine MetFree.of_bodySF (plainFor_of_name pn_1) hisR ?_
  intro p e s m args below meth c s₁ Bd hml0 hP hK
  obtain ⟨rfl, hZ, hh⟩ := hP
  have hx := Bd.exec
  have hby := Bd.bytes
  have hml : c.maxLocals = 1 := hml0
  have hown : s.vm.findClass "com/example/depthline/depthline/core/Decimal" = some m.cls := findClass_of_methodNamed Bd.named
  have hnm := (name_of_methodNamed Bd.named Bd.method).1
  have X0 : Stand p l e ({ frames := 0, cells := 0, slots := 0, locals := 0 } : Room) s m #[(.ref a)] below meth c s₁ [] 0 0 := Stand.of_body Bd
  have e0 : s₁.heap = h0 := by rw [← hh, Bd.state]; rfl
  have N0 := Fr.nil n0
  refine own_start (ef_rm9 m a) (Q := fun o' t' => ∃ v' L', o' = .returned v' ∧ Qrm9 Z a q h0 n0 v' t'.heap L' ∧ FrameEnd s o' t' L' ({ frames := 0, cells := 0, slots := 0, locals := 0 } : Room).cells ({ frames := 0, cells := 0, slots := 0, locals := 0 } : Room).slots) ?_
  show own_Fin p e below (s₁.setTop (mkF m 0 #[.val (.ref a)] [])) _
  refine own_go (fun _ k => XS.aloadN X0.here hx rfl (hb hby d9_0) rfl rfl k) ?_
  show own_Fin p e below (s₁.setTop (mkF m 1 #[.val (.ref a)] [(.ref a)])) _
  obtain ⟨T101, X101, e101, st101⟩ := getF X0 hx hZ hown (host := "") (Or.inl (ow hw 46)) Via.refl e0 F_a_Decimal_unscaled (g := (mkF m 1 #[.val (.ref a)] [(.ref a)])) rfl rfl (hb hby d9_1)
  refine own_go (fun _ k => st101 _ k) ?_
  show own_Fin p e below (T101.setTop (mkF m 4 #[.val (.ref a)] [(.long q)])) _
  refine own_go (fun _ k => XS.lconst X101.here hx rfl (hb hby d9_4) (XS.lcmp X101.here hx rfl (hb hby d9_5) rfl k)) ?_
  show own_Fin p e below (T101.setTop (mkF m 6 #[.val (.ref a)] [(.int (lcmpW q (0 : Int64)))])) _
  by_cases hc6_102 : q = (0 : Int64)
  ·refine own_go (fun _ k => XS.ifNo X101.here hx rfl (hb hby d9_6) rfl ((if0 _ _).trans (teq ((lw_eq _ _).mpr hc6_102)).2) (XS.iconst X101.here hx rfl (hb hby d9_9) (XS.goto X101.here hx rfl (pc0 := 10) (pc' := 14) rfl (hb hby d9_10) (by decide) (by decide) k))) ?_
   show own_Fin p e below (T101.setTop (mkF m 14 #[.val (.ref a)] [(.int 1)])) _
   obtain ⟨fs, hr, hrun, hended, hW, hsame⟩ := X101.leave (v := some (.int 1)) (fun h => by rw [Bd.returns] at h; cases h)
   refine ⟨_, _, ?_, hrun, hended, _, _, rfl, ?_, ⟨_, rfl⟩, hW, hsame.mono (by decide) (by decide)⟩
   ·exact retN X101 hx (t := .boolean) Bd.returns (by simp) (hb hby d9_14) hr
   ·show Qrm9 Z a q h0 n0 _ T101.heap _
    rw [e101]
    exact ⟨(by simp [own_bi, hc6_102]), N0, rfl⟩
  ·refine own_go (fun _ k => XS.ifYes X101.here hx rfl (pc0 := 6) (pc' := 13) rfl (hb hby d9_6) rfl ((if0 _ _).trans (feq (fun q => hc6_102 ((lw_eq _ _).mp q))).2) (by decide) (by decide) (XS.iconst X101.here hx rfl (hb hby d9_13) k)) ?_
   show own_Fin p e below (T101.setTop (mkF m 14 #[.val (.ref a)] [(.int 0)])) _
   obtain ⟨fs, hr, hrun, hended, hW, hsame⟩ := X101.leave (v := some (.int 0)) (fun h => by rw [Bd.returns] at h; cases h)
   refine ⟨_, _, ?_, hrun, hended, _, _, rfl, ?_, ⟨_, rfl⟩, hW, hsame.mono (by decide) (by decide)⟩
   ·exact retN X101 hx (t := .boolean) Bd.returns (by simp) (hb hby d9_14) hr
   ·show Qrm9 Z a q h0 n0 _ T101.heap _
    rw [e101]
    exact ⟨(by simp [own_bi, hc6_102]), N0, rfl⟩
def own_H (nn : Int64) (kk zz oo lenv : Int32) : Prop := ∃ (N K Z_ tt ov : Nat), nn.toInt = N ∧ N < 10 ^ 18 ∧ kk.toInt = K ∧ K ≤ 19 ∧ zz.toInt = Z_ ∧ Z_ ≤ 1 ∧ (K = 0 → Z_ = 1) ∧ (K ≤ 17 → N % 10 ≠ 0) ∧ tt ≤ 2 ∧ (K = 18 → 1 ≤ tt) ∧ (K = 19 → tt = 0) ∧ oo.toInt = ov ∧ ov ≤ 1 ∧ lenv.toInt = (Z_ + 18 + (if K ≤ 18 then 1 else 0) + tt : Nat)
theorem own_HB {nn : Int64} {kk zz oo lenv j : Int32} (H : own_H nn kk zz oo lenv) (h0 : 0 ≤ j.toInt) (h1 : j.toInt ≤ 30) : own_B j oo lenv zz kk := by
  obtain ⟨N, K, Z_, tt, ov, a1, a2, a3, a4, a5, a6, a7, a8, a9, a10, a11, a12, a13, a14⟩ := H
  refine ⟨h0, h1, by omega, by omega, by omega, ?_, by omega, by omega, by omega, by omega, fun h => ?_⟩
  · rw [a14]; split <;> omega
  · rw [a14, if_neg (by omega)]; have := a11 (by omega); omega
theorem own_HP {nn : Int64} {kk zz oo lenv g_ sk : Int32} (H : own_H nn kk zz oo lenv) (hsk : sk.toInt = (if kk.toInt ≤ 17 then 18 - kk.toInt else 0)) : own_PH ((List.range 24).map fun j => Value.int (nar .char (own_cell (Int32.ofNat j) oo lenv zz kk nn g_))) oo lenv nn sk := by
  have HB := fun (j : Int32) (h0 : 0 ≤ j.toInt) (h1 : j.toInt ≤ 30) => own_HB H h0 h1
  obtain ⟨N, K, Z_, tt, ov, a1, a2, a3, a4, a5, a6, a7, a8, a9, a10, a11, a12, a13, a14⟩ := H
  refine ⟨N, K, Z_, tt, ov, _, a1, a2, a4, a6, a7, a8, a9, a10, a11, rfl, a12, a13, a14, ?_, fun p hp => ?_⟩
  · rw [hsk, a3]; split <;> split <;> omega
  · have hp2 : ov + p < 24 := by split at hp <;> omega
    have hj : (Int32.ofNat (ov + p)).toInt = (ov : Int) + p := by rw [Int32.toInt_ofNat_of_lt (by omega)]; omega
    have hv := own_cellv (j := Int32.ofNat (ov + p)) (g := g_) a1 a3 a5 a14 a12 hj hp (HB _ (by omega) (by omega))
    have hb : own_chr N K Z_ p < 65536 := by
      unfold own_chr
      have m1 : N / 10 ^ (17 - (p - Z_)) % 10 < 10 := Nat.mod_lt _ (by omega)
      have m2 : N / 10 ^ (17 - (p - Z_ - 1)) % 10 < 10 := Nat.mod_lt _ (by omega)
      split
      · omega
      split
      · omega
      split
      · omega
      split
      · omega
      split <;> omega
    refine ⟨nar .char (own_cell (Int32.ofNat (ov + p)) oo lenv zz kk nn g_), ?_, ?_⟩
    · simp [List.getD_eq_getElem?_getD, hp2]
    · rw [own_nar (by omega) (by omega)]; exact hv
theorem own_NN (a : Int64) : ∃ N : Nat, ((a &&& (9223372036854775807 : Int64)) - ((a &&& (9223372036854775807 : Int64)) / (1000000000000000000 : Int64)) * (1000000000000000000 : Int64)).toInt = N ∧ N < 10 ^ 18 := by
  have h1 := c_maskL a 9223372036854775807 63 (by decide) (by decide)
  have h2 := (c_lrem (a &&& 9223372036854775807) 1000000000000000000 1000000000000000000 (by decide)).1 (by omega)
  refine ⟨(((a &&& (9223372036854775807 : Int64)) - ((a &&& (9223372036854775807 : Int64)) / (1000000000000000000 : Int64)) * (1000000000000000000 : Int64)).toInt).toNat, by omega, by omega⟩
theorem own_m10 {n : Int64} {N : Nat} (h : n.toInt = N) (h18 : N < 10 ^ 18) : (n - (n / (10 : Int64)) * (10 : Int64)).toInt = ((N % 10 : Nat) : Int) := by
  have h2 := (c_lrem n 10 10 (by decide)).1 (by omega)
  omega
theorem own_p1 {n : Int64} {N : Nat} (h : n.toInt = N) (h18 : N < 10 ^ 18) : (n + (1 : Int64)).toInt = ((N + 1 : Nat) : Int) := by
  have q1 := c_ladd n 1
  have q2 := rng64 (n + 1)
  have e1 : (1 : Int64).toInt = 1 := by decide
  omega
theorem own_KK (b : Int32) : ∃ K : Nat, ((b &&& (2147483647 : Int32)) % (20 : Int32)).toInt = K ∧ K ≤ 19 := by
  have h1 := c_mask b 2147483647 31 (by decide) (by decide)
  have h2 := (c_irem (b &&& 2147483647) 20 20 (by decide)).1 (by omega)
  exact ⟨((b &&& (2147483647 : Int32)) % (20 : Int32)).toInt.toNat, by omega, by omega⟩
theorem own_b1 (c : Int32) : ∃ z : Nat, (c &&& (1 : Int32)).toInt = z ∧ z ≤ 1 := by
  have h1 := c_mask c 1 1 (by decide) (by decide)
  exact ⟨(c &&& (1 : Int32)).toInt.toNat, by omega, by omega⟩
theorem own_tt (c : Int32) : ∃ t : Nat, (((c.toUInt32 >>> ((1 : Int32) &&& 31).toUInt32).toInt32) % (3 : Int32)).toInt = t ∧ t ≤ 2 := by
  have h1 := c_iushr c 1 1 (by decide) (by decide)
  have h2 := (c_irem ((c.toUInt32 >>> ((1 : Int32) &&& 31).toUInt32).toInt32) 3 3 (by decide)).1 (by omega)
  exact ⟨(((c.toUInt32 >>> ((1 : Int32) &&& 31).toUInt32).toInt32) % (3 : Int32)).toInt.toNat, by omega, by omega⟩
theorem own_lst24 {α : Type} (f : Nat → α) : (List.range 24).map f = [f 0, f 1, f 2, f 3, f 4, f 5, f 6, f 7, f 8, f 9, f 10, f 11, f 12, f 13, f 14, f 15, f 16, f 17, f 18, f 19, f 20, f 21, f 22, f 23] := rfl
theorem own_HP2 {nn : Int64} {kk zz oo lenv gg sk : Int32} (H : own_H nn kk zz oo lenv) (hsk : sk.toInt = (if kk.toInt ≤ 17 then 18 - kk.toInt else 0)) : own_PH [(.int (nar .char (own_cell (0 : Int32) oo lenv zz kk nn gg))), (.int (nar .char (own_cell (1 : Int32) oo lenv zz kk nn gg))), (.int (nar .char (own_cell (2 : Int32) oo lenv zz kk nn gg))), (.int (nar .char (own_cell (3 : Int32) oo lenv zz kk nn gg))), (.int (nar .char (own_cell (4 : Int32) oo lenv zz kk nn gg))), (.int (nar .char (own_cell (5 : Int32) oo lenv zz kk nn gg))), (.int (nar .char (own_cell (6 : Int32) oo lenv zz kk nn gg))), (.int (nar .char (own_cell (7 : Int32) oo lenv zz kk nn gg))), (.int (nar .char (own_cell (8 : Int32) oo lenv zz kk nn gg))), (.int (nar .char (own_cell (9 : Int32) oo lenv zz kk nn gg))), (.int (nar .char (own_cell (10 : Int32) oo lenv zz kk nn gg))), (.int (nar .char (own_cell (11 : Int32) oo lenv zz kk nn gg))), (.int (nar .char (own_cell (12 : Int32) oo lenv zz kk nn gg))), (.int (nar .char (own_cell (13 : Int32) oo lenv zz kk nn gg))), (.int (nar .char (own_cell (14 : Int32) oo lenv zz kk nn gg))), (.int (nar .char (own_cell (15 : Int32) oo lenv zz kk nn gg))), (.int (nar .char (own_cell (16 : Int32) oo lenv zz kk nn gg))), (.int (nar .char (own_cell (17 : Int32) oo lenv zz kk nn gg))), (.int (nar .char (own_cell (18 : Int32) oo lenv zz kk nn gg))), (.int (nar .char (own_cell (19 : Int32) oo lenv zz kk nn gg))), (.int (nar .char (own_cell (20 : Int32) oo lenv zz kk nn gg))), (.int (nar .char (own_cell (21 : Int32) oo lenv zz kk nn gg))), (.int (nar .char (own_cell (22 : Int32) oo lenv zz kk nn gg))), (.int (nar .char (own_cell (23 : Int32) oo lenv zz kk nn gg)))] oo lenv nn sk := by
  have q := own_HP (g_ := gg) H hsk
  rw [own_lst24] at q
  exact q
theorem own_sk {nn : Int64} {kk zz oo lenv : Int32} (H : own_H nn kk zz oo lenv) : ∃ sk : Int32, sk.toInt = (if kk.toInt ≤ 17 then 18 - kk.toInt else 0) := by
  obtain ⟨N, K, Z_, tt, ov, a1, a2, a3, a4, a5, a6, a7, a8, a9, a10, a11, a12, a13, a14⟩ := H
  by_cases h : kk.toInt ≤ 17
  · refine ⟨18 - kk, ?_⟩
    have q1 := c_isub 18 kk
    have q2 := rng32 (18 - kk)
    have e18 : (18 : Int32).toInt = 18 := by decide
    rw [if_pos h]; omega
  · exact ⟨0, by rw [if_neg h]; decide⟩
theorem own_skT {kk sk : Int32} (hsk : sk.toInt = (if kk.toInt ≤ 17 then 18 - kk.toInt else 0)) (h : ¬ ((17 : Int32) < kk)) (hk : 0 ≤ kk.toInt) : sk = (18 : Int32) - kk := by
  have e17 : (17 : Int32).toInt = 17 := by decide
  have e18 : (18 : Int32).toInt = 18 := by decide
  have q1 := c_isub 18 kk
  have q2 := rng32 (18 - kk)
  rw [Int32.lt_iff_toInt_lt] at h
  rw [if_pos (by omega)] at hsk
  rw [← Int32.toInt_inj]; omega
theorem own_skF {kk sk : Int32} (hsk : sk.toInt = (if kk.toInt ≤ 17 then 18 - kk.toInt else 0)) (h : (17 : Int32) < kk) : sk = (0 : Int32) := by
  have e17 : (17 : Int32).toInt = 17 := by decide
  have e0 : (0 : Int32).toInt = 0 := by decide
  rw [Int32.lt_iff_toInt_lt] at h
  rw [if_neg (by omega)] at hsk
  rw [← Int32.toInt_inj]; omega
theorem own_Hk {nn : Int64} {kk zz oo lenv : Int32} (H : own_H nn kk zz oo lenv) : 0 ≤ kk.toInt := by
  obtain ⟨N, K, Z_, tt, ov, a1, a2, a3, a4, a5, a6, a7, a8, a9, a10, a11, a12, a13, a14⟩ := H; omega
theorem pd_4 : parseMethodDescriptor "(IIIIIJC)C" = some ⟨[.int, .int, .int, .int, .int, .long, .char], some .char⟩ := by decide +kernel
theorem pd_5 : parseMethodDescriptor "([CII)Lcom/example/depthline/depthline/core/Decimal;" = some ⟨[(.array .char), .int, .int], some (.object "com/example/depthline/depthline/core/Decimal")⟩ := by decide +kernel
theorem pd_6 : parseMethodDescriptor "()I" = some ⟨[], some .int⟩ := by decide +kernel
theorem pd_7 : parseMethodDescriptor "()Z" = some ⟨[], some .boolean⟩ := by decide +kernel
theorem own_hl221 (p0 : Int64) (p1 p2 p3 : Int32) (hc24_217 : (18 : Int32) < ((p1 &&& (2147483647 : Int32)) % (20 : Int32))) (hc38_218 : (17 : Int32) < ((p1 &&& (2147483647 : Int32)) % (20 : Int32))) (hc65_219 : ((p1 &&& (2147483647 : Int32)) % (20 : Int32)) = (0 : Int32)) (hc91_220 : ((p1 &&& (2147483647 : Int32)) % (20 : Int32)) = (18 : Int32)) : own_H ((p0 &&& (9223372036854775807 : Int64)) - ((p0 &&& (9223372036854775807 : Int64)) / (1000000000000000000 : Int64)) * (1000000000000000000 : Int64)) ((p1 &&& (2147483647 : Int32)) % (20 : Int32)) (1 : Int32) (p3 &&& (1 : Int32)) (20 : Int32) := by
  obtain ⟨N, hN, hN18⟩ := own_NN p0
  obtain ⟨K, hK, hK19⟩ := own_KK p1
  obtain ⟨zc, hzc, hzc1⟩ := own_b1 p2
  obtain ⟨tc, htc, htc2⟩ := own_tt p2
  obtain ⟨oc, hoc, hoc1⟩ := own_b1 p3
  have e0_ : (0 : Int32).toInt = 0 := by decide
  have e1_ : (1 : Int32).toInt = 1 := by decide
  have e17_ : (17 : Int32).toInt = 17 := by decide
  have e18_ : (18 : Int32).toInt = 18 := by decide
  have e19_ : (19 : Int32).toInt = 19 := by decide
  have e20_ : (20 : Int32).toInt = 20 := by decide
  have e21_ : (21 : Int32).toInt = 21 := by decide
  have l0_ : (0 : Int64).toInt = 0 := by decide
  have m10 := own_m10 hN hN18
  have m11 := own_p1 hN hN18
  generalize ((p0 &&& (9223372036854775807 : Int64)) - ((p0 &&& (9223372036854775807 : Int64)) / (1000000000000000000 : Int64)) * (1000000000000000000 : Int64)) = n at *
  simp only [Int32.lt_iff_toInt_lt, ← Int32.toInt_inj, ← Int64.toInt_inj] at *
  refine ⟨N, K, 1, 1, oc, by omega, by omega, hK, hK19, by omega, by omega, by omega, by omega, by omega, by omega, by omega, hoc, hoc1, ?_⟩
  split <;> omega
theorem own_hl222 (p0 : Int64) (p1 p2 p3 : Int32) (hc24_217 : (18 : Int32) < ((p1 &&& (2147483647 : Int32)) % (20 : Int32))) (hc38_218 : (17 : Int32) < ((p1 &&& (2147483647 : Int32)) % (20 : Int32))) (hc65_219 : ((p1 &&& (2147483647 : Int32)) % (20 : Int32)) = (0 : Int32)) (hc91_220 : ¬ (((p1 &&& (2147483647 : Int32)) % (20 : Int32)) = (18 : Int32))) : own_H ((p0 &&& (9223372036854775807 : Int64)) - ((p0 &&& (9223372036854775807 : Int64)) / (1000000000000000000 : Int64)) * (1000000000000000000 : Int64)) ((p1 &&& (2147483647 : Int32)) % (20 : Int32)) (1 : Int32) (p3 &&& (1 : Int32)) (19 : Int32) := by
  obtain ⟨N, hN, hN18⟩ := own_NN p0
  obtain ⟨K, hK, hK19⟩ := own_KK p1
  obtain ⟨zc, hzc, hzc1⟩ := own_b1 p2
  obtain ⟨tc, htc, htc2⟩ := own_tt p2
  obtain ⟨oc, hoc, hoc1⟩ := own_b1 p3
  have e0_ : (0 : Int32).toInt = 0 := by decide
  have e1_ : (1 : Int32).toInt = 1 := by decide
  have e17_ : (17 : Int32).toInt = 17 := by decide
  have e18_ : (18 : Int32).toInt = 18 := by decide
  have e19_ : (19 : Int32).toInt = 19 := by decide
  have e20_ : (20 : Int32).toInt = 20 := by decide
  have e21_ : (21 : Int32).toInt = 21 := by decide
  have l0_ : (0 : Int64).toInt = 0 := by decide
  have m10 := own_m10 hN hN18
  have m11 := own_p1 hN hN18
  generalize ((p0 &&& (9223372036854775807 : Int64)) - ((p0 &&& (9223372036854775807 : Int64)) / (1000000000000000000 : Int64)) * (1000000000000000000 : Int64)) = n at *
  simp only [Int32.lt_iff_toInt_lt, ← Int32.toInt_inj, ← Int64.toInt_inj] at *
  refine ⟨N, K, 1, 0, oc, by omega, by omega, hK, hK19, by omega, by omega, by omega, by omega, by omega, by omega, by omega, hoc, hoc1, ?_⟩
  split <;> omega
theorem own_hl224 (p0 : Int64) (p1 p2 p3 : Int32) (hc24_217 : (18 : Int32) < ((p1 &&& (2147483647 : Int32)) % (20 : Int32))) (hc38_218 : (17 : Int32) < ((p1 &&& (2147483647 : Int32)) % (20 : Int32))) (hc65_219 : ¬ (((p1 &&& (2147483647 : Int32)) % (20 : Int32)) = (0 : Int32))) (hc91_223 : ((p1 &&& (2147483647 : Int32)) % (20 : Int32)) = (18 : Int32)) : own_H ((p0 &&& (9223372036854775807 : Int64)) - ((p0 &&& (9223372036854775807 : Int64)) / (1000000000000000000 : Int64)) * (1000000000000000000 : Int64)) ((p1 &&& (2147483647 : Int32)) % (20 : Int32)) (p2 &&& (1 : Int32)) (p3 &&& (1 : Int32)) ((((p2 &&& (1 : Int32)) + (18 : Int32)) + (0 : Int32)) + (1 : Int32)) := by
  obtain ⟨N, hN, hN18⟩ := own_NN p0
  obtain ⟨K, hK, hK19⟩ := own_KK p1
  obtain ⟨zc, hzc, hzc1⟩ := own_b1 p2
  obtain ⟨tc, htc, htc2⟩ := own_tt p2
  obtain ⟨oc, hoc, hoc1⟩ := own_b1 p3
  have e0_ : (0 : Int32).toInt = 0 := by decide
  have e1_ : (1 : Int32).toInt = 1 := by decide
  have e17_ : (17 : Int32).toInt = 17 := by decide
  have e18_ : (18 : Int32).toInt = 18 := by decide
  have e19_ : (19 : Int32).toInt = 19 := by decide
  have e20_ : (20 : Int32).toInt = 20 := by decide
  have e21_ : (21 : Int32).toInt = 21 := by decide
  have l0_ : (0 : Int64).toInt = 0 := by decide
  have m10 := own_m10 hN hN18
  have m11 := own_p1 hN hN18
  generalize ((p0 &&& (9223372036854775807 : Int64)) - ((p0 &&& (9223372036854775807 : Int64)) / (1000000000000000000 : Int64)) * (1000000000000000000 : Int64)) = n at *
  have r225 := c_iadd (p2 &&& (1 : Int32)) (18 : Int32)
  have r226 := rng32 ((p2 &&& (1 : Int32)) + (18 : Int32))
  have r227 := c_iadd ((p2 &&& (1 : Int32)) + (18 : Int32)) (0 : Int32)
  have r228 := rng32 (((p2 &&& (1 : Int32)) + (18 : Int32)) + (0 : Int32))
  have r229 := c_iadd (((p2 &&& (1 : Int32)) + (18 : Int32)) + (0 : Int32)) (1 : Int32)
  have r230 := rng32 ((((p2 &&& (1 : Int32)) + (18 : Int32)) + (0 : Int32)) + (1 : Int32))
  simp only [Int32.lt_iff_toInt_lt, ← Int32.toInt_inj, ← Int64.toInt_inj] at *
  refine ⟨N, K, zc, 1, oc, by omega, by omega, hK, hK19, by omega, by omega, by omega, by omega, by omega, by omega, by omega, hoc, hoc1, ?_⟩
  split <;> omega
theorem own_hl231 (p0 : Int64) (p1 p2 p3 : Int32) (hc24_217 : (18 : Int32) < ((p1 &&& (2147483647 : Int32)) % (20 : Int32))) (hc38_218 : (17 : Int32) < ((p1 &&& (2147483647 : Int32)) % (20 : Int32))) (hc65_219 : ¬ (((p1 &&& (2147483647 : Int32)) % (20 : Int32)) = (0 : Int32))) (hc91_223 : ¬ (((p1 &&& (2147483647 : Int32)) % (20 : Int32)) = (18 : Int32))) : own_H ((p0 &&& (9223372036854775807 : Int64)) - ((p0 &&& (9223372036854775807 : Int64)) / (1000000000000000000 : Int64)) * (1000000000000000000 : Int64)) ((p1 &&& (2147483647 : Int32)) % (20 : Int32)) (p2 &&& (1 : Int32)) (p3 &&& (1 : Int32)) ((((p2 &&& (1 : Int32)) + (18 : Int32)) + (0 : Int32)) + (0 : Int32)) := by
  obtain ⟨N, hN, hN18⟩ := own_NN p0
  obtain ⟨K, hK, hK19⟩ := own_KK p1
  obtain ⟨zc, hzc, hzc1⟩ := own_b1 p2
  obtain ⟨tc, htc, htc2⟩ := own_tt p2
  obtain ⟨oc, hoc, hoc1⟩ := own_b1 p3
  have e0_ : (0 : Int32).toInt = 0 := by decide
  have e1_ : (1 : Int32).toInt = 1 := by decide
  have e17_ : (17 : Int32).toInt = 17 := by decide
  have e18_ : (18 : Int32).toInt = 18 := by decide
  have e19_ : (19 : Int32).toInt = 19 := by decide
  have e20_ : (20 : Int32).toInt = 20 := by decide
  have e21_ : (21 : Int32).toInt = 21 := by decide
  have l0_ : (0 : Int64).toInt = 0 := by decide
  have m10 := own_m10 hN hN18
  have m11 := own_p1 hN hN18
  generalize ((p0 &&& (9223372036854775807 : Int64)) - ((p0 &&& (9223372036854775807 : Int64)) / (1000000000000000000 : Int64)) * (1000000000000000000 : Int64)) = n at *
  have r232 := c_iadd (p2 &&& (1 : Int32)) (18 : Int32)
  have r233 := rng32 ((p2 &&& (1 : Int32)) + (18 : Int32))
  have r234 := c_iadd ((p2 &&& (1 : Int32)) + (18 : Int32)) (0 : Int32)
  have r235 := rng32 (((p2 &&& (1 : Int32)) + (18 : Int32)) + (0 : Int32))
  have r236 := c_iadd (((p2 &&& (1 : Int32)) + (18 : Int32)) + (0 : Int32)) (0 : Int32)
  have r237 := rng32 ((((p2 &&& (1 : Int32)) + (18 : Int32)) + (0 : Int32)) + (0 : Int32))
  simp only [Int32.lt_iff_toInt_lt, ← Int32.toInt_inj, ← Int64.toInt_inj] at *
  refine ⟨N, K, zc, 0, oc, by omega, by omega, hK, hK19, by omega, by omega, by omega, by omega, by omega, by omega, by omega, hoc, hoc1, ?_⟩
  split <;> omega
theorem own_hl241 (p0 : Int64) (p1 p2 p3 : Int32) (hc24_217 : (18 : Int32) < ((p1 &&& (2147483647 : Int32)) % (20 : Int32))) (hc38_218 : ¬ ((17 : Int32) < ((p1 &&& (2147483647 : Int32)) % (20 : Int32)))) (hc49_238 : (((p0 &&& (9223372036854775807 : Int64)) - ((p0 &&& (9223372036854775807 : Int64)) / (1000000000000000000 : Int64)) * (1000000000000000000 : Int64)) - (((p0 &&& (9223372036854775807 : Int64)) - ((p0 &&& (9223372036854775807 : Int64)) / (1000000000000000000 : Int64)) * (1000000000000000000 : Int64)) / (10 : Int64)) * (10 : Int64)) = (0 : Int64)) (hc65_239 : ((p1 &&& (2147483647 : Int32)) % (20 : Int32)) = (0 : Int32)) (hc91_240 : ((p1 &&& (2147483647 : Int32)) % (20 : Int32)) = (18 : Int32)) : own_H (((p0 &&& (9223372036854775807 : Int64)) - ((p0 &&& (9223372036854775807 : Int64)) / (1000000000000000000 : Int64)) * (1000000000000000000 : Int64)) + (1 : Int64)) ((p1 &&& (2147483647 : Int32)) % (20 : Int32)) (1 : Int32) (p3 &&& (1 : Int32)) (20 : Int32) := by
  obtain ⟨N, hN, hN18⟩ := own_NN p0
  obtain ⟨K, hK, hK19⟩ := own_KK p1
  obtain ⟨zc, hzc, hzc1⟩ := own_b1 p2
  obtain ⟨tc, htc, htc2⟩ := own_tt p2
  obtain ⟨oc, hoc, hoc1⟩ := own_b1 p3
  have e0_ : (0 : Int32).toInt = 0 := by decide
  have e1_ : (1 : Int32).toInt = 1 := by decide
  have e17_ : (17 : Int32).toInt = 17 := by decide
  have e18_ : (18 : Int32).toInt = 18 := by decide
  have e19_ : (19 : Int32).toInt = 19 := by decide
  have e20_ : (20 : Int32).toInt = 20 := by decide
  have e21_ : (21 : Int32).toInt = 21 := by decide
  have l0_ : (0 : Int64).toInt = 0 := by decide
  have m10 := own_m10 hN hN18
  have m11 := own_p1 hN hN18
  generalize ((p0 &&& (9223372036854775807 : Int64)) - ((p0 &&& (9223372036854775807 : Int64)) / (1000000000000000000 : Int64)) * (1000000000000000000 : Int64)) = n at *
  simp only [Int32.lt_iff_toInt_lt, ← Int32.toInt_inj, ← Int64.toInt_inj] at *
  refine ⟨N + 1, K, 1, 1, oc, by omega, by omega, hK, hK19, by omega, by omega, by omega, by omega, by omega, by omega, by omega, hoc, hoc1, ?_⟩
  split <;> omega
theorem own_hl242 (p0 : Int64) (p1 p2 p3 : Int32) (hc24_217 : (18 : Int32) < ((p1 &&& (2147483647 : Int32)) % (20 : Int32))) (hc38_218 : ¬ ((17 : Int32) < ((p1 &&& (2147483647 : Int32)) % (20 : Int32)))) (hc49_238 : (((p0 &&& (9223372036854775807 : Int64)) - ((p0 &&& (9223372036854775807 : Int64)) / (1000000000000000000 : Int64)) * (1000000000000000000 : Int64)) - (((p0 &&& (9223372036854775807 : Int64)) - ((p0 &&& (9223372036854775807 : Int64)) / (1000000000000000000 : Int64)) * (1000000000000000000 : Int64)) / (10 : Int64)) * (10 : Int64)) = (0 : Int64)) (hc65_239 : ((p1 &&& (2147483647 : Int32)) % (20 : Int32)) = (0 : Int32)) (hc91_240 : ¬ (((p1 &&& (2147483647 : Int32)) % (20 : Int32)) = (18 : Int32))) : own_H (((p0 &&& (9223372036854775807 : Int64)) - ((p0 &&& (9223372036854775807 : Int64)) / (1000000000000000000 : Int64)) * (1000000000000000000 : Int64)) + (1 : Int64)) ((p1 &&& (2147483647 : Int32)) % (20 : Int32)) (1 : Int32) (p3 &&& (1 : Int32)) (19 : Int32) := by
  obtain ⟨N, hN, hN18⟩ := own_NN p0
  obtain ⟨K, hK, hK19⟩ := own_KK p1
  obtain ⟨zc, hzc, hzc1⟩ := own_b1 p2
  obtain ⟨tc, htc, htc2⟩ := own_tt p2
  obtain ⟨oc, hoc, hoc1⟩ := own_b1 p3
  have e0_ : (0 : Int32).toInt = 0 := by decide
  have e1_ : (1 : Int32).toInt = 1 := by decide
  have e17_ : (17 : Int32).toInt = 17 := by decide
  have e18_ : (18 : Int32).toInt = 18 := by decide
  have e19_ : (19 : Int32).toInt = 19 := by decide
  have e20_ : (20 : Int32).toInt = 20 := by decide
  have e21_ : (21 : Int32).toInt = 21 := by decide
  have l0_ : (0 : Int64).toInt = 0 := by decide
  have m10 := own_m10 hN hN18
  have m11 := own_p1 hN hN18
  generalize ((p0 &&& (9223372036854775807 : Int64)) - ((p0 &&& (9223372036854775807 : Int64)) / (1000000000000000000 : Int64)) * (1000000000000000000 : Int64)) = n at *
  simp only [Int32.lt_iff_toInt_lt, ← Int32.toInt_inj, ← Int64.toInt_inj] at *
  refine ⟨N + 1, K, 1, 0, oc, by omega, by omega, hK, hK19, by omega, by omega, by omega, by omega, by omega, by omega, by omega, hoc, hoc1, ?_⟩
  split <;> omega
theorem own_hl244 (p0 : Int64) (p1 p2 p3 : Int32) (hc24_217 : (18 : Int32) < ((p1 &&& (2147483647 : Int32)) % (20 : Int32))) (hc38_218 : ¬ ((17 : Int32) < ((p1 &&& (2147483647 : Int32)) % (20 : Int32)))) (hc49_238 : (((p0 &&& (9223372036854775807 : Int64)) - ((p0 &&& (9223372036854775807 : Int64)) / (1000000000000000000 : Int64)) * (1000000000000000000 : Int64)) - (((p0 &&& (9223372036854775807 : Int64)) - ((p0 &&& (9223372036854775807 : Int64)) / (1000000000000000000 : Int64)) * (1000000000000000000 : Int64)) / (10 : Int64)) * (10 : Int64)) = (0 : Int64)) (hc65_239 : ¬ (((p1 &&& (2147483647 : Int32)) % (20 : Int32)) = (0 : Int32))) (hc91_243 : ((p1 &&& (2147483647 : Int32)) % (20 : Int32)) = (18 : Int32)) : own_H (((p0 &&& (9223372036854775807 : Int64)) - ((p0 &&& (9223372036854775807 : Int64)) / (1000000000000000000 : Int64)) * (1000000000000000000 : Int64)) + (1 : Int64)) ((p1 &&& (2147483647 : Int32)) % (20 : Int32)) (p2 &&& (1 : Int32)) (p3 &&& (1 : Int32)) ((((p2 &&& (1 : Int32)) + (18 : Int32)) + (0 : Int32)) + (1 : Int32)) := by
  obtain ⟨N, hN, hN18⟩ := own_NN p0
  obtain ⟨K, hK, hK19⟩ := own_KK p1
  obtain ⟨zc, hzc, hzc1⟩ := own_b1 p2
  obtain ⟨tc, htc, htc2⟩ := own_tt p2
  obtain ⟨oc, hoc, hoc1⟩ := own_b1 p3
  have e0_ : (0 : Int32).toInt = 0 := by decide
  have e1_ : (1 : Int32).toInt = 1 := by decide
  have e17_ : (17 : Int32).toInt = 17 := by decide
  have e18_ : (18 : Int32).toInt = 18 := by decide
  have e19_ : (19 : Int32).toInt = 19 := by decide
  have e20_ : (20 : Int32).toInt = 20 := by decide
  have e21_ : (21 : Int32).toInt = 21 := by decide
  have l0_ : (0 : Int64).toInt = 0 := by decide
  have m10 := own_m10 hN hN18
  have m11 := own_p1 hN hN18
  generalize ((p0 &&& (9223372036854775807 : Int64)) - ((p0 &&& (9223372036854775807 : Int64)) / (1000000000000000000 : Int64)) * (1000000000000000000 : Int64)) = n at *
  have r245 := c_iadd (p2 &&& (1 : Int32)) (18 : Int32)
  have r246 := rng32 ((p2 &&& (1 : Int32)) + (18 : Int32))
  have r247 := c_iadd ((p2 &&& (1 : Int32)) + (18 : Int32)) (0 : Int32)
  have r248 := rng32 (((p2 &&& (1 : Int32)) + (18 : Int32)) + (0 : Int32))
  have r249 := c_iadd (((p2 &&& (1 : Int32)) + (18 : Int32)) + (0 : Int32)) (1 : Int32)
  have r250 := rng32 ((((p2 &&& (1 : Int32)) + (18 : Int32)) + (0 : Int32)) + (1 : Int32))
  simp only [Int32.lt_iff_toInt_lt, ← Int32.toInt_inj, ← Int64.toInt_inj] at *
  refine ⟨N + 1, K, zc, 1, oc, by omega, by omega, hK, hK19, by omega, by omega, by omega, by omega, by omega, by omega, by omega, hoc, hoc1, ?_⟩
  split <;> omega
theorem own_hl251 (p0 : Int64) (p1 p2 p3 : Int32) (hc24_217 : (18 : Int32) < ((p1 &&& (2147483647 : Int32)) % (20 : Int32))) (hc38_218 : ¬ ((17 : Int32) < ((p1 &&& (2147483647 : Int32)) % (20 : Int32)))) (hc49_238 : (((p0 &&& (9223372036854775807 : Int64)) - ((p0 &&& (9223372036854775807 : Int64)) / (1000000000000000000 : Int64)) * (1000000000000000000 : Int64)) - (((p0 &&& (9223372036854775807 : Int64)) - ((p0 &&& (9223372036854775807 : Int64)) / (1000000000000000000 : Int64)) * (1000000000000000000 : Int64)) / (10 : Int64)) * (10 : Int64)) = (0 : Int64)) (hc65_239 : ¬ (((p1 &&& (2147483647 : Int32)) % (20 : Int32)) = (0 : Int32))) (hc91_243 : ¬ (((p1 &&& (2147483647 : Int32)) % (20 : Int32)) = (18 : Int32))) : own_H (((p0 &&& (9223372036854775807 : Int64)) - ((p0 &&& (9223372036854775807 : Int64)) / (1000000000000000000 : Int64)) * (1000000000000000000 : Int64)) + (1 : Int64)) ((p1 &&& (2147483647 : Int32)) % (20 : Int32)) (p2 &&& (1 : Int32)) (p3 &&& (1 : Int32)) ((((p2 &&& (1 : Int32)) + (18 : Int32)) + (0 : Int32)) + (0 : Int32)) := by
  obtain ⟨N, hN, hN18⟩ := own_NN p0
  obtain ⟨K, hK, hK19⟩ := own_KK p1
  obtain ⟨zc, hzc, hzc1⟩ := own_b1 p2
  obtain ⟨tc, htc, htc2⟩ := own_tt p2
  obtain ⟨oc, hoc, hoc1⟩ := own_b1 p3
  have e0_ : (0 : Int32).toInt = 0 := by decide
  have e1_ : (1 : Int32).toInt = 1 := by decide
  have e17_ : (17 : Int32).toInt = 17 := by decide
  have e18_ : (18 : Int32).toInt = 18 := by decide
  have e19_ : (19 : Int32).toInt = 19 := by decide
  have e20_ : (20 : Int32).toInt = 20 := by decide
  have e21_ : (21 : Int32).toInt = 21 := by decide
  have l0_ : (0 : Int64).toInt = 0 := by decide
  have m10 := own_m10 hN hN18
  have m11 := own_p1 hN hN18
  generalize ((p0 &&& (9223372036854775807 : Int64)) - ((p0 &&& (9223372036854775807 : Int64)) / (1000000000000000000 : Int64)) * (1000000000000000000 : Int64)) = n at *
  have r252 := c_iadd (p2 &&& (1 : Int32)) (18 : Int32)
  have r253 := rng32 ((p2 &&& (1 : Int32)) + (18 : Int32))
  have r254 := c_iadd ((p2 &&& (1 : Int32)) + (18 : Int32)) (0 : Int32)
  have r255 := rng32 (((p2 &&& (1 : Int32)) + (18 : Int32)) + (0 : Int32))
  have r256 := c_iadd (((p2 &&& (1 : Int32)) + (18 : Int32)) + (0 : Int32)) (0 : Int32)
  have r257 := rng32 ((((p2 &&& (1 : Int32)) + (18 : Int32)) + (0 : Int32)) + (0 : Int32))
  simp only [Int32.lt_iff_toInt_lt, ← Int32.toInt_inj, ← Int64.toInt_inj] at *
  refine ⟨N + 1, K, zc, 0, oc, by omega, by omega, hK, hK19, by omega, by omega, by omega, by omega, by omega, by omega, by omega, hoc, hoc1, ?_⟩
  split <;> omega
theorem own_hl260 (p0 : Int64) (p1 p2 p3 : Int32) (hc24_217 : (18 : Int32) < ((p1 &&& (2147483647 : Int32)) % (20 : Int32))) (hc38_218 : ¬ ((17 : Int32) < ((p1 &&& (2147483647 : Int32)) % (20 : Int32)))) (hc49_238 : ¬ ((((p0 &&& (9223372036854775807 : Int64)) - ((p0 &&& (9223372036854775807 : Int64)) / (1000000000000000000 : Int64)) * (1000000000000000000 : Int64)) - (((p0 &&& (9223372036854775807 : Int64)) - ((p0 &&& (9223372036854775807 : Int64)) / (1000000000000000000 : Int64)) * (1000000000000000000 : Int64)) / (10 : Int64)) * (10 : Int64)) = (0 : Int64))) (hc65_258 : ((p1 &&& (2147483647 : Int32)) % (20 : Int32)) = (0 : Int32)) (hc91_259 : ((p1 &&& (2147483647 : Int32)) % (20 : Int32)) = (18 : Int32)) : own_H ((p0 &&& (9223372036854775807 : Int64)) - ((p0 &&& (9223372036854775807 : Int64)) / (1000000000000000000 : Int64)) * (1000000000000000000 : Int64)) ((p1 &&& (2147483647 : Int32)) % (20 : Int32)) (1 : Int32) (p3 &&& (1 : Int32)) (20 : Int32) := by
  obtain ⟨N, hN, hN18⟩ := own_NN p0
  obtain ⟨K, hK, hK19⟩ := own_KK p1
  obtain ⟨zc, hzc, hzc1⟩ := own_b1 p2
  obtain ⟨tc, htc, htc2⟩ := own_tt p2
  obtain ⟨oc, hoc, hoc1⟩ := own_b1 p3
  have e0_ : (0 : Int32).toInt = 0 := by decide
  have e1_ : (1 : Int32).toInt = 1 := by decide
  have e17_ : (17 : Int32).toInt = 17 := by decide
  have e18_ : (18 : Int32).toInt = 18 := by decide
  have e19_ : (19 : Int32).toInt = 19 := by decide
  have e20_ : (20 : Int32).toInt = 20 := by decide
  have e21_ : (21 : Int32).toInt = 21 := by decide
  have l0_ : (0 : Int64).toInt = 0 := by decide
  have m10 := own_m10 hN hN18
  have m11 := own_p1 hN hN18
  generalize ((p0 &&& (9223372036854775807 : Int64)) - ((p0 &&& (9223372036854775807 : Int64)) / (1000000000000000000 : Int64)) * (1000000000000000000 : Int64)) = n at *
  simp only [Int32.lt_iff_toInt_lt, ← Int32.toInt_inj, ← Int64.toInt_inj] at *
  refine ⟨N, K, 1, 1, oc, by omega, by omega, hK, hK19, by omega, by omega, by omega, by omega, by omega, by omega, by omega, hoc, hoc1, ?_⟩
  split <;> omega
theorem own_hl261 (p0 : Int64) (p1 p2 p3 : Int32) (hc24_217 : (18 : Int32) < ((p1 &&& (2147483647 : Int32)) % (20 : Int32))) (hc38_218 : ¬ ((17 : Int32) < ((p1 &&& (2147483647 : Int32)) % (20 : Int32)))) (hc49_238 : ¬ ((((p0 &&& (9223372036854775807 : Int64)) - ((p0 &&& (9223372036854775807 : Int64)) / (1000000000000000000 : Int64)) * (1000000000000000000 : Int64)) - (((p0 &&& (9223372036854775807 : Int64)) - ((p0 &&& (9223372036854775807 : Int64)) / (1000000000000000000 : Int64)) * (1000000000000000000 : Int64)) / (10 : Int64)) * (10 : Int64)) = (0 : Int64))) (hc65_258 : ((p1 &&& (2147483647 : Int32)) % (20 : Int32)) = (0 : Int32)) (hc91_259 : ¬ (((p1 &&& (2147483647 : Int32)) % (20 : Int32)) = (18 : Int32))) : own_H ((p0 &&& (9223372036854775807 : Int64)) - ((p0 &&& (9223372036854775807 : Int64)) / (1000000000000000000 : Int64)) * (1000000000000000000 : Int64)) ((p1 &&& (2147483647 : Int32)) % (20 : Int32)) (1 : Int32) (p3 &&& (1 : Int32)) (19 : Int32) := by
  obtain ⟨N, hN, hN18⟩ := own_NN p0
  obtain ⟨K, hK, hK19⟩ := own_KK p1
  obtain ⟨zc, hzc, hzc1⟩ := own_b1 p2
  obtain ⟨tc, htc, htc2⟩ := own_tt p2
  obtain ⟨oc, hoc, hoc1⟩ := own_b1 p3
  have e0_ : (0 : Int32).toInt = 0 := by decide
  have e1_ : (1 : Int32).toInt = 1 := by decide
  have e17_ : (17 : Int32).toInt = 17 := by decide
  have e18_ : (18 : Int32).toInt = 18 := by decide
  have e19_ : (19 : Int32).toInt = 19 := by decide
  have e20_ : (20 : Int32).toInt = 20 := by decide
  have e21_ : (21 : Int32).toInt = 21 := by decide
  have l0_ : (0 : Int64).toInt = 0 := by decide
  have m10 := own_m10 hN hN18
  have m11 := own_p1 hN hN18
  generalize ((p0 &&& (9223372036854775807 : Int64)) - ((p0 &&& (9223372036854775807 : Int64)) / (1000000000000000000 : Int64)) * (1000000000000000000 : Int64)) = n at *
  simp only [Int32.lt_iff_toInt_lt, ← Int32.toInt_inj, ← Int64.toInt_inj] at *
  refine ⟨N, K, 1, 0, oc, by omega, by omega, hK, hK19, by omega, by omega, by omega, by omega, by omega, by omega, by omega, hoc, hoc1, ?_⟩
  split <;> omega
theorem own_hl263 (p0 : Int64) (p1 p2 p3 : Int32) (hc24_217 : (18 : Int32) < ((p1 &&& (2147483647 : Int32)) % (20 : Int32))) (hc38_218 : ¬ ((17 : Int32) < ((p1 &&& (2147483647 : Int32)) % (20 : Int32)))) (hc49_238 : ¬ ((((p0 &&& (9223372036854775807 : Int64)) - ((p0 &&& (9223372036854775807 : Int64)) / (1000000000000000000 : Int64)) * (1000000000000000000 : Int64)) - (((p0 &&& (9223372036854775807 : Int64)) - ((p0 &&& (9223372036854775807 : Int64)) / (1000000000000000000 : Int64)) * (1000000000000000000 : Int64)) / (10 : Int64)) * (10 : Int64)) = (0 : Int64))) (hc65_258 : ¬ (((p1 &&& (2147483647 : Int32)) % (20 : Int32)) = (0 : Int32))) (hc91_262 : ((p1 &&& (2147483647 : Int32)) % (20 : Int32)) = (18 : Int32)) : own_H ((p0 &&& (9223372036854775807 : Int64)) - ((p0 &&& (9223372036854775807 : Int64)) / (1000000000000000000 : Int64)) * (1000000000000000000 : Int64)) ((p1 &&& (2147483647 : Int32)) % (20 : Int32)) (p2 &&& (1 : Int32)) (p3 &&& (1 : Int32)) ((((p2 &&& (1 : Int32)) + (18 : Int32)) + (0 : Int32)) + (1 : Int32)) := by
  obtain ⟨N, hN, hN18⟩ := own_NN p0
  obtain ⟨K, hK, hK19⟩ := own_KK p1
  obtain ⟨zc, hzc, hzc1⟩ := own_b1 p2
  obtain ⟨tc, htc, htc2⟩ := own_tt p2
  obtain ⟨oc, hoc, hoc1⟩ := own_b1 p3
  have e0_ : (0 : Int32).toInt = 0 := by decide
  have e1_ : (1 : Int32).toInt = 1 := by decide
  have e17_ : (17 : Int32).toInt = 17 := by decide
  have e18_ : (18 : Int32).toInt = 18 := by decide
  have e19_ : (19 : Int32).toInt = 19 := by decide
  have e20_ : (20 : Int32).toInt = 20 := by decide
  have e21_ : (21 : Int32).toInt = 21 := by decide
  have l0_ : (0 : Int64).toInt = 0 := by decide
  have m10 := own_m10 hN hN18
  have m11 := own_p1 hN hN18
  generalize ((p0 &&& (9223372036854775807 : Int64)) - ((p0 &&& (9223372036854775807 : Int64)) / (1000000000000000000 : Int64)) * (1000000000000000000 : Int64)) = n at *
  have r264 := c_iadd (p2 &&& (1 : Int32)) (18 : Int32)
  have r265 := rng32 ((p2 &&& (1 : Int32)) + (18 : Int32))
  have r266 := c_iadd ((p2 &&& (1 : Int32)) + (18 : Int32)) (0 : Int32)
  have r267 := rng32 (((p2 &&& (1 : Int32)) + (18 : Int32)) + (0 : Int32))
  have r268 := c_iadd (((p2 &&& (1 : Int32)) + (18 : Int32)) + (0 : Int32)) (1 : Int32)
  have r269 := rng32 ((((p2 &&& (1 : Int32)) + (18 : Int32)) + (0 : Int32)) + (1 : Int32))
  simp only [Int32.lt_iff_toInt_lt, ← Int32.toInt_inj, ← Int64.toInt_inj] at *
  refine ⟨N, K, zc, 1, oc, by omega, by omega, hK, hK19, by omega, by omega, by omega, by omega, by omega, by omega, by omega, hoc, hoc1, ?_⟩
  split <;> omega
theorem own_hl270 (p0 : Int64) (p1 p2 p3 : Int32) (hc24_217 : (18 : Int32) < ((p1 &&& (2147483647 : Int32)) % (20 : Int32))) (hc38_218 : ¬ ((17 : Int32) < ((p1 &&& (2147483647 : Int32)) % (20 : Int32)))) (hc49_238 : ¬ ((((p0 &&& (9223372036854775807 : Int64)) - ((p0 &&& (9223372036854775807 : Int64)) / (1000000000000000000 : Int64)) * (1000000000000000000 : Int64)) - (((p0 &&& (9223372036854775807 : Int64)) - ((p0 &&& (9223372036854775807 : Int64)) / (1000000000000000000 : Int64)) * (1000000000000000000 : Int64)) / (10 : Int64)) * (10 : Int64)) = (0 : Int64))) (hc65_258 : ¬ (((p1 &&& (2147483647 : Int32)) % (20 : Int32)) = (0 : Int32))) (hc91_262 : ¬ (((p1 &&& (2147483647 : Int32)) % (20 : Int32)) = (18 : Int32))) : own_H ((p0 &&& (9223372036854775807 : Int64)) - ((p0 &&& (9223372036854775807 : Int64)) / (1000000000000000000 : Int64)) * (1000000000000000000 : Int64)) ((p1 &&& (2147483647 : Int32)) % (20 : Int32)) (p2 &&& (1 : Int32)) (p3 &&& (1 : Int32)) ((((p2 &&& (1 : Int32)) + (18 : Int32)) + (0 : Int32)) + (0 : Int32)) := by
  obtain ⟨N, hN, hN18⟩ := own_NN p0
  obtain ⟨K, hK, hK19⟩ := own_KK p1
  obtain ⟨zc, hzc, hzc1⟩ := own_b1 p2
  obtain ⟨tc, htc, htc2⟩ := own_tt p2
  obtain ⟨oc, hoc, hoc1⟩ := own_b1 p3
  have e0_ : (0 : Int32).toInt = 0 := by decide
  have e1_ : (1 : Int32).toInt = 1 := by decide
  have e17_ : (17 : Int32).toInt = 17 := by decide
  have e18_ : (18 : Int32).toInt = 18 := by decide
  have e19_ : (19 : Int32).toInt = 19 := by decide
  have e20_ : (20 : Int32).toInt = 20 := by decide
  have e21_ : (21 : Int32).toInt = 21 := by decide
  have l0_ : (0 : Int64).toInt = 0 := by decide
  have m10 := own_m10 hN hN18
  have m11 := own_p1 hN hN18
  generalize ((p0 &&& (9223372036854775807 : Int64)) - ((p0 &&& (9223372036854775807 : Int64)) / (1000000000000000000 : Int64)) * (1000000000000000000 : Int64)) = n at *
  have r271 := c_iadd (p2 &&& (1 : Int32)) (18 : Int32)
  have r272 := rng32 ((p2 &&& (1 : Int32)) + (18 : Int32))
  have r273 := c_iadd ((p2 &&& (1 : Int32)) + (18 : Int32)) (0 : Int32)
  have r274 := rng32 (((p2 &&& (1 : Int32)) + (18 : Int32)) + (0 : Int32))
  have r275 := c_iadd (((p2 &&& (1 : Int32)) + (18 : Int32)) + (0 : Int32)) (0 : Int32)
  have r276 := rng32 ((((p2 &&& (1 : Int32)) + (18 : Int32)) + (0 : Int32)) + (0 : Int32))
  simp only [Int32.lt_iff_toInt_lt, ← Int32.toInt_inj, ← Int64.toInt_inj] at *
  refine ⟨N, K, zc, 0, oc, by omega, by omega, hK, hK19, by omega, by omega, by omega, by omega, by omega, by omega, by omega, hoc, hoc1, ?_⟩
  split <;> omega
theorem own_hl281 (p0 : Int64) (p1 p2 p3 : Int32) (hc24_217 : ¬ ((18 : Int32) < ((p1 &&& (2147483647 : Int32)) % (20 : Int32)))) (hc38_277 : (17 : Int32) < ((p1 &&& (2147483647 : Int32)) % (20 : Int32))) (hc65_278 : ((p1 &&& (2147483647 : Int32)) % (20 : Int32)) = (0 : Int32)) (hc91_279 : ((p1 &&& (2147483647 : Int32)) % (20 : Int32)) = (18 : Int32)) (hc96_280 : (((p2.toUInt32 >>> ((1 : Int32) &&& 31).toUInt32).toInt32) % (3 : Int32)) = (0 : Int32)) : own_H ((p0 &&& (9223372036854775807 : Int64)) - ((p0 &&& (9223372036854775807 : Int64)) / (1000000000000000000 : Int64)) * (1000000000000000000 : Int64)) ((p1 &&& (2147483647 : Int32)) % (20 : Int32)) (1 : Int32) (p3 &&& (1 : Int32)) (21 : Int32) := by
  obtain ⟨N, hN, hN18⟩ := own_NN p0
  obtain ⟨K, hK, hK19⟩ := own_KK p1
  obtain ⟨zc, hzc, hzc1⟩ := own_b1 p2
  obtain ⟨tc, htc, htc2⟩ := own_tt p2
  obtain ⟨oc, hoc, hoc1⟩ := own_b1 p3
  have e0_ : (0 : Int32).toInt = 0 := by decide
  have e1_ : (1 : Int32).toInt = 1 := by decide
  have e17_ : (17 : Int32).toInt = 17 := by decide
  have e18_ : (18 : Int32).toInt = 18 := by decide
  have e19_ : (19 : Int32).toInt = 19 := by decide
  have e20_ : (20 : Int32).toInt = 20 := by decide
  have e21_ : (21 : Int32).toInt = 21 := by decide
  have l0_ : (0 : Int64).toInt = 0 := by decide
  have m10 := own_m10 hN hN18
  have m11 := own_p1 hN hN18
  generalize ((p0 &&& (9223372036854775807 : Int64)) - ((p0 &&& (9223372036854775807 : Int64)) / (1000000000000000000 : Int64)) * (1000000000000000000 : Int64)) = n at *
  simp only [Int32.lt_iff_toInt_lt, ← Int32.toInt_inj, ← Int64.toInt_inj] at *
  refine ⟨N, K, 1, 1, oc, by omega, by omega, hK, hK19, by omega, by omega, by omega, by omega, by omega, by omega, by omega, hoc, hoc1, ?_⟩
  split <;> omega
theorem own_hl282 (p0 : Int64) (p1 p2 p3 : Int32) (hc24_217 : ¬ ((18 : Int32) < ((p1 &&& (2147483647 : Int32)) % (20 : Int32)))) (hc38_277 : (17 : Int32) < ((p1 &&& (2147483647 : Int32)) % (20 : Int32))) (hc65_278 : ((p1 &&& (2147483647 : Int32)) % (20 : Int32)) = (0 : Int32)) (hc91_279 : ((p1 &&& (2147483647 : Int32)) % (20 : Int32)) = (18 : Int32)) (hc96_280 : ¬ ((((p2.toUInt32 >>> ((1 : Int32) &&& 31).toUInt32).toInt32) % (3 : Int32)) = (0 : Int32))) : own_H ((p0 &&& (9223372036854775807 : Int64)) - ((p0 &&& (9223372036854775807 : Int64)) / (1000000000000000000 : Int64)) * (1000000000000000000 : Int64)) ((p1 &&& (2147483647 : Int32)) % (20 : Int32)) (1 : Int32) (p3 &&& (1 : Int32)) ((20 : Int32) + (((p2.toUInt32 >>> ((1 : Int32) &&& 31).toUInt32).toInt32) % (3 : Int32))) := by
  obtain ⟨N, hN, hN18⟩ := own_NN p0
  obtain ⟨K, hK, hK19⟩ := own_KK p1
  obtain ⟨zc, hzc, hzc1⟩ := own_b1 p2
  obtain ⟨tc, htc, htc2⟩ := own_tt p2
  obtain ⟨oc, hoc, hoc1⟩ := own_b1 p3
  have e0_ : (0 : Int32).toInt = 0 := by decide
  have e1_ : (1 : Int32).toInt = 1 := by decide
  have e17_ : (17 : Int32).toInt = 17 := by decide
  have e18_ : (18 : Int32).toInt = 18 := by decide
  have e19_ : (19 : Int32).toInt = 19 := by decide
  have e20_ : (20 : Int32).toInt = 20 := by decide
  have e21_ : (21 : Int32).toInt = 21 := by decide
  have l0_ : (0 : Int64).toInt = 0 := by decide
  have m10 := own_m10 hN hN18
  have m11 := own_p1 hN hN18
  generalize ((p0 &&& (9223372036854775807 : Int64)) - ((p0 &&& (9223372036854775807 : Int64)) / (1000000000000000000 : Int64)) * (1000000000000000000 : Int64)) = n at *
  have r283 := c_iadd (20 : Int32) (((p2.toUInt32 >>> ((1 : Int32) &&& 31).toUInt32).toInt32) % (3 : Int32))
  have r284 := rng32 ((20 : Int32) + (((p2.toUInt32 >>> ((1 : Int32) &&& 31).toUInt32).toInt32) % (3 : Int32)))
  simp only [Int32.lt_iff_toInt_lt, ← Int32.toInt_inj, ← Int64.toInt_inj] at *
  refine ⟨N, K, 1, tc, oc, by omega, by omega, hK, hK19, by omega, by omega, by omega, by omega, by omega, by omega, by omega, hoc, hoc1, ?_⟩
  split <;> omega
theorem own_hl285 (p0 : Int64) (p1 p2 p3 : Int32) (hc24_217 : ¬ ((18 : Int32) < ((p1 &&& (2147483647 : Int32)) % (20 : Int32)))) (hc38_277 : (17 : Int32) < ((p1 &&& (2147483647 : Int32)) % (20 : Int32))) (hc65_278 : ((p1 &&& (2147483647 : Int32)) % (20 : Int32)) = (0 : Int32)) (hc91_279 : ¬ (((p1 &&& (2147483647 : Int32)) % (20 : Int32)) = (18 : Int32))) : own_H ((p0 &&& (9223372036854775807 : Int64)) - ((p0 &&& (9223372036854775807 : Int64)) / (1000000000000000000 : Int64)) * (1000000000000000000 : Int64)) ((p1 &&& (2147483647 : Int32)) % (20 : Int32)) (1 : Int32) (p3 &&& (1 : Int32)) ((20 : Int32) + (((p2.toUInt32 >>> ((1 : Int32) &&& 31).toUInt32).toInt32) % (3 : Int32))) := by
  obtain ⟨N, hN, hN18⟩ := own_NN p0
  obtain ⟨K, hK, hK19⟩ := own_KK p1
  obtain ⟨zc, hzc, hzc1⟩ := own_b1 p2
  obtain ⟨tc, htc, htc2⟩ := own_tt p2
  obtain ⟨oc, hoc, hoc1⟩ := own_b1 p3
  have e0_ : (0 : Int32).toInt = 0 := by decide
  have e1_ : (1 : Int32).toInt = 1 := by decide
  have e17_ : (17 : Int32).toInt = 17 := by decide
  have e18_ : (18 : Int32).toInt = 18 := by decide
  have e19_ : (19 : Int32).toInt = 19 := by decide
  have e20_ : (20 : Int32).toInt = 20 := by decide
  have e21_ : (21 : Int32).toInt = 21 := by decide
  have l0_ : (0 : Int64).toInt = 0 := by decide
  have m10 := own_m10 hN hN18
  have m11 := own_p1 hN hN18
  generalize ((p0 &&& (9223372036854775807 : Int64)) - ((p0 &&& (9223372036854775807 : Int64)) / (1000000000000000000 : Int64)) * (1000000000000000000 : Int64)) = n at *
  have r286 := c_iadd (20 : Int32) (((p2.toUInt32 >>> ((1 : Int32) &&& 31).toUInt32).toInt32) % (3 : Int32))
  have r287 := rng32 ((20 : Int32) + (((p2.toUInt32 >>> ((1 : Int32) &&& 31).toUInt32).toInt32) % (3 : Int32)))
  simp only [Int32.lt_iff_toInt_lt, ← Int32.toInt_inj, ← Int64.toInt_inj] at *
  refine ⟨N, K, 1, tc, oc, by omega, by omega, hK, hK19, by omega, by omega, by omega, by omega, by omega, by omega, by omega, hoc, hoc1, ?_⟩
  split <;> omega
theorem own_hl290 (p0 : Int64) (p1 p2 p3 : Int32) (hc24_217 : ¬ ((18 : Int32) < ((p1 &&& (2147483647 : Int32)) % (20 : Int32)))) (hc38_277 : (17 : Int32) < ((p1 &&& (2147483647 : Int32)) % (20 : Int32))) (hc65_278 : ¬ (((p1 &&& (2147483647 : Int32)) % (20 : Int32)) = (0 : Int32))) (hc91_288 : ((p1 &&& (2147483647 : Int32)) % (20 : Int32)) = (18 : Int32)) (hc96_289 : (((p2.toUInt32 >>> ((1 : Int32) &&& 31).toUInt32).toInt32) % (3 : Int32)) = (0 : Int32)) : own_H ((p0 &&& (9223372036854775807 : Int64)) - ((p0 &&& (9223372036854775807 : Int64)) / (1000000000000000000 : Int64)) * (1000000000000000000 : Int64)) ((p1 &&& (2147483647 : Int32)) % (20 : Int32)) (p2 &&& (1 : Int32)) (p3 &&& (1 : Int32)) ((((p2 &&& (1 : Int32)) + (18 : Int32)) + (1 : Int32)) + (1 : Int32)) := by
  obtain ⟨N, hN, hN18⟩ := own_NN p0
  obtain ⟨K, hK, hK19⟩ := own_KK p1
  obtain ⟨zc, hzc, hzc1⟩ := own_b1 p2
  obtain ⟨tc, htc, htc2⟩ := own_tt p2
  obtain ⟨oc, hoc, hoc1⟩ := own_b1 p3
  have e0_ : (0 : Int32).toInt = 0 := by decide
  have e1_ : (1 : Int32).toInt = 1 := by decide
  have e17_ : (17 : Int32).toInt = 17 := by decide
  have e18_ : (18 : Int32).toInt = 18 := by decide
  have e19_ : (19 : Int32).toInt = 19 := by decide
  have e20_ : (20 : Int32).toInt = 20 := by decide
  have e21_ : (21 : Int32).toInt = 21 := by decide
  have l0_ : (0 : Int64).toInt = 0 := by decide
  have m10 := own_m10 hN hN18
  have m11 := own_p1 hN hN18
  generalize ((p0 &&& (9223372036854775807 : Int64)) - ((p0 &&& (9223372036854775807 : Int64)) / (1000000000000000000 : Int64)) * (1000000000000000000 : Int64)) = n at *
  have r291 := c_iadd (p2 &&& (1 : Int32)) (18 : Int32)
  have r292 := rng32 ((p2 &&& (1 : Int32)) + (18 : Int32))
  have r293 := c_iadd ((p2 &&& (1 : Int32)) + (18 : Int32)) (1 : Int32)
  have r294 := rng32 (((p2 &&& (1 : Int32)) + (18 : Int32)) + (1 : Int32))
  have r295 := c_iadd (((p2 &&& (1 : Int32)) + (18 : Int32)) + (1 : Int32)) (1 : Int32)
  have r296 := rng32 ((((p2 &&& (1 : Int32)) + (18 : Int32)) + (1 : Int32)) + (1 : Int32))
  simp only [Int32.lt_iff_toInt_lt, ← Int32.toInt_inj, ← Int64.toInt_inj] at *
  refine ⟨N, K, zc, 1, oc, by omega, by omega, hK, hK19, by omega, by omega, by omega, by omega, by omega, by omega, by omega, hoc, hoc1, ?_⟩
  split <;> omega
theorem own_hl297 (p0 : Int64) (p1 p2 p3 : Int32) (hc24_217 : ¬ ((18 : Int32) < ((p1 &&& (2147483647 : Int32)) % (20 : Int32)))) (hc38_277 : (17 : Int32) < ((p1 &&& (2147483647 : Int32)) % (20 : Int32))) (hc65_278 : ¬ (((p1 &&& (2147483647 : Int32)) % (20 : Int32)) = (0 : Int32))) (hc91_288 : ((p1 &&& (2147483647 : Int32)) % (20 : Int32)) = (18 : Int32)) (hc96_289 : ¬ ((((p2.toUInt32 >>> ((1 : Int32) &&& 31).toUInt32).toInt32) % (3 : Int32)) = (0 : Int32))) : own_H ((p0 &&& (9223372036854775807 : Int64)) - ((p0 &&& (9223372036854775807 : Int64)) / (1000000000000000000 : Int64)) * (1000000000000000000 : Int64)) ((p1 &&& (2147483647 : Int32)) % (20 : Int32)) (p2 &&& (1 : Int32)) (p3 &&& (1 : Int32)) ((((p2 &&& (1 : Int32)) + (18 : Int32)) + (1 : Int32)) + (((p2.toUInt32 >>> ((1 : Int32) &&& 31).toUInt32).toInt32) % (3 : Int32))) := by
  obtain ⟨N, hN, hN18⟩ := own_NN p0
  obtain ⟨K, hK, hK19⟩ := own_KK p1
  obtain ⟨zc, hzc, hzc1⟩ := own_b1 p2
  obtain ⟨tc, htc, htc2⟩ := own_tt p2
  obtain ⟨oc, hoc, hoc1⟩ := own_b1 p3
  have e0_ : (0 : Int32).toInt = 0 := by decide
  have e1_ : (1 : Int32).toInt = 1 := by decide
  have e17_ : (17 : Int32).toInt = 17 := by decide
  have e18_ : (18 : Int32).toInt = 18 := by decide
  have e19_ : (19 : Int32).toInt = 19 := by decide
  have e20_ : (20 : Int32).toInt = 20 := by decide
  have e21_ : (21 : Int32).toInt = 21 := by decide
  have l0_ : (0 : Int64).toInt = 0 := by decide
  have m10 := own_m10 hN hN18
  have m11 := own_p1 hN hN18
  generalize ((p0 &&& (9223372036854775807 : Int64)) - ((p0 &&& (9223372036854775807 : Int64)) / (1000000000000000000 : Int64)) * (1000000000000000000 : Int64)) = n at *
  have r298 := c_iadd (p2 &&& (1 : Int32)) (18 : Int32)
  have r299 := rng32 ((p2 &&& (1 : Int32)) + (18 : Int32))
  have r300 := c_iadd ((p2 &&& (1 : Int32)) + (18 : Int32)) (1 : Int32)
  have r301 := rng32 (((p2 &&& (1 : Int32)) + (18 : Int32)) + (1 : Int32))
  have r302 := c_iadd (((p2 &&& (1 : Int32)) + (18 : Int32)) + (1 : Int32)) (((p2.toUInt32 >>> ((1 : Int32) &&& 31).toUInt32).toInt32) % (3 : Int32))
  have r303 := rng32 ((((p2 &&& (1 : Int32)) + (18 : Int32)) + (1 : Int32)) + (((p2.toUInt32 >>> ((1 : Int32) &&& 31).toUInt32).toInt32) % (3 : Int32)))
  simp only [Int32.lt_iff_toInt_lt, ← Int32.toInt_inj, ← Int64.toInt_inj] at *
  refine ⟨N, K, zc, tc, oc, by omega, by omega, hK, hK19, by omega, by omega, by omega, by omega, by omega, by omega, by omega, hoc, hoc1, ?_⟩
  split <;> omega
theorem own_hl304 (p0 : Int64) (p1 p2 p3 : Int32) (hc24_217 : ¬ ((18 : Int32) < ((p1 &&& (2147483647 : Int32)) % (20 : Int32)))) (hc38_277 : (17 : Int32) < ((p1 &&& (2147483647 : Int32)) % (20 : Int32))) (hc65_278 : ¬ (((p1 &&& (2147483647 : Int32)) % (20 : Int32)) = (0 : Int32))) (hc91_288 : ¬ (((p1 &&& (2147483647 : Int32)) % (20 : Int32)) = (18 : Int32))) : own_H ((p0 &&& (9223372036854775807 : Int64)) - ((p0 &&& (9223372036854775807 : Int64)) / (1000000000000000000 : Int64)) * (1000000000000000000 : Int64)) ((p1 &&& (2147483647 : Int32)) % (20 : Int32)) (p2 &&& (1 : Int32)) (p3 &&& (1 : Int32)) ((((p2 &&& (1 : Int32)) + (18 : Int32)) + (1 : Int32)) + (((p2.toUInt32 >>> ((1 : Int32) &&& 31).toUInt32).toInt32) % (3 : Int32))) := by
  obtain ⟨N, hN, hN18⟩ := own_NN p0
  obtain ⟨K, hK, hK19⟩ := own_KK p1
  obtain ⟨zc, hzc, hzc1⟩ := own_b1 p2
  obtain ⟨tc, htc, htc2⟩ := own_tt p2
  obtain ⟨oc, hoc, hoc1⟩ := own_b1 p3
  have e0_ : (0 : Int32).toInt = 0 := by decide
  have e1_ : (1 : Int32).toInt = 1 := by decide
  have e17_ : (17 : Int32).toInt = 17 := by decide
  have e18_ : (18 : Int32).toInt = 18 := by decide
  have e19_ : (19 : Int32).toInt = 19 := by decide
  have e20_ : (20 : Int32).toInt = 20 := by decide
  have e21_ : (21 : Int32).toInt = 21 := by decide
  have l0_ : (0 : Int64).toInt = 0 := by decide
  have m10 := own_m10 hN hN18
  have m11 := own_p1 hN hN18
  generalize ((p0 &&& (9223372036854775807 : Int64)) - ((p0 &&& (9223372036854775807 : Int64)) / (1000000000000000000 : Int64)) * (1000000000000000000 : Int64)) = n at *
  have r305 := c_iadd (p2 &&& (1 : Int32)) (18 : Int32)
  have r306 := rng32 ((p2 &&& (1 : Int32)) + (18 : Int32))
  have r307 := c_iadd ((p2 &&& (1 : Int32)) + (18 : Int32)) (1 : Int32)
  have r308 := rng32 (((p2 &&& (1 : Int32)) + (18 : Int32)) + (1 : Int32))
  have r309 := c_iadd (((p2 &&& (1 : Int32)) + (18 : Int32)) + (1 : Int32)) (((p2.toUInt32 >>> ((1 : Int32) &&& 31).toUInt32).toInt32) % (3 : Int32))
  have r310 := rng32 ((((p2 &&& (1 : Int32)) + (18 : Int32)) + (1 : Int32)) + (((p2.toUInt32 >>> ((1 : Int32) &&& 31).toUInt32).toInt32) % (3 : Int32)))
  simp only [Int32.lt_iff_toInt_lt, ← Int32.toInt_inj, ← Int64.toInt_inj] at *
  refine ⟨N, K, zc, tc, oc, by omega, by omega, hK, hK19, by omega, by omega, by omega, by omega, by omega, by omega, by omega, hoc, hoc1, ?_⟩
  split <;> omega
theorem own_hl315 (p0 : Int64) (p1 p2 p3 : Int32) (hc24_217 : ¬ ((18 : Int32) < ((p1 &&& (2147483647 : Int32)) % (20 : Int32)))) (hc38_277 : ¬ ((17 : Int32) < ((p1 &&& (2147483647 : Int32)) % (20 : Int32)))) (hc49_311 : (((p0 &&& (9223372036854775807 : Int64)) - ((p0 &&& (9223372036854775807 : Int64)) / (1000000000000000000 : Int64)) * (1000000000000000000 : Int64)) - (((p0 &&& (9223372036854775807 : Int64)) - ((p0 &&& (9223372036854775807 : Int64)) / (1000000000000000000 : Int64)) * (1000000000000000000 : Int64)) / (10 : Int64)) * (10 : Int64)) = (0 : Int64)) (hc65_312 : ((p1 &&& (2147483647 : Int32)) % (20 : Int32)) = (0 : Int32)) (hc91_313 : ((p1 &&& (2147483647 : Int32)) % (20 : Int32)) = (18 : Int32)) (hc96_314 : (((p2.toUInt32 >>> ((1 : Int32) &&& 31).toUInt32).toInt32) % (3 : Int32)) = (0 : Int32)) : own_H (((p0 &&& (9223372036854775807 : Int64)) - ((p0 &&& (9223372036854775807 : Int64)) / (1000000000000000000 : Int64)) * (1000000000000000000 : Int64)) + (1 : Int64)) ((p1 &&& (2147483647 : Int32)) % (20 : Int32)) (1 : Int32) (p3 &&& (1 : Int32)) (21 : Int32) := by
  obtain ⟨N, hN, hN18⟩ := own_NN p0
  obtain ⟨K, hK, hK19⟩ := own_KK p1
  obtain ⟨zc, hzc, hzc1⟩ := own_b1 p2
  obtain ⟨tc, htc, htc2⟩ := own_tt p2
  obtain ⟨oc, hoc, hoc1⟩ := own_b1 p3
  have e0_ : (0 : Int32).toInt = 0 := by decide
  have e1_ : (1 : Int32).toInt = 1 := by decide
  have e17_ : (17 : Int32).toInt = 17 := by decide
  have e18_ : (18 : Int32).toInt = 18 := by decide
  have e19_ : (19 : Int32).toInt = 19 := by decide
  have e20_ : (20 : Int32).toInt = 20 := by decide
  have e21_ : (21 : Int32).toInt = 21 := by decide
  have l0_ : (0 : Int64).toInt = 0 := by decide
  have m10 := own_m10 hN hN18
  have m11 := own_p1 hN hN18
  generalize ((p0 &&& (9223372036854775807 : Int64)) - ((p0 &&& (9223372036854775807 : Int64)) / (1000000000000000000 : Int64)) * (1000000000000000000 : Int64)) = n at *
  simp only [Int32.lt_iff_toInt_lt, ← Int32.toInt_inj, ← Int64.toInt_inj] at *
  refine ⟨N + 1, K, 1, 1, oc, by omega, by omega, hK, hK19, by omega, by omega, by omega, by omega, by omega, by omega, by omega, hoc, hoc1, ?_⟩
  split <;> omega
theorem own_hl316 (p0 : Int64) (p1 p2 p3 : Int32) (hc24_217 : ¬ ((18 : Int32) < ((p1 &&& (2147483647 : Int32)) % (20 : Int32)))) (hc38_277 : ¬ ((17 : Int32) < ((p1 &&& (2147483647 : Int32)) % (20 : Int32)))) (hc49_311 : (((p0 &&& (9223372036854775807 : Int64)) - ((p0 &&& (9223372036854775807 : Int64)) / (1000000000000000000 : Int64)) * (1000000000000000000 : Int64)) - (((p0 &&& (9223372036854775807 : Int64)) - ((p0 &&& (9223372036854775807 : Int64)) / (1000000000000000000 : Int64)) * (1000000000000000000 : Int64)) / (10 : Int64)) * (10 : Int64)) = (0 : Int64)) (hc65_312 : ((p1 &&& (2147483647 : Int32)) % (20 : Int32)) = (0 : Int32)) (hc91_313 : ((p1 &&& (2147483647 : Int32)) % (20 : Int32)) = (18 : Int32)) (hc96_314 : ¬ ((((p2.toUInt32 >>> ((1 : Int32) &&& 31).toUInt32).toInt32) % (3 : Int32)) = (0 : Int32))) : own_H (((p0 &&& (9223372036854775807 : Int64)) - ((p0 &&& (9223372036854775807 : Int64)) / (1000000000000000000 : Int64)) * (1000000000000000000 : Int64)) + (1 : Int64)) ((p1 &&& (2147483647 : Int32)) % (20 : Int32)) (1 : Int32) (p3 &&& (1 : Int32)) ((20 : Int32) + (((p2.toUInt32 >>> ((1 : Int32) &&& 31).toUInt32).toInt32) % (3 : Int32))) := by
  obtain ⟨N, hN, hN18⟩ := own_NN p0
  obtain ⟨K, hK, hK19⟩ := own_KK p1
  obtain ⟨zc, hzc, hzc1⟩ := own_b1 p2
  obtain ⟨tc, htc, htc2⟩ := own_tt p2
  obtain ⟨oc, hoc, hoc1⟩ := own_b1 p3
  have e0_ : (0 : Int32).toInt = 0 := by decide
  have e1_ : (1 : Int32).toInt = 1 := by decide
  have e17_ : (17 : Int32).toInt = 17 := by decide
  have e18_ : (18 : Int32).toInt = 18 := by decide
  have e19_ : (19 : Int32).toInt = 19 := by decide
  have e20_ : (20 : Int32).toInt = 20 := by decide
  have e21_ : (21 : Int32).toInt = 21 := by decide
  have l0_ : (0 : Int64).toInt = 0 := by decide
  have m10 := own_m10 hN hN18
  have m11 := own_p1 hN hN18
  generalize ((p0 &&& (9223372036854775807 : Int64)) - ((p0 &&& (9223372036854775807 : Int64)) / (1000000000000000000 : Int64)) * (1000000000000000000 : Int64)) = n at *
  have r317 := c_iadd (20 : Int32) (((p2.toUInt32 >>> ((1 : Int32) &&& 31).toUInt32).toInt32) % (3 : Int32))
  have r318 := rng32 ((20 : Int32) + (((p2.toUInt32 >>> ((1 : Int32) &&& 31).toUInt32).toInt32) % (3 : Int32)))
  simp only [Int32.lt_iff_toInt_lt, ← Int32.toInt_inj, ← Int64.toInt_inj] at *
  refine ⟨N + 1, K, 1, tc, oc, by omega, by omega, hK, hK19, by omega, by omega, by omega, by omega, by omega, by omega, by omega, hoc, hoc1, ?_⟩
  split <;> omega
theorem own_hl319 (p0 : Int64) (p1 p2 p3 : Int32) (hc24_217 : ¬ ((18 : Int32) < ((p1 &&& (2147483647 : Int32)) % (20 : Int32)))) (hc38_277 : ¬ ((17 : Int32) < ((p1 &&& (2147483647 : Int32)) % (20 : Int32)))) (hc49_311 : (((p0 &&& (9223372036854775807 : Int64)) - ((p0 &&& (9223372036854775807 : Int64)) / (1000000000000000000 : Int64)) * (1000000000000000000 : Int64)) - (((p0 &&& (9223372036854775807 : Int64)) - ((p0 &&& (9223372036854775807 : Int64)) / (1000000000000000000 : Int64)) * (1000000000000000000 : Int64)) / (10 : Int64)) * (10 : Int64)) = (0 : Int64)) (hc65_312 : ((p1 &&& (2147483647 : Int32)) % (20 : Int32)) = (0 : Int32)) (hc91_313 : ¬ (((p1 &&& (2147483647 : Int32)) % (20 : Int32)) = (18 : Int32))) : own_H (((p0 &&& (9223372036854775807 : Int64)) - ((p0 &&& (9223372036854775807 : Int64)) / (1000000000000000000 : Int64)) * (1000000000000000000 : Int64)) + (1 : Int64)) ((p1 &&& (2147483647 : Int32)) % (20 : Int32)) (1 : Int32) (p3 &&& (1 : Int32)) ((20 : Int32) + (((p2.toUInt32 >>> ((1 : Int32) &&& 31).toUInt32).toInt32) % (3 : Int32))) := by
  obtain ⟨N, hN, hN18⟩ := own_NN p0
  obtain ⟨K, hK, hK19⟩ := own_KK p1
  obtain ⟨zc, hzc, hzc1⟩ := own_b1 p2
  obtain ⟨tc, htc, htc2⟩ := own_tt p2
  obtain ⟨oc, hoc, hoc1⟩ := own_b1 p3
  have e0_ : (0 : Int32).toInt = 0 := by decide
  have e1_ : (1 : Int32).toInt = 1 := by decide
  have e17_ : (17 : Int32).toInt = 17 := by decide
  have e18_ : (18 : Int32).toInt = 18 := by decide
  have e19_ : (19 : Int32).toInt = 19 := by decide
  have e20_ : (20 : Int32).toInt = 20 := by decide
  have e21_ : (21 : Int32).toInt = 21 := by decide
  have l0_ : (0 : Int64).toInt = 0 := by decide
  have m10 := own_m10 hN hN18
  have m11 := own_p1 hN hN18
  generalize ((p0 &&& (9223372036854775807 : Int64)) - ((p0 &&& (9223372036854775807 : Int64)) / (1000000000000000000 : Int64)) * (1000000000000000000 : Int64)) = n at *
  have r320 := c_iadd (20 : Int32) (((p2.toUInt32 >>> ((1 : Int32) &&& 31).toUInt32).toInt32) % (3 : Int32))
  have r321 := rng32 ((20 : Int32) + (((p2.toUInt32 >>> ((1 : Int32) &&& 31).toUInt32).toInt32) % (3 : Int32)))
  simp only [Int32.lt_iff_toInt_lt, ← Int32.toInt_inj, ← Int64.toInt_inj] at *
  refine ⟨N + 1, K, 1, tc, oc, by omega, by omega, hK, hK19, by omega, by omega, by omega, by omega, by omega, by omega, by omega, hoc, hoc1, ?_⟩
  split <;> omega
theorem own_hl324 (p0 : Int64) (p1 p2 p3 : Int32) (hc24_217 : ¬ ((18 : Int32) < ((p1 &&& (2147483647 : Int32)) % (20 : Int32)))) (hc38_277 : ¬ ((17 : Int32) < ((p1 &&& (2147483647 : Int32)) % (20 : Int32)))) (hc49_311 : (((p0 &&& (9223372036854775807 : Int64)) - ((p0 &&& (9223372036854775807 : Int64)) / (1000000000000000000 : Int64)) * (1000000000000000000 : Int64)) - (((p0 &&& (9223372036854775807 : Int64)) - ((p0 &&& (9223372036854775807 : Int64)) / (1000000000000000000 : Int64)) * (1000000000000000000 : Int64)) / (10 : Int64)) * (10 : Int64)) = (0 : Int64)) (hc65_312 : ¬ (((p1 &&& (2147483647 : Int32)) % (20 : Int32)) = (0 : Int32))) (hc91_322 : ((p1 &&& (2147483647 : Int32)) % (20 : Int32)) = (18 : Int32)) (hc96_323 : (((p2.toUInt32 >>> ((1 : Int32) &&& 31).toUInt32).toInt32) % (3 : Int32)) = (0 : Int32)) : own_H (((p0 &&& (9223372036854775807 : Int64)) - ((p0 &&& (9223372036854775807 : Int64)) / (1000000000000000000 : Int64)) * (1000000000000000000 : Int64)) + (1 : Int64)) ((p1 &&& (2147483647 : Int32)) % (20 : Int32)) (p2 &&& (1 : Int32)) (p3 &&& (1 : Int32)) ((((p2 &&& (1 : Int32)) + (18 : Int32)) + (1 : Int32)) + (1 : Int32)) := by
  obtain ⟨N, hN, hN18⟩ := own_NN p0
  obtain ⟨K, hK, hK19⟩ := own_KK p1
  obtain ⟨zc, hzc, hzc1⟩ := own_b1 p2
  obtain ⟨tc, htc, htc2⟩ := own_tt p2
  obtain ⟨oc, hoc, hoc1⟩ := own_b1 p3
  have e0_ : (0 : Int32).toInt = 0 := by decide
  have e1_ : (1 : Int32).toInt = 1 := by decide
  have e17_ : (17 : Int32).toInt = 17 := by decide
  have e18_ : (18 : Int32).toInt = 18 := by decide
  have e19_ : (19 : Int32).toInt = 19 := by decide
  have e20_ : (20 : Int32).toInt = 20 := by decide
  have e21_ : (21 : Int32).toInt = 21 := by decide
  have l0_ : (0 : Int64).toInt = 0 := by decide
  have m10 := own_m10 hN hN18
  have m11 := own_p1 hN hN18
  generalize ((p0 &&& (9223372036854775807 : Int64)) - ((p0 &&& (9223372036854775807 : Int64)) / (1000000000000000000 : Int64)) * (1000000000000000000 : Int64)) = n at *
  have r325 := c_iadd (p2 &&& (1 : Int32)) (18 : Int32)
  have r326 := rng32 ((p2 &&& (1 : Int32)) + (18 : Int32))
  have r327 := c_iadd ((p2 &&& (1 : Int32)) + (18 : Int32)) (1 : Int32)
  have r328 := rng32 (((p2 &&& (1 : Int32)) + (18 : Int32)) + (1 : Int32))
  have r329 := c_iadd (((p2 &&& (1 : Int32)) + (18 : Int32)) + (1 : Int32)) (1 : Int32)
  have r330 := rng32 ((((p2 &&& (1 : Int32)) + (18 : Int32)) + (1 : Int32)) + (1 : Int32))
  simp only [Int32.lt_iff_toInt_lt, ← Int32.toInt_inj, ← Int64.toInt_inj] at *
  refine ⟨N + 1, K, zc, 1, oc, by omega, by omega, hK, hK19, by omega, by omega, by omega, by omega, by omega, by omega, by omega, hoc, hoc1, ?_⟩
  split <;> omega
theorem own_hl331 (p0 : Int64) (p1 p2 p3 : Int32) (hc24_217 : ¬ ((18 : Int32) < ((p1 &&& (2147483647 : Int32)) % (20 : Int32)))) (hc38_277 : ¬ ((17 : Int32) < ((p1 &&& (2147483647 : Int32)) % (20 : Int32)))) (hc49_311 : (((p0 &&& (9223372036854775807 : Int64)) - ((p0 &&& (9223372036854775807 : Int64)) / (1000000000000000000 : Int64)) * (1000000000000000000 : Int64)) - (((p0 &&& (9223372036854775807 : Int64)) - ((p0 &&& (9223372036854775807 : Int64)) / (1000000000000000000 : Int64)) * (1000000000000000000 : Int64)) / (10 : Int64)) * (10 : Int64)) = (0 : Int64)) (hc65_312 : ¬ (((p1 &&& (2147483647 : Int32)) % (20 : Int32)) = (0 : Int32))) (hc91_322 : ((p1 &&& (2147483647 : Int32)) % (20 : Int32)) = (18 : Int32)) (hc96_323 : ¬ ((((p2.toUInt32 >>> ((1 : Int32) &&& 31).toUInt32).toInt32) % (3 : Int32)) = (0 : Int32))) : own_H (((p0 &&& (9223372036854775807 : Int64)) - ((p0 &&& (9223372036854775807 : Int64)) / (1000000000000000000 : Int64)) * (1000000000000000000 : Int64)) + (1 : Int64)) ((p1 &&& (2147483647 : Int32)) % (20 : Int32)) (p2 &&& (1 : Int32)) (p3 &&& (1 : Int32)) ((((p2 &&& (1 : Int32)) + (18 : Int32)) + (1 : Int32)) + (((p2.toUInt32 >>> ((1 : Int32) &&& 31).toUInt32).toInt32) % (3 : Int32))) := by
  obtain ⟨N, hN, hN18⟩ := own_NN p0
  obtain ⟨K, hK, hK19⟩ := own_KK p1
  obtain ⟨zc, hzc, hzc1⟩ := own_b1 p2
  obtain ⟨tc, htc, htc2⟩ := own_tt p2
  obtain ⟨oc, hoc, hoc1⟩ := own_b1 p3
  have e0_ : (0 : Int32).toInt = 0 := by decide
  have e1_ : (1 : Int32).toInt = 1 := by decide
  have e17_ : (17 : Int32).toInt = 17 := by decide
  have e18_ : (18 : Int32).toInt = 18 := by decide
  have e19_ : (19 : Int32).toInt = 19 := by decide
  have e20_ : (20 : Int32).toInt = 20 := by decide
  have e21_ : (21 : Int32).toInt = 21 := by decide
  have l0_ : (0 : Int64).toInt = 0 := by decide
  have m10 := own_m10 hN hN18
  have m11 := own_p1 hN hN18
  generalize ((p0 &&& (9223372036854775807 : Int64)) - ((p0 &&& (9223372036854775807 : Int64)) / (1000000000000000000 : Int64)) * (1000000000000000000 : Int64)) = n at *
  have r332 := c_iadd (p2 &&& (1 : Int32)) (18 : Int32)
  have r333 := rng32 ((p2 &&& (1 : Int32)) + (18 : Int32))
  have r334 := c_iadd ((p2 &&& (1 : Int32)) + (18 : Int32)) (1 : Int32)
  have r335 := rng32 (((p2 &&& (1 : Int32)) + (18 : Int32)) + (1 : Int32))
  have r336 := c_iadd (((p2 &&& (1 : Int32)) + (18 : Int32)) + (1 : Int32)) (((p2.toUInt32 >>> ((1 : Int32) &&& 31).toUInt32).toInt32) % (3 : Int32))
  have r337 := rng32 ((((p2 &&& (1 : Int32)) + (18 : Int32)) + (1 : Int32)) + (((p2.toUInt32 >>> ((1 : Int32) &&& 31).toUInt32).toInt32) % (3 : Int32)))
  simp only [Int32.lt_iff_toInt_lt, ← Int32.toInt_inj, ← Int64.toInt_inj] at *
  refine ⟨N + 1, K, zc, tc, oc, by omega, by omega, hK, hK19, by omega, by omega, by omega, by omega, by omega, by omega, by omega, hoc, hoc1, ?_⟩
  split <;> omega
theorem own_hl338 (p0 : Int64) (p1 p2 p3 : Int32) (hc24_217 : ¬ ((18 : Int32) < ((p1 &&& (2147483647 : Int32)) % (20 : Int32)))) (hc38_277 : ¬ ((17 : Int32) < ((p1 &&& (2147483647 : Int32)) % (20 : Int32)))) (hc49_311 : (((p0 &&& (9223372036854775807 : Int64)) - ((p0 &&& (9223372036854775807 : Int64)) / (1000000000000000000 : Int64)) * (1000000000000000000 : Int64)) - (((p0 &&& (9223372036854775807 : Int64)) - ((p0 &&& (9223372036854775807 : Int64)) / (1000000000000000000 : Int64)) * (1000000000000000000 : Int64)) / (10 : Int64)) * (10 : Int64)) = (0 : Int64)) (hc65_312 : ¬ (((p1 &&& (2147483647 : Int32)) % (20 : Int32)) = (0 : Int32))) (hc91_322 : ¬ (((p1 &&& (2147483647 : Int32)) % (20 : Int32)) = (18 : Int32))) : own_H (((p0 &&& (9223372036854775807 : Int64)) - ((p0 &&& (9223372036854775807 : Int64)) / (1000000000000000000 : Int64)) * (1000000000000000000 : Int64)) + (1 : Int64)) ((p1 &&& (2147483647 : Int32)) % (20 : Int32)) (p2 &&& (1 : Int32)) (p3 &&& (1 : Int32)) ((((p2 &&& (1 : Int32)) + (18 : Int32)) + (1 : Int32)) + (((p2.toUInt32 >>> ((1 : Int32) &&& 31).toUInt32).toInt32) % (3 : Int32))) := by
  obtain ⟨N, hN, hN18⟩ := own_NN p0
  obtain ⟨K, hK, hK19⟩ := own_KK p1
  obtain ⟨zc, hzc, hzc1⟩ := own_b1 p2
  obtain ⟨tc, htc, htc2⟩ := own_tt p2
  obtain ⟨oc, hoc, hoc1⟩ := own_b1 p3
  have e0_ : (0 : Int32).toInt = 0 := by decide
  have e1_ : (1 : Int32).toInt = 1 := by decide
  have e17_ : (17 : Int32).toInt = 17 := by decide
  have e18_ : (18 : Int32).toInt = 18 := by decide
  have e19_ : (19 : Int32).toInt = 19 := by decide
  have e20_ : (20 : Int32).toInt = 20 := by decide
  have e21_ : (21 : Int32).toInt = 21 := by decide
  have l0_ : (0 : Int64).toInt = 0 := by decide
  have m10 := own_m10 hN hN18
  have m11 := own_p1 hN hN18
  generalize ((p0 &&& (9223372036854775807 : Int64)) - ((p0 &&& (9223372036854775807 : Int64)) / (1000000000000000000 : Int64)) * (1000000000000000000 : Int64)) = n at *
  have r339 := c_iadd (p2 &&& (1 : Int32)) (18 : Int32)
  have r340 := rng32 ((p2 &&& (1 : Int32)) + (18 : Int32))
  have r341 := c_iadd ((p2 &&& (1 : Int32)) + (18 : Int32)) (1 : Int32)
  have r342 := rng32 (((p2 &&& (1 : Int32)) + (18 : Int32)) + (1 : Int32))
  have r343 := c_iadd (((p2 &&& (1 : Int32)) + (18 : Int32)) + (1 : Int32)) (((p2.toUInt32 >>> ((1 : Int32) &&& 31).toUInt32).toInt32) % (3 : Int32))
  have r344 := rng32 ((((p2 &&& (1 : Int32)) + (18 : Int32)) + (1 : Int32)) + (((p2.toUInt32 >>> ((1 : Int32) &&& 31).toUInt32).toInt32) % (3 : Int32)))
  simp only [Int32.lt_iff_toInt_lt, ← Int32.toInt_inj, ← Int64.toInt_inj] at *
  refine ⟨N + 1, K, zc, tc, oc, by omega, by omega, hK, hK19, by omega, by omega, by omega, by omega, by omega, by omega, by omega, hoc, hoc1, ?_⟩
  split <;> omega
theorem own_hl348 (p0 : Int64) (p1 p2 p3 : Int32) (hc24_217 : ¬ ((18 : Int32) < ((p1 &&& (2147483647 : Int32)) % (20 : Int32)))) (hc38_277 : ¬ ((17 : Int32) < ((p1 &&& (2147483647 : Int32)) % (20 : Int32)))) (hc49_311 : ¬ ((((p0 &&& (9223372036854775807 : Int64)) - ((p0 &&& (9223372036854775807 : Int64)) / (1000000000000000000 : Int64)) * (1000000000000000000 : Int64)) - (((p0 &&& (9223372036854775807 : Int64)) - ((p0 &&& (9223372036854775807 : Int64)) / (1000000000000000000 : Int64)) * (1000000000000000000 : Int64)) / (10 : Int64)) * (10 : Int64)) = (0 : Int64))) (hc65_345 : ((p1 &&& (2147483647 : Int32)) % (20 : Int32)) = (0 : Int32)) (hc91_346 : ((p1 &&& (2147483647 : Int32)) % (20 : Int32)) = (18 : Int32)) (hc96_347 : (((p2.toUInt32 >>> ((1 : Int32) &&& 31).toUInt32).toInt32) % (3 : Int32)) = (0 : Int32)) : own_H ((p0 &&& (9223372036854775807 : Int64)) - ((p0 &&& (9223372036854775807 : Int64)) / (1000000000000000000 : Int64)) * (1000000000000000000 : Int64)) ((p1 &&& (2147483647 : Int32)) % (20 : Int32)) (1 : Int32) (p3 &&& (1 : Int32)) (21 : Int32) := by
  obtain ⟨N, hN, hN18⟩ := own_NN p0
  obtain ⟨K, hK, hK19⟩ := own_KK p1
  obtain ⟨zc, hzc, hzc1⟩ := own_b1 p2
  obtain ⟨tc, htc, htc2⟩ := own_tt p2
  obtain ⟨oc, hoc, hoc1⟩ := own_b1 p3
  have e0_ : (0 : Int32).toInt = 0 := by decide
  have e1_ : (1 : Int32).toInt = 1 := by decide
  have e17_ : (17 : Int32).toInt = 17 := by decide
  have e18_ : (18 : Int32).toInt = 18 := by decide
  have e19_ : (19 : Int32).toInt = 19 := by decide
  have e20_ : (20 : Int32).toInt = 20 := by decide
  have e21_ : (21 : Int32).toInt = 21 := by decide
  have l0_ : (0 : Int64).toInt = 0 := by decide
  have m10 := own_m10 hN hN18
  have m11 := own_p1 hN hN18
  generalize ((p0 &&& (9223372036854775807 : Int64)) - ((p0 &&& (9223372036854775807 : Int64)) / (1000000000000000000 : Int64)) * (1000000000000000000 : Int64)) = n at *
  simp only [Int32.lt_iff_toInt_lt, ← Int32.toInt_inj, ← Int64.toInt_inj] at *
  refine ⟨N, K, 1, 1, oc, by omega, by omega, hK, hK19, by omega, by omega, by omega, by omega, by omega, by omega, by omega, hoc, hoc1, ?_⟩
  split <;> omega
theorem own_hl349 (p0 : Int64) (p1 p2 p3 : Int32) (hc24_217 : ¬ ((18 : Int32) < ((p1 &&& (2147483647 : Int32)) % (20 : Int32)))) (hc38_277 : ¬ ((17 : Int32) < ((p1 &&& (2147483647 : Int32)) % (20 : Int32)))) (hc49_311 : ¬ ((((p0 &&& (9223372036854775807 : Int64)) - ((p0 &&& (9223372036854775807 : Int64)) / (1000000000000000000 : Int64)) * (1000000000000000000 : Int64)) - (((p0 &&& (9223372036854775807 : Int64)) - ((p0 &&& (9223372036854775807 : Int64)) / (1000000000000000000 : Int64)) * (1000000000000000000 : Int64)) / (10 : Int64)) * (10 : Int64)) = (0 : Int64))) (hc65_345 : ((p1 &&& (2147483647 : Int32)) % (20 : Int32)) = (0 : Int32)) (hc91_346 : ((p1 &&& (2147483647 : Int32)) % (20 : Int32)) = (18 : Int32)) (hc96_347 : ¬ ((((p2.toUInt32 >>> ((1 : Int32) &&& 31).toUInt32).toInt32) % (3 : Int32)) = (0 : Int32))) : own_H ((p0 &&& (9223372036854775807 : Int64)) - ((p0 &&& (9223372036854775807 : Int64)) / (1000000000000000000 : Int64)) * (1000000000000000000 : Int64)) ((p1 &&& (2147483647 : Int32)) % (20 : Int32)) (1 : Int32) (p3 &&& (1 : Int32)) ((20 : Int32) + (((p2.toUInt32 >>> ((1 : Int32) &&& 31).toUInt32).toInt32) % (3 : Int32))) := by
  obtain ⟨N, hN, hN18⟩ := own_NN p0
  obtain ⟨K, hK, hK19⟩ := own_KK p1
  obtain ⟨zc, hzc, hzc1⟩ := own_b1 p2
  obtain ⟨tc, htc, htc2⟩ := own_tt p2
  obtain ⟨oc, hoc, hoc1⟩ := own_b1 p3
  have e0_ : (0 : Int32).toInt = 0 := by decide
  have e1_ : (1 : Int32).toInt = 1 := by decide
  have e17_ : (17 : Int32).toInt = 17 := by decide
  have e18_ : (18 : Int32).toInt = 18 := by decide
  have e19_ : (19 : Int32).toInt = 19 := by decide
  have e20_ : (20 : Int32).toInt = 20 := by decide
  have e21_ : (21 : Int32).toInt = 21 := by decide
  have l0_ : (0 : Int64).toInt = 0 := by decide
  have m10 := own_m10 hN hN18
  have m11 := own_p1 hN hN18
  generalize ((p0 &&& (9223372036854775807 : Int64)) - ((p0 &&& (9223372036854775807 : Int64)) / (1000000000000000000 : Int64)) * (1000000000000000000 : Int64)) = n at *
  have r350 := c_iadd (20 : Int32) (((p2.toUInt32 >>> ((1 : Int32) &&& 31).toUInt32).toInt32) % (3 : Int32))
  have r351 := rng32 ((20 : Int32) + (((p2.toUInt32 >>> ((1 : Int32) &&& 31).toUInt32).toInt32) % (3 : Int32)))
  simp only [Int32.lt_iff_toInt_lt, ← Int32.toInt_inj, ← Int64.toInt_inj] at *
  refine ⟨N, K, 1, tc, oc, by omega, by omega, hK, hK19, by omega, by omega, by omega, by omega, by omega, by omega, by omega, hoc, hoc1, ?_⟩
  split <;> omega
theorem own_hl352 (p0 : Int64) (p1 p2 p3 : Int32) (hc24_217 : ¬ ((18 : Int32) < ((p1 &&& (2147483647 : Int32)) % (20 : Int32)))) (hc38_277 : ¬ ((17 : Int32) < ((p1 &&& (2147483647 : Int32)) % (20 : Int32)))) (hc49_311 : ¬ ((((p0 &&& (9223372036854775807 : Int64)) - ((p0 &&& (9223372036854775807 : Int64)) / (1000000000000000000 : Int64)) * (1000000000000000000 : Int64)) - (((p0 &&& (9223372036854775807 : Int64)) - ((p0 &&& (9223372036854775807 : Int64)) / (1000000000000000000 : Int64)) * (1000000000000000000 : Int64)) / (10 : Int64)) * (10 : Int64)) = (0 : Int64))) (hc65_345 : ((p1 &&& (2147483647 : Int32)) % (20 : Int32)) = (0 : Int32)) (hc91_346 : ¬ (((p1 &&& (2147483647 : Int32)) % (20 : Int32)) = (18 : Int32))) : own_H ((p0 &&& (9223372036854775807 : Int64)) - ((p0 &&& (9223372036854775807 : Int64)) / (1000000000000000000 : Int64)) * (1000000000000000000 : Int64)) ((p1 &&& (2147483647 : Int32)) % (20 : Int32)) (1 : Int32) (p3 &&& (1 : Int32)) ((20 : Int32) + (((p2.toUInt32 >>> ((1 : Int32) &&& 31).toUInt32).toInt32) % (3 : Int32))) := by
  obtain ⟨N, hN, hN18⟩ := own_NN p0
  obtain ⟨K, hK, hK19⟩ := own_KK p1
  obtain ⟨zc, hzc, hzc1⟩ := own_b1 p2
  obtain ⟨tc, htc, htc2⟩ := own_tt p2
  obtain ⟨oc, hoc, hoc1⟩ := own_b1 p3
  have e0_ : (0 : Int32).toInt = 0 := by decide
  have e1_ : (1 : Int32).toInt = 1 := by decide
  have e17_ : (17 : Int32).toInt = 17 := by decide
  have e18_ : (18 : Int32).toInt = 18 := by decide
  have e19_ : (19 : Int32).toInt = 19 := by decide
  have e20_ : (20 : Int32).toInt = 20 := by decide
  have e21_ : (21 : Int32).toInt = 21 := by decide
  have l0_ : (0 : Int64).toInt = 0 := by decide
  have m10 := own_m10 hN hN18
  have m11 := own_p1 hN hN18
  generalize ((p0 &&& (9223372036854775807 : Int64)) - ((p0 &&& (9223372036854775807 : Int64)) / (1000000000000000000 : Int64)) * (1000000000000000000 : Int64)) = n at *
  have r353 := c_iadd (20 : Int32) (((p2.toUInt32 >>> ((1 : Int32) &&& 31).toUInt32).toInt32) % (3 : Int32))
  have r354 := rng32 ((20 : Int32) + (((p2.toUInt32 >>> ((1 : Int32) &&& 31).toUInt32).toInt32) % (3 : Int32)))
  simp only [Int32.lt_iff_toInt_lt, ← Int32.toInt_inj, ← Int64.toInt_inj] at *
  refine ⟨N, K, 1, tc, oc, by omega, by omega, hK, hK19, by omega, by omega, by omega, by omega, by omega, by omega, by omega, hoc, hoc1, ?_⟩
  split <;> omega
theorem own_hl357 (p0 : Int64) (p1 p2 p3 : Int32) (hc24_217 : ¬ ((18 : Int32) < ((p1 &&& (2147483647 : Int32)) % (20 : Int32)))) (hc38_277 : ¬ ((17 : Int32) < ((p1 &&& (2147483647 : Int32)) % (20 : Int32)))) (hc49_311 : ¬ ((((p0 &&& (9223372036854775807 : Int64)) - ((p0 &&& (9223372036854775807 : Int64)) / (1000000000000000000 : Int64)) * (1000000000000000000 : Int64)) - (((p0 &&& (9223372036854775807 : Int64)) - ((p0 &&& (9223372036854775807 : Int64)) / (1000000000000000000 : Int64)) * (1000000000000000000 : Int64)) / (10 : Int64)) * (10 : Int64)) = (0 : Int64))) (hc65_345 : ¬ (((p1 &&& (2147483647 : Int32)) % (20 : Int32)) = (0 : Int32))) (hc91_355 : ((p1 &&& (2147483647 : Int32)) % (20 : Int32)) = (18 : Int32)) (hc96_356 : (((p2.toUInt32 >>> ((1 : Int32) &&& 31).toUInt32).toInt32) % (3 : Int32)) = (0 : Int32)) : own_H ((p0 &&& (9223372036854775807 : Int64)) - ((p0 &&& (9223372036854775807 : Int64)) / (1000000000000000000 : Int64)) * (1000000000000000000 : Int64)) ((p1 &&& (2147483647 : Int32)) % (20 : Int32)) (p2 &&& (1 : Int32)) (p3 &&& (1 : Int32)) ((((p2 &&& (1 : Int32)) + (18 : Int32)) + (1 : Int32)) + (1 : Int32)) := by
  obtain ⟨N, hN, hN18⟩ := own_NN p0
  obtain ⟨K, hK, hK19⟩ := own_KK p1
  obtain ⟨zc, hzc, hzc1⟩ := own_b1 p2
  obtain ⟨tc, htc, htc2⟩ := own_tt p2
  obtain ⟨oc, hoc, hoc1⟩ := own_b1 p3
  have e0_ : (0 : Int32).toInt = 0 := by decide
  have e1_ : (1 : Int32).toInt = 1 := by decide
  have e17_ : (17 : Int32).toInt = 17 := by decide
  have e18_ : (18 : Int32).toInt = 18 := by decide
  have e19_ : (19 : Int32).toInt = 19 := by decide
  have e20_ : (20 : Int32).toInt = 20 := by decide
  have e21_ : (21 : Int32).toInt = 21 := by decide
  have l0_ : (0 : Int64).toInt = 0 := by decide
  have m10 := own_m10 hN hN18
  have m11 := own_p1 hN hN18
  generalize ((p0 &&& (9223372036854775807 : Int64)) - ((p0 &&& (9223372036854775807 : Int64)) / (1000000000000000000 : Int64)) * (1000000000000000000 : Int64)) = n at *
  have r358 := c_iadd (p2 &&& (1 : Int32)) (18 : Int32)
  have r359 := rng32 ((p2 &&& (1 : Int32)) + (18 : Int32))
  have r360 := c_iadd ((p2 &&& (1 : Int32)) + (18 : Int32)) (1 : Int32)
  have r361 := rng32 (((p2 &&& (1 : Int32)) + (18 : Int32)) + (1 : Int32))
  have r362 := c_iadd (((p2 &&& (1 : Int32)) + (18 : Int32)) + (1 : Int32)) (1 : Int32)
  have r363 := rng32 ((((p2 &&& (1 : Int32)) + (18 : Int32)) + (1 : Int32)) + (1 : Int32))
  simp only [Int32.lt_iff_toInt_lt, ← Int32.toInt_inj, ← Int64.toInt_inj] at *
  refine ⟨N, K, zc, 1, oc, by omega, by omega, hK, hK19, by omega, by omega, by omega, by omega, by omega, by omega, by omega, hoc, hoc1, ?_⟩
  split <;> omega
theorem own_hl364 (p0 : Int64) (p1 p2 p3 : Int32) (hc24_217 : ¬ ((18 : Int32) < ((p1 &&& (2147483647 : Int32)) % (20 : Int32)))) (hc38_277 : ¬ ((17 : Int32) < ((p1 &&& (2147483647 : Int32)) % (20 : Int32)))) (hc49_311 : ¬ ((((p0 &&& (9223372036854775807 : Int64)) - ((p0 &&& (9223372036854775807 : Int64)) / (1000000000000000000 : Int64)) * (1000000000000000000 : Int64)) - (((p0 &&& (9223372036854775807 : Int64)) - ((p0 &&& (9223372036854775807 : Int64)) / (1000000000000000000 : Int64)) * (1000000000000000000 : Int64)) / (10 : Int64)) * (10 : Int64)) = (0 : Int64))) (hc65_345 : ¬ (((p1 &&& (2147483647 : Int32)) % (20 : Int32)) = (0 : Int32))) (hc91_355 : ((p1 &&& (2147483647 : Int32)) % (20 : Int32)) = (18 : Int32)) (hc96_356 : ¬ ((((p2.toUInt32 >>> ((1 : Int32) &&& 31).toUInt32).toInt32) % (3 : Int32)) = (0 : Int32))) : own_H ((p0 &&& (9223372036854775807 : Int64)) - ((p0 &&& (9223372036854775807 : Int64)) / (1000000000000000000 : Int64)) * (1000000000000000000 : Int64)) ((p1 &&& (2147483647 : Int32)) % (20 : Int32)) (p2 &&& (1 : Int32)) (p3 &&& (1 : Int32)) ((((p2 &&& (1 : Int32)) + (18 : Int32)) + (1 : Int32)) + (((p2.toUInt32 >>> ((1 : Int32) &&& 31).toUInt32).toInt32) % (3 : Int32))) := by
  obtain ⟨N, hN, hN18⟩ := own_NN p0
  obtain ⟨K, hK, hK19⟩ := own_KK p1
  obtain ⟨zc, hzc, hzc1⟩ := own_b1 p2
  obtain ⟨tc, htc, htc2⟩ := own_tt p2
  obtain ⟨oc, hoc, hoc1⟩ := own_b1 p3
  have e0_ : (0 : Int32).toInt = 0 := by decide
  have e1_ : (1 : Int32).toInt = 1 := by decide
  have e17_ : (17 : Int32).toInt = 17 := by decide
  have e18_ : (18 : Int32).toInt = 18 := by decide
  have e19_ : (19 : Int32).toInt = 19 := by decide
  have e20_ : (20 : Int32).toInt = 20 := by decide
  have e21_ : (21 : Int32).toInt = 21 := by decide
  have l0_ : (0 : Int64).toInt = 0 := by decide
  have m10 := own_m10 hN hN18
  have m11 := own_p1 hN hN18
  generalize ((p0 &&& (9223372036854775807 : Int64)) - ((p0 &&& (9223372036854775807 : Int64)) / (1000000000000000000 : Int64)) * (1000000000000000000 : Int64)) = n at *
  have r365 := c_iadd (p2 &&& (1 : Int32)) (18 : Int32)
  have r366 := rng32 ((p2 &&& (1 : Int32)) + (18 : Int32))
  have r367 := c_iadd ((p2 &&& (1 : Int32)) + (18 : Int32)) (1 : Int32)
  have r368 := rng32 (((p2 &&& (1 : Int32)) + (18 : Int32)) + (1 : Int32))
  have r369 := c_iadd (((p2 &&& (1 : Int32)) + (18 : Int32)) + (1 : Int32)) (((p2.toUInt32 >>> ((1 : Int32) &&& 31).toUInt32).toInt32) % (3 : Int32))
  have r370 := rng32 ((((p2 &&& (1 : Int32)) + (18 : Int32)) + (1 : Int32)) + (((p2.toUInt32 >>> ((1 : Int32) &&& 31).toUInt32).toInt32) % (3 : Int32)))
  simp only [Int32.lt_iff_toInt_lt, ← Int32.toInt_inj, ← Int64.toInt_inj] at *
  refine ⟨N, K, zc, tc, oc, by omega, by omega, hK, hK19, by omega, by omega, by omega, by omega, by omega, by omega, by omega, hoc, hoc1, ?_⟩
  split <;> omega
theorem own_hl371 (p0 : Int64) (p1 p2 p3 : Int32) (hc24_217 : ¬ ((18 : Int32) < ((p1 &&& (2147483647 : Int32)) % (20 : Int32)))) (hc38_277 : ¬ ((17 : Int32) < ((p1 &&& (2147483647 : Int32)) % (20 : Int32)))) (hc49_311 : ¬ ((((p0 &&& (9223372036854775807 : Int64)) - ((p0 &&& (9223372036854775807 : Int64)) / (1000000000000000000 : Int64)) * (1000000000000000000 : Int64)) - (((p0 &&& (9223372036854775807 : Int64)) - ((p0 &&& (9223372036854775807 : Int64)) / (1000000000000000000 : Int64)) * (1000000000000000000 : Int64)) / (10 : Int64)) * (10 : Int64)) = (0 : Int64))) (hc65_345 : ¬ (((p1 &&& (2147483647 : Int32)) % (20 : Int32)) = (0 : Int32))) (hc91_355 : ¬ (((p1 &&& (2147483647 : Int32)) % (20 : Int32)) = (18 : Int32))) : own_H ((p0 &&& (9223372036854775807 : Int64)) - ((p0 &&& (9223372036854775807 : Int64)) / (1000000000000000000 : Int64)) * (1000000000000000000 : Int64)) ((p1 &&& (2147483647 : Int32)) % (20 : Int32)) (p2 &&& (1 : Int32)) (p3 &&& (1 : Int32)) ((((p2 &&& (1 : Int32)) + (18 : Int32)) + (1 : Int32)) + (((p2.toUInt32 >>> ((1 : Int32) &&& 31).toUInt32).toInt32) % (3 : Int32))) := by
  obtain ⟨N, hN, hN18⟩ := own_NN p0
  obtain ⟨K, hK, hK19⟩ := own_KK p1
  obtain ⟨zc, hzc, hzc1⟩ := own_b1 p2
  obtain ⟨tc, htc, htc2⟩ := own_tt p2
  obtain ⟨oc, hoc, hoc1⟩ := own_b1 p3
  have e0_ : (0 : Int32).toInt = 0 := by decide
  have e1_ : (1 : Int32).toInt = 1 := by decide
  have e17_ : (17 : Int32).toInt = 17 := by decide
  have e18_ : (18 : Int32).toInt = 18 := by decide
  have e19_ : (19 : Int32).toInt = 19 := by decide
  have e20_ : (20 : Int32).toInt = 20 := by decide
  have e21_ : (21 : Int32).toInt = 21 := by decide
  have l0_ : (0 : Int64).toInt = 0 := by decide
  have m10 := own_m10 hN hN18
  have m11 := own_p1 hN hN18
  generalize ((p0 &&& (9223372036854775807 : Int64)) - ((p0 &&& (9223372036854775807 : Int64)) / (1000000000000000000 : Int64)) * (1000000000000000000 : Int64)) = n at *
  have r372 := c_iadd (p2 &&& (1 : Int32)) (18 : Int32)
  have r373 := rng32 ((p2 &&& (1 : Int32)) + (18 : Int32))
  have r374 := c_iadd ((p2 &&& (1 : Int32)) + (18 : Int32)) (1 : Int32)
  have r375 := rng32 (((p2 &&& (1 : Int32)) + (18 : Int32)) + (1 : Int32))
  have r376 := c_iadd (((p2 &&& (1 : Int32)) + (18 : Int32)) + (1 : Int32)) (((p2.toUInt32 >>> ((1 : Int32) &&& 31).toUInt32).toInt32) % (3 : Int32))
  have r377 := rng32 ((((p2 &&& (1 : Int32)) + (18 : Int32)) + (1 : Int32)) + (((p2.toUInt32 >>> ((1 : Int32) &&& 31).toUInt32).toInt32) % (3 : Int32)))
  simp only [Int32.lt_iff_toInt_lt, ← Int32.toInt_inj, ← Int64.toInt_inj] at *
  refine ⟨N, K, zc, tc, oc, by omega, by omega, hK, hK19, by omega, by omega, by omega, by omega, by omega, by omega, by omega, hoc, hoc1, ?_⟩
  split <;> omega
theorem ef_rm0 (m : MethodId) (x0 : Int64) (x1 : Int32) (x2 : Int32) (x3 : Int32) : entryFrame m #[(.long x0), (.int x1), (.int x2), (.int x3)] maxLocals = mkF m 0 #[.val (.long x0), .second, .val (.int x1), .val (.int x2), .val (.int x3), .unset, .unset, .unset, .unset, .unset, .unset, .unset, .unset, .unset, .unset, .unset, .unset, .unset] [] := by first | (simp [entryFrame, mkF, argsToLocals, Value.category, maxLocals]; done) | rfl
def Qrm0 (Z : State) (p0 : Int64) (p1 : Int32) (p2 : Int32) (p3 : Int32) (pw : Addr) (kp : ClassId) (h0 : Heap) (n0 : Nat) (v : Option Value) (h : Heap) (L : List Loc) : Prop := v = some (.int 1) ∧ Fr n0 L ∧ Keep h0 h []
set_option maxRecDepth 65536 in
set_option maxHeartbeats 40000000 in
theorem rm0 (l : Launch) (Z : State) (a0 : Array Value) (hw : ∀ d ∈ tables_1, d.before a0 Z = true) (ws : List Jvm.Cond) (p0 : Int64) (p1 : Int32) (p2 : Int32) (p3 : Int32) (pw : Addr) (kp : ClassId) (h0 : Heap) (n0 : Nat) (O : Old Z n0 h0) (S_Decimal_POWERS : Sta Z Z.heap "com/example/depthline/depthline/core/Decimal" "POWERS" "[J" (.ref pw)) (V_pw : Arv Z Z.heap pw kp .long (19 : Int32) (own_ql.map Value.long) (.long (0 : Int64))) :
    MetFree l x (head1 (Jvm.Cond.code x code maxLocals ret :: ws) room_1) (fun a' U' => a' = #[(.long p0), (.int p1), (.int p2), (.int p3)] ∧ Z.Warmed39 U'.vm ∧ U'.heap = h0) (fun _ _ _ _ _ => True) (fun _ U' o' W' => ∃ v' L', o' = .returned v' ∧ Qrm0 Z p0 p1 p2 p3 pw kp h0 n0 v' W'.heap L' ∧ FrameEnd U' o' W' L' 26 458) := by
  refine MetFree.of_bodySF (plainFor_of_name pn_0) hisR ?_
  intro p e s m args below meth c s₁ Bd hml0 hP hK
  obtain ⟨rfl, hZ, hh⟩ := hP
  have hx := Bd.exec
  have hby := Bd.bytes
  have hml : c.maxLocals = 18 := hml0
  have hown : s.vm.findClass "com/example/depthline/depthline/core/DecimalParsePinLaw" = some m.cls := findClass_of_methodNamed Bd.named
  have hnm := (name_of_methodNamed Bd.named Bd.method).1
  have X0 : Stand p l e room_1 s m #[(.long p0), (.int p1), (.int p2), (.int p3)] below meth c s₁ [] 0 0 := Stand.of_body Bd
  have e0 : s₁.heap = h0 := by rw [← hh, Bd.state]; rfl
  have N0 := Fr.nil n0
  have K0 := Keep.refl h0 []
  refine own_start (ef_rm0 m p0 p1 p2 p3) (Q := fun o' t' => ∃ v' L', o' = .returned v' ∧ Qrm0 Z p0 p1 p2 p3 pw kp h0 n0 v' t'.heap L' ∧ FrameEnd s o' t' L' 26 458) ?_
  show own_Fin p e below (s₁.setTop (mkF m 0 #[.val (.long p0), .second, .val (.int p1), .val (.int p2), .val (.int p3), .unset, .unset, .unset, .unset, .unset, .unset, .unset, .unset, .unset, .unset, .unset, .unset, .unset] [])) _
  refine own_go (fun _ k => XS.lloadN X0.here hx rfl (hb hby at_0) rfl k) ?_
  show own_Fin p e below (s₁.setTop (mkF m 1 #[.val (.long p0), .second, .val (.int p1), .val (.int p2), .val (.int p3), .unset, .unset, .unset, .unset, .unset, .unset, .unset, .unset, .unset, .unset, .unset, .unset, .unset] [(.long p0)])) _
  refine own_go (fun _ k => X0.ldc2Long hx hown (mvT hZ (ow hw 0)) (g := (mkF m 1 #[.val (.long p0), .second, .val (.int p1), .val (.int p2), .val (.int p3), .unset, .unset, .unset, .unset, .unset, .unset, .unset, .unset, .unset, .unset, .unset, .unset, .unset] [(.long p0)])) rfl (hb hby at_1) _ k) ?_
  show own_Fin p e below (s₁.setTop (mkF m 4 #[.val (.long p0), .second, .val (.int p1), .val (.int p2), .val (.int p3), .unset, .unset, .unset, .unset, .unset, .unset, .unset, .unset, .unset, .unset, .unset, .unset, .unset] [(.long (9223372036854775807 : Int64)), (.long p0)])) _
  refine own_go (fun _ k => XS.land X0.here hx rfl (hb hby at_4) rfl k) ?_
  show own_Fin p e below (s₁.setTop (mkF m 5 #[.val (.long p0), .second, .val (.int p1), .val (.int p2), .val (.int p3), .unset, .unset, .unset, .unset, .unset, .unset, .unset, .unset, .unset, .unset, .unset, .unset, .unset] [(.long (p0 &&& (9223372036854775807 : Int64)))])) _
  refine own_go (fun _ k => X0.ldc2Long hx hown (mvT hZ (ow hw 1)) (g := (mkF m 5 #[.val (.long p0), .second, .val (.int p1), .val (.int p2), .val (.int p3), .unset, .unset, .unset, .unset, .unset, .unset, .unset, .unset, .unset, .unset, .unset, .unset, .unset] [(.long (p0 &&& (9223372036854775807 : Int64)))])) rfl (hb hby at_5) _ k) ?_
  show own_Fin p e below (s₁.setTop (mkF m 8 #[.val (.long p0), .second, .val (.int p1), .val (.int p2), .val (.int p3), .unset, .unset, .unset, .unset, .unset, .unset, .unset, .unset, .unset, .unset, .unset, .unset, .unset] [(.long (1000000000000000000 : Int64)), (.long (p0 &&& (9223372036854775807 : Int64)))])) _
  refine own_go (fun _ k => XS.lrem X0.here hx rfl (hb hby at_8) rfl (by decide) (XS.lstore X0.here hx rfl (hb hby at_9) rfl (l' := #[.val (.long p0), .second, .val (.int p1), .val (.int p2), .val (.int p3), .val (.long ((p0 &&& (9223372036854775807 : Int64)) - ((p0 &&& (9223372036854775807 : Int64)) / (1000000000000000000 : Int64)) * (1000000000000000000 : Int64))), .second, .unset, .unset, .unset, .unset, .unset, .unset, .unset, .unset, .unset, .unset, .unset]) rfl (XS.iloadN X0.here hx rfl (hb hby at_11) rfl k))) ?_
  show own_Fin p e below (s₁.setTop (mkF m 12 #[.val (.long p0), .second, .val (.int p1), .val (.int p2), .val (.int p3), .val (.long ((p0 &&& (9223372036854775807 : Int64)) - ((p0 &&& (9223372036854775807 : Int64)) / (1000000000000000000 : Int64)) * (1000000000000000000 : Int64))), .second, .unset, .unset, .unset, .unset, .unset, .unset, .unset, .unset, .unset, .unset, .unset] [(.int p1)])) _
  refine own_go (fun _ k => X0.ldcInt hx hown (mvT hZ (ow hw 2)) (g := (mkF m 12 #[.val (.long p0), .second, .val (.int p1), .val (.int p2), .val (.int p3), .val (.long ((p0 &&& (9223372036854775807 : Int64)) - ((p0 &&& (9223372036854775807 : Int64)) / (1000000000000000000 : Int64)) * (1000000000000000000 : Int64))), .second, .unset, .unset, .unset, .unset, .unset, .unset, .unset, .unset, .unset, .unset, .unset] [(.int p1)])) rfl (hb hby at_12) _ k) ?_
  show own_Fin p e below (s₁.setTop (mkF m 14 #[.val (.long p0), .second, .val (.int p1), .val (.int p2), .val (.int p3), .val (.long ((p0 &&& (9223372036854775807 : Int64)) - ((p0 &&& (9223372036854775807 : Int64)) / (1000000000000000000 : Int64)) * (1000000000000000000 : Int64))), .second, .unset, .unset, .unset, .unset, .unset, .unset, .unset, .unset, .unset, .unset, .unset] [(.int 2147483647), (.int p1)])) _
  refine own_go (fun _ k => XS.iand X0.here hx rfl (hb hby at_14) rfl (XS.bipush X0.here hx rfl (hb hby at_15) (iremM X0 hx rfl (hb hby at_17) rfl (by decide) (XS.istore X0.here hx rfl (hb hby at_18) rfl (l' := #[.val (.long p0), .second, .val (.int p1), .val (.int p2), .val (.int p3), .val (.long ((p0 &&& (9223372036854775807 : Int64)) - ((p0 &&& (9223372036854775807 : Int64)) / (1000000000000000000 : Int64)) * (1000000000000000000 : Int64))), .second, .val (.int ((p1 &&& (2147483647 : Int32)) % (20 : Int32))), .unset, .unset, .unset, .unset, .unset, .unset, .unset, .unset, .unset, .unset]) rfl k)))) ?_
  show own_Fin p e below (s₁.setTop (mkF m 20 #[.val (.long p0), .second, .val (.int p1), .val (.int p2), .val (.int p3), .val (.long ((p0 &&& (9223372036854775807 : Int64)) - ((p0 &&& (9223372036854775807 : Int64)) / (1000000000000000000 : Int64)) * (1000000000000000000 : Int64))), .second, .val (.int ((p1 &&& (2147483647 : Int32)) % (20 : Int32))), .unset, .unset, .unset, .unset, .unset, .unset, .unset, .unset, .unset, .unset] [])) _
  have main : ∀ (nn : Int64) (kk : Int32) (s8 : Slot) (zz : Int32) (s10 : Slot) (oo : Int32) (gg : Int32) (lenv : Int32), own_H nn kk zz oo lenv → own_Fin p e below (s₁.setTop (mkF m 140 #[.val (.long p0), .second, .val (.int p1), .val (.int p2), .val (.int p3), .val (.long nn), .second, .val (.int kk), s8, .val (.int zz), s10, .val (.int oo), .val (.int gg), .val (.int lenv), .unset, .unset, .unset, .unset] [])) (fun o' t' => ∃ v' L', o' = .returned v' ∧ Qrm0 Z p0 p1 p2 p3 pw kp h0 n0 v' t'.heap L' ∧ FrameEnd s o' t' L' 26 458) := by
   intro nn kk s8 zz s10 oo gg lenv hH
   show own_Fin p e below (s₁.setTop (mkF m 140 #[.val (.long p0), .second, .val (.int p1), .val (.int p2), .val (.int p3), .val (.long nn), .second, .val (.int kk), s8, .val (.int zz), s10, .val (.int oo), .val (.int gg), .val (.int lenv), .unset, .unset, .unset, .unset] [])) _
   refine own_go (fun _ k => XS.bipush X0.here hx rfl (hb hby at_140) k) ?_
   show own_Fin p e below (s₁.setTop (mkF m 142 #[.val (.long p0), .second, .val (.int p1), .val (.int p2), .val (.int p3), .val (.long nn), .second, .val (.int kk), s8, .val (.int zz), s10, .val (.int oo), .val (.int gg), .val (.int lenv), .unset, .unset, .unset, .unset] [(.int 24)])) _
   obtain ⟨T105, h105, k105, X105, e105, E105, A105, st105⟩ := newP X0 hx hZ (ow hw 4) e0 (g := (mkF m 142 #[.val (.long p0), .second, .val (.int p1), .val (.int p2), .val (.int p3), .val (.long nn), .second, .val (.int kk), s8, .val (.int zz), s10, .val (.int oo), .val (.int gg), .val (.int lenv), .unset, .unset, .unset, .unset] [(.int 24)])) rfl (hb hby at_142) rfl (by decide) (cap := 24) (by decide) (by decide) (by decide) (by decide)
   obtain ⟨b105, g105⟩ : ∃ z, z = h0.size := ⟨_, rfl⟩
   rw [← g105] at A105 st105
   refine own_go (fun _ k => st105 _ k) ?_
   have g_b105 : n0 ≤ b105 := Nat.le_trans (own_osz O) (Nat.le_of_eq g105.symm)
   have sz_b105 : h0.size ≤ b105 := Nat.le_trans K0.1 (Nat.le_of_eq g105.symm)
   replace O := O.ext E105
   have K106 := K0.ext E105
   have V_b105 : Arv Z h105 b105 k105 .char (24 : Int32) [(.int 0), (.int 0), (.int 0), (.int 0), (.int 0), (.int 0), (.int 0), (.int 0), (.int 0), (.int 0), (.int 0), (.int 0), (.int 0), (.int 0), (.int 0), (.int 0), (.int 0), (.int 0), (.int 0), (.int 0), (.int 0), (.int 0), (.int 0), (.int 0)] (.int 0) := (Arv.new A105 (by decide)).pad (pad_rep [] (.int 0) 24)
   clear st105 E105 A105
   show own_Fin p e below (T105.setTop (mkF m 144 #[.val (.long p0), .second, .val (.int p1), .val (.int p2), .val (.int p3), .val (.long nn), .second, .val (.int kk), s8, .val (.int zz), s10, .val (.int oo), .val (.int gg), .val (.int lenv), .unset, .unset, .unset, .unset] [(.ref b105)])) _
   refine own_go (fun _ k => XS.astore X105.here hx rfl (hb hby at_144) rfl rfl (l' := #[.val (.long p0), .second, .val (.int p1), .val (.int p2), .val (.int p3), .val (.long nn), .second, .val (.int kk), s8, .val (.int zz), s10, .val (.int oo), .val (.int gg), .val (.int lenv), .val (.ref b105), .unset, .unset, .unset]) rfl (XS.aload X105.here hx rfl (hb hby at_146) rfl rfl (XS.iconst X105.here hx rfl (hb hby at_148) (XS.iconst X105.here hx rfl (hb hby at_149) (XS.iload X105.here hx rfl (hb hby at_150) rfl (XS.iload X105.here hx rfl (hb hby at_152) rfl (XS.iload X105.here hx rfl (hb hby at_154) rfl (XS.iload X105.here hx rfl (hb hby at_156) rfl (XS.lload X105.here hx rfl (hb hby at_158) rfl (XS.iload X105.here hx rfl (hb hby at_160) rfl k)))))))))) ?_
   show own_Fin p e below (T105.setTop (mkF m 162 #[.val (.long p0), .second, .val (.int p1), .val (.int p2), .val (.int p3), .val (.long nn), .second, .val (.int kk), s8, .val (.int zz), s10, .val (.int oo), .val (.int gg), .val (.int lenv), .val (.ref b105), .unset, .unset, .unset] [(.int gg), (.long nn), (.int kk), (.int zz), (.int lenv), (.int oo), (.int 0), (.int 0), (.ref b105)])) _
   obtain ⟨_, _, ⟨T107, L107, k107, n107⟩, -, X107, ⟨Lc107, hQ107, l107, y107, z107⟩, st107⟩ := Jvm.LawKit.callS X105 hx (y := (⟨"com/example/depthline/depthline/core/DecimalParsePinLaw", "cell", "(IIIIIJC)C"⟩ : MethodName)) hown (mvT hZ (ow hw 5)) (mvT hZ (ow hw 6)) (mvT hZ (ow hw 7)) (mvT hZ (ow hw 8)) (by decide) (backOf (W := 2) (rm1 l Z a0 hw [] (0 : Int32) oo lenv zz kk nn gg h105 n0 O (own_HB hH (by decide) (by decide))) hZ (ow hw 8) (ow hw 7) (by decide) (by decide)) (g := (mkF m 162 #[.val (.long p0), .second, .val (.int p1), .val (.int p2), .val (.int p3), .val (.long nn), .second, .val (.int kk), s8, .val (.int zz), s10, .val (.int oo), .val (.int gg), .val (.int lenv), .val (.ref b105), .unset, .unset, .unset] [(.int gg), (.long nn), (.int kk), (.int zz), (.int lenv), (.int oo), (.int 0), (.int 0), (.ref b105)])) rfl (by rw [hml]; rfl) (argsL := [(.int 0), (.int oo), (.int lenv), (.int zz), (.int kk), (.long nn), (.int gg)]) (rest := [(.int 0), (.ref b105)]) (lenOf pd_4 rfl) rfl (by show 2 * 0 + _ ≤ _; exact Nat.le_of_eq rfl) (hb hby at_162) (fun _ _ => ⟨rfl, e105, (by decide : 1 + 1 ≤ _), (by decide : 24 + 18 ≤ _)⟩)
   dsimp only [Pt.U, Pt.locs, Pt.cells, Pt.slots] at X107 l107 y107 z107 st107 hQ107
   subst y107 z107
   obtain ⟨rfl, N107q, Kq107⟩ := hQ107
   refine own_go (fun _ k => st107 _ k) ?_
   have N107 := own_frl l107 (Fr.app N0 N107q)
   replace V_b105 := V_b105.keep Kq107 nin0
   replace O := O.keep Kq107 all0
   have K108 := K106.trans Kq107 all0
   clear X105 e105 st107 l107 N107q K106 Kq107
   show own_Fin p e below (T107.setTop (mkF m 165 #[.val (.long p0), .second, .val (.int p1), .val (.int p2), .val (.int p3), .val (.long nn), .second, .val (.int kk), s8, .val (.int zz), s10, .val (.int oo), .val (.int gg), .val (.int lenv), .val (.ref b105), .unset, .unset, .unset] [(.int (own_cell (0 : Int32) oo lenv zz kk nn gg)), (.int 0), (.ref b105)])) _
   obtain ⟨cl109, A109, q109, S109, M109, H109, G109⟩ := id V_b105
   have hin109 : ¬ ((0 : Int32) < 0 ∨ cl109.slots.size ≤ ((0 : Int32)).toNatClampNeg) := inb_of S109 ⟨by decide, by decide⟩
   obtain ⟨T109, h109, X109, e109, W109, st109⟩ := stC X107 hx hZ rfl A109 (j := (0 : Int32)) hin109 (g := (mkF m 165 #[.val (.long p0), .second, .val (.int p1), .val (.int p2), .val (.int p3), .val (.long nn), .second, .val (.int kk), s8, .val (.int zz), s10, .val (.int oo), .val (.int gg), .val (.int lenv), .val (.ref b105), .unset, .unset, .unset] [(.int (own_cell (0 : Int32) oo lenv zz kk nn gg)), (.int 0), (.ref b105)])) rfl rfl (hb hby at_165)
   refine own_go (fun _ k => st109 _ k) ?_
   replace O := O.wr W109 g_b105
   have K110 := K108.wr W109 (Or.inr sz_b105)
   replace V_b105 : Arv Z h109 b105 k105 .char (24 : Int32) [(.int (nar .char (own_cell (0 : Int32) oo lenv zz kk nn gg))), (.int 0), (.int 0), (.int 0), (.int 0), (.int 0), (.int 0), (.int 0), (.int 0), (.int 0), (.int 0), (.int 0), (.int 0), (.int 0), (.int 0), (.int 0), (.int 0), (.int 0), (.int 0), (.int 0), (.int 0), (.int 0), (.int 0), (.int 0)] (.int 0) := Arv.set A109 q109 S109 M109 H109 G109 (fits_nar_char _) W109 0 rfl (Nat.le_of_ble_eq_true rfl)
   have N109 := Fr.snoc X109 N107 g_b105
   clear X107 hin109 st109 K108 A109 q109 S109 M109 H109 G109 W109 N107
   show own_Fin p e below (T109.setTop (mkF m 166 #[.val (.long p0), .second, .val (.int p1), .val (.int p2), .val (.int p3), .val (.long nn), .second, .val (.int kk), s8, .val (.int zz), s10, .val (.int oo), .val (.int gg), .val (.int lenv), .val (.ref b105), .unset, .unset, .unset] [])) _
   refine own_go (fun _ k => XS.aload X109.here hx rfl (hb hby at_166) rfl rfl (XS.iconst X109.here hx rfl (hb hby at_168) (XS.iconst X109.here hx rfl (hb hby at_169) (XS.iload X109.here hx rfl (hb hby at_170) rfl (XS.iload X109.here hx rfl (hb hby at_172) rfl (XS.iload X109.here hx rfl (hb hby at_174) rfl (XS.iload X109.here hx rfl (hb hby at_176) rfl (XS.lload X109.here hx rfl (hb hby at_178) rfl (XS.iload X109.here hx rfl (hb hby at_180) rfl k))))))))) ?_
   show own_Fin p e below (T109.setTop (mkF m 182 #[.val (.long p0), .second, .val (.int p1), .val (.int p2), .val (.int p3), .val (.long nn), .second, .val (.int kk), s8, .val (.int zz), s10, .val (.int oo), .val (.int gg), .val (.int lenv), .val (.ref b105), .unset, .unset, .unset] [(.int gg), (.long nn), (.int kk), (.int zz), (.int lenv), (.int oo), (.int 1), (.int 1), (.ref b105)])) _
   obtain ⟨_, _, ⟨T111, L111, k111, n111⟩, -, X111, ⟨Lc111, hQ111, l111, y111, z111⟩, st111⟩ := Jvm.LawKit.callS X109 hx (y := (⟨"com/example/depthline/depthline/core/DecimalParsePinLaw", "cell", "(IIIIIJC)C"⟩ : MethodName)) hown (mvT hZ (ow hw 5)) (mvT hZ (ow hw 6)) (mvT hZ (ow hw 7)) (mvT hZ (ow hw 8)) (by decide) (backOf (W := 2) (rm1 l Z a0 hw [] (1 : Int32) oo lenv zz kk nn gg h109 n0 O (own_HB hH (by decide) (by decide))) hZ (ow hw 8) (ow hw 7) (by decide) (by decide)) (g := (mkF m 182 #[.val (.long p0), .second, .val (.int p1), .val (.int p2), .val (.int p3), .val (.long nn), .second, .val (.int kk), s8, .val (.int zz), s10, .val (.int oo), .val (.int gg), .val (.int lenv), .val (.ref b105), .unset, .unset, .unset] [(.int gg), (.long nn), (.int kk), (.int zz), (.int lenv), (.int oo), (.int 1), (.int 1), (.ref b105)])) rfl (by rw [hml]; rfl) (argsL := [(.int 1), (.int oo), (.int lenv), (.int zz), (.int kk), (.long nn), (.int gg)]) (rest := [(.int 1), (.ref b105)]) (lenOf pd_4 rfl) rfl (by show 2 * 0 + _ ≤ _; exact Nat.le_of_eq rfl) (hb hby at_182) (fun _ _ => ⟨rfl, e109, (by decide : 2 + 1 ≤ _), (by decide : 42 + 18 ≤ _)⟩)
   dsimp only [Pt.U, Pt.locs, Pt.cells, Pt.slots] at X111 l111 y111 z111 st111 hQ111
   subst y111 z111
   obtain ⟨rfl, N111q, Kq111⟩ := hQ111
   refine own_go (fun _ k => st111 _ k) ?_
   have N111 := own_frl l111 (Fr.app N109 N111q)
   replace V_b105 := V_b105.keep Kq111 nin0
   replace O := O.keep Kq111 all0
   have K112 := K110.trans Kq111 all0
   clear X109 e109 st111 l111 N109 N111q K110 Kq111
   show own_Fin p e below (T111.setTop (mkF m 185 #[.val (.long p0), .second, .val (.int p1), .val (.int p2), .val (.int p3), .val (.long nn), .second, .val (.int kk), s8, .val (.int zz), s10, .val (.int oo), .val (.int gg), .val (.int lenv), .val (.ref b105), .unset, .unset, .unset] [(.int (own_cell (1 : Int32) oo lenv zz kk nn gg)), (.int 1), (.ref b105)])) _
   obtain ⟨cl113, A113, q113, S113, M113, H113, G113⟩ := id V_b105
   have hin113 : ¬ ((1 : Int32) < 0 ∨ cl113.slots.size ≤ ((1 : Int32)).toNatClampNeg) := inb_of S113 ⟨by decide, by decide⟩
   obtain ⟨T113, h113, X113, e113, W113, st113⟩ := stC X111 hx hZ rfl A113 (j := (1 : Int32)) hin113 (g := (mkF m 185 #[.val (.long p0), .second, .val (.int p1), .val (.int p2), .val (.int p3), .val (.long nn), .second, .val (.int kk), s8, .val (.int zz), s10, .val (.int oo), .val (.int gg), .val (.int lenv), .val (.ref b105), .unset, .unset, .unset] [(.int (own_cell (1 : Int32) oo lenv zz kk nn gg)), (.int 1), (.ref b105)])) rfl rfl (hb hby at_185)
   refine own_go (fun _ k => st113 _ k) ?_
   replace O := O.wr W113 g_b105
   have K114 := K112.wr W113 (Or.inr sz_b105)
   replace V_b105 : Arv Z h113 b105 k105 .char (24 : Int32) [(.int (nar .char (own_cell (0 : Int32) oo lenv zz kk nn gg))), (.int (nar .char (own_cell (1 : Int32) oo lenv zz kk nn gg))), (.int 0), (.int 0), (.int 0), (.int 0), (.int 0), (.int 0), (.int 0), (.int 0), (.int 0), (.int 0), (.int 0), (.int 0), (.int 0), (.int 0), (.int 0), (.int 0), (.int 0), (.int 0), (.int 0), (.int 0), (.int 0), (.int 0)] (.int 0) := Arv.set A113 q113 S113 M113 H113 G113 (fits_nar_char _) W113 1 rfl (Nat.le_of_ble_eq_true rfl)
   have N113 := Fr.snoc X113 N111 g_b105
   clear X111 hin113 st113 K112 A113 q113 S113 M113 H113 G113 W113 N111
   show own_Fin p e below (T113.setTop (mkF m 186 #[.val (.long p0), .second, .val (.int p1), .val (.int p2), .val (.int p3), .val (.long nn), .second, .val (.int kk), s8, .val (.int zz), s10, .val (.int oo), .val (.int gg), .val (.int lenv), .val (.ref b105), .unset, .unset, .unset] [])) _
   refine own_go (fun _ k => XS.aload X113.here hx rfl (hb hby at_186) rfl rfl (XS.iconst X113.here hx rfl (hb hby at_188) (XS.iconst X113.here hx rfl (hb hby at_189) (XS.iload X113.here hx rfl (hb hby at_190) rfl (XS.iload X113.here hx rfl (hb hby at_192) rfl (XS.iload X113.here hx rfl (hb hby at_194) rfl (XS.iload X113.here hx rfl (hb hby at_196) rfl (XS.lload X113.here hx rfl (hb hby at_198) rfl (XS.iload X113.here hx rfl (hb hby at_200) rfl k))))))))) ?_
   show own_Fin p e below (T113.setTop (mkF m 202 #[.val (.long p0), .second, .val (.int p1), .val (.int p2), .val (.int p3), .val (.long nn), .second, .val (.int kk), s8, .val (.int zz), s10, .val (.int oo), .val (.int gg), .val (.int lenv), .val (.ref b105), .unset, .unset, .unset] [(.int gg), (.long nn), (.int kk), (.int zz), (.int lenv), (.int oo), (.int 2), (.int 2), (.ref b105)])) _
   obtain ⟨_, _, ⟨T115, L115, k115, n115⟩, -, X115, ⟨Lc115, hQ115, l115, y115, z115⟩, st115⟩ := Jvm.LawKit.callS X113 hx (y := (⟨"com/example/depthline/depthline/core/DecimalParsePinLaw", "cell", "(IIIIIJC)C"⟩ : MethodName)) hown (mvT hZ (ow hw 5)) (mvT hZ (ow hw 6)) (mvT hZ (ow hw 7)) (mvT hZ (ow hw 8)) (by decide) (backOf (W := 2) (rm1 l Z a0 hw [] (2 : Int32) oo lenv zz kk nn gg h113 n0 O (own_HB hH (by decide) (by decide))) hZ (ow hw 8) (ow hw 7) (by decide) (by decide)) (g := (mkF m 202 #[.val (.long p0), .second, .val (.int p1), .val (.int p2), .val (.int p3), .val (.long nn), .second, .val (.int kk), s8, .val (.int zz), s10, .val (.int oo), .val (.int gg), .val (.int lenv), .val (.ref b105), .unset, .unset, .unset] [(.int gg), (.long nn), (.int kk), (.int zz), (.int lenv), (.int oo), (.int 2), (.int 2), (.ref b105)])) rfl (by rw [hml]; rfl) (argsL := [(.int 2), (.int oo), (.int lenv), (.int zz), (.int kk), (.long nn), (.int gg)]) (rest := [(.int 2), (.ref b105)]) (lenOf pd_4 rfl) rfl (by show 2 * 0 + _ ≤ _; exact Nat.le_of_eq rfl) (hb hby at_202) (fun _ _ => ⟨rfl, e113, (by decide : 3 + 1 ≤ _), (by decide : 60 + 18 ≤ _)⟩)
   dsimp only [Pt.U, Pt.locs, Pt.cells, Pt.slots] at X115 l115 y115 z115 st115 hQ115
   subst y115 z115
   obtain ⟨rfl, N115q, Kq115⟩ := hQ115
   refine own_go (fun _ k => st115 _ k) ?_
   have N115 := own_frl l115 (Fr.app N113 N115q)
   replace V_b105 := V_b105.keep Kq115 nin0
   replace O := O.keep Kq115 all0
   have K116 := K114.trans Kq115 all0
   clear X113 e113 st115 l115 N113 N115q K114 Kq115
   show own_Fin p e below (T115.setTop (mkF m 205 #[.val (.long p0), .second, .val (.int p1), .val (.int p2), .val (.int p3), .val (.long nn), .second, .val (.int kk), s8, .val (.int zz), s10, .val (.int oo), .val (.int gg), .val (.int lenv), .val (.ref b105), .unset, .unset, .unset] [(.int (own_cell (2 : Int32) oo lenv zz kk nn gg)), (.int 2), (.ref b105)])) _
   obtain ⟨cl117, A117, q117, S117, M117, H117, G117⟩ := id V_b105
   have hin117 : ¬ ((2 : Int32) < 0 ∨ cl117.slots.size ≤ ((2 : Int32)).toNatClampNeg) := inb_of S117 ⟨by decide, by decide⟩
   obtain ⟨T117, h117, X117, e117, W117, st117⟩ := stC X115 hx hZ rfl A117 (j := (2 : Int32)) hin117 (g := (mkF m 205 #[.val (.long p0), .second, .val (.int p1), .val (.int p2), .val (.int p3), .val (.long nn), .second, .val (.int kk), s8, .val (.int zz), s10, .val (.int oo), .val (.int gg), .val (.int lenv), .val (.ref b105), .unset, .unset, .unset] [(.int (own_cell (2 : Int32) oo lenv zz kk nn gg)), (.int 2), (.ref b105)])) rfl rfl (hb hby at_205)
   refine own_go (fun _ k => st117 _ k) ?_
   replace O := O.wr W117 g_b105
   have K118 := K116.wr W117 (Or.inr sz_b105)
   replace V_b105 : Arv Z h117 b105 k105 .char (24 : Int32) [(.int (nar .char (own_cell (0 : Int32) oo lenv zz kk nn gg))), (.int (nar .char (own_cell (1 : Int32) oo lenv zz kk nn gg))), (.int (nar .char (own_cell (2 : Int32) oo lenv zz kk nn gg))), (.int 0), (.int 0), (.int 0), (.int 0), (.int 0), (.int 0), (.int 0), (.int 0), (.int 0), (.int 0), (.int 0), (.int 0), (.int 0), (.int 0), (.int 0), (.int 0), (.int 0), (.int 0), (.int 0), (.int 0), (.int 0)] (.int 0) := Arv.set A117 q117 S117 M117 H117 G117 (fits_nar_char _) W117 2 rfl (Nat.le_of_ble_eq_true rfl)
   have N117 := Fr.snoc X117 N115 g_b105
   clear X115 hin117 st117 K116 A117 q117 S117 M117 H117 G117 W117 N115
   show own_Fin p e below (T117.setTop (mkF m 206 #[.val (.long p0), .second, .val (.int p1), .val (.int p2), .val (.int p3), .val (.long nn), .second, .val (.int kk), s8, .val (.int zz), s10, .val (.int oo), .val (.int gg), .val (.int lenv), .val (.ref b105), .unset, .unset, .unset] [])) _
   refine own_go (fun _ k => XS.aload X117.here hx rfl (hb hby at_206) rfl rfl (XS.iconst X117.here hx rfl (hb hby at_208) (XS.iconst X117.here hx rfl (hb hby at_209) (XS.iload X117.here hx rfl (hb hby at_210) rfl (XS.iload X117.here hx rfl (hb hby at_212) rfl (XS.iload X117.here hx rfl (hb hby at_214) rfl (XS.iload X117.here hx rfl (hb hby at_216) rfl (XS.lload X117.here hx rfl (hb hby at_218) rfl (XS.iload X117.here hx rfl (hb hby at_220) rfl k))))))))) ?_
   show own_Fin p e below (T117.setTop (mkF m 222 #[.val (.long p0), .second, .val (.int p1), .val (.int p2), .val (.int p3), .val (.long nn), .second, .val (.int kk), s8, .val (.int zz), s10, .val (.int oo), .val (.int gg), .val (.int lenv), .val (.ref b105), .unset, .unset, .unset] [(.int gg), (.long nn), (.int kk), (.int zz), (.int lenv), (.int oo), (.int 3), (.int 3), (.ref b105)])) _
   obtain ⟨_, _, ⟨T119, L119, k119, n119⟩, -, X119, ⟨Lc119, hQ119, l119, y119, z119⟩, st119⟩ := Jvm.LawKit.callS X117 hx (y := (⟨"com/example/depthline/depthline/core/DecimalParsePinLaw", "cell", "(IIIIIJC)C"⟩ : MethodName)) hown (mvT hZ (ow hw 5)) (mvT hZ (ow hw 6)) (mvT hZ (ow hw 7)) (mvT hZ (ow hw 8)) (by decide) (backOf (W := 2) (rm1 l Z a0 hw [] (3 : Int32) oo lenv zz kk nn gg h117 n0 O (own_HB hH (by decide) (by decide))) hZ (ow hw 8) (ow hw 7) (by decide) (by decide)) (g := (mkF m 222 #[.val (.long p0), .second, .val (.int p1), .val (.int p2), .val (.int p3), .val (.long nn), .second, .val (.int kk), s8, .val (.int zz), s10, .val (.int oo), .val (.int gg), .val (.int lenv), .val (.ref b105), .unset, .unset, .unset] [(.int gg), (.long nn), (.int kk), (.int zz), (.int lenv), (.int oo), (.int 3), (.int 3), (.ref b105)])) rfl (by rw [hml]; rfl) (argsL := [(.int 3), (.int oo), (.int lenv), (.int zz), (.int kk), (.long nn), (.int gg)]) (rest := [(.int 3), (.ref b105)]) (lenOf pd_4 rfl) rfl (by show 2 * 0 + _ ≤ _; exact Nat.le_of_eq rfl) (hb hby at_222) (fun _ _ => ⟨rfl, e117, (by decide : 4 + 1 ≤ _), (by decide : 78 + 18 ≤ _)⟩)
   dsimp only [Pt.U, Pt.locs, Pt.cells, Pt.slots] at X119 l119 y119 z119 st119 hQ119
   subst y119 z119
   obtain ⟨rfl, N119q, Kq119⟩ := hQ119
   refine own_go (fun _ k => st119 _ k) ?_
   have N119 := own_frl l119 (Fr.app N117 N119q)
   replace V_b105 := V_b105.keep Kq119 nin0
   replace O := O.keep Kq119 all0
   have K120 := K118.trans Kq119 all0
   clear X117 e117 st119 l119 N117 N119q K118 Kq119
   show own_Fin p e below (T119.setTop (mkF m 225 #[.val (.long p0), .second, .val (.int p1), .val (.int p2), .val (.int p3), .val (.long nn), .second, .val (.int kk), s8, .val (.int zz), s10, .val (.int oo), .val (.int gg), .val (.int lenv), .val (.ref b105), .unset, .unset, .unset] [(.int (own_cell (3 : Int32) oo lenv zz kk nn gg)), (.int 3), (.ref b105)])) _
   obtain ⟨cl121, A121, q121, S121, M121, H121, G121⟩ := id V_b105
   have hin121 : ¬ ((3 : Int32) < 0 ∨ cl121.slots.size ≤ ((3 : Int32)).toNatClampNeg) := inb_of S121 ⟨by decide, by decide⟩
   obtain ⟨T121, h121, X121, e121, W121, st121⟩ := stC X119 hx hZ rfl A121 (j := (3 : Int32)) hin121 (g := (mkF m 225 #[.val (.long p0), .second, .val (.int p1), .val (.int p2), .val (.int p3), .val (.long nn), .second, .val (.int kk), s8, .val (.int zz), s10, .val (.int oo), .val (.int gg), .val (.int lenv), .val (.ref b105), .unset, .unset, .unset] [(.int (own_cell (3 : Int32) oo lenv zz kk nn gg)), (.int 3), (.ref b105)])) rfl rfl (hb hby at_225)
   refine own_go (fun _ k => st121 _ k) ?_
   replace O := O.wr W121 g_b105
   have K122 := K120.wr W121 (Or.inr sz_b105)
   replace V_b105 : Arv Z h121 b105 k105 .char (24 : Int32) [(.int (nar .char (own_cell (0 : Int32) oo lenv zz kk nn gg))), (.int (nar .char (own_cell (1 : Int32) oo lenv zz kk nn gg))), (.int (nar .char (own_cell (2 : Int32) oo lenv zz kk nn gg))), (.int (nar .char (own_cell (3 : Int32) oo lenv zz kk nn gg))), (.int 0), (.int 0), (.int 0), (.int 0), (.int 0), (.int 0), (.int 0), (.int 0), (.int 0), (.int 0), (.int 0), (.int 0), (.int 0), (.int 0), (.int 0), (.int 0), (.int 0), (.int 0), (.int 0), (.int 0)] (.int 0) := Arv.set A121 q121 S121 M121 H121 G121 (fits_nar_char _) W121 3 rfl (Nat.le_of_ble_eq_true rfl)
   have N121 := Fr.snoc X121 N119 g_b105
   clear X119 hin121 st121 K120 A121 q121 S121 M121 H121 G121 W121 N119
   show own_Fin p e below (T121.setTop (mkF m 226 #[.val (.long p0), .second, .val (.int p1), .val (.int p2), .val (.int p3), .val (.long nn), .second, .val (.int kk), s8, .val (.int zz), s10, .val (.int oo), .val (.int gg), .val (.int lenv), .val (.ref b105), .unset, .unset, .unset] [])) _
   refine own_go (fun _ k => XS.aload X121.here hx rfl (hb hby at_226) rfl rfl (XS.iconst X121.here hx rfl (hb hby at_228) (XS.iconst X121.here hx rfl (hb hby at_229) (XS.iload X121.here hx rfl (hb hby at_230) rfl (XS.iload X121.here hx rfl (hb hby at_232) rfl (XS.iload X121.here hx rfl (hb hby at_234) rfl (XS.iload X121.here hx rfl (hb hby at_236) rfl (XS.lload X121.here hx rfl (hb hby at_238) rfl (XS.iload X121.here hx rfl (hb hby at_240) rfl k))))))))) ?_
   show own_Fin p e below (T121.setTop (mkF m 242 #[.val (.long p0), .second, .val (.int p1), .val (.int p2), .val (.int p3), .val (.long nn), .second, .val (.int kk), s8, .val (.int zz), s10, .val (.int oo), .val (.int gg), .val (.int lenv), .val (.ref b105), .unset, .unset, .unset] [(.int gg), (.long nn), (.int kk), (.int zz), (.int lenv), (.int oo), (.int 4), (.int 4), (.ref b105)])) _
   obtain ⟨_, _, ⟨T123, L123, k123, n123⟩, -, X123, ⟨Lc123, hQ123, l123, y123, z123⟩, st123⟩ := Jvm.LawKit.callS X121 hx (y := (⟨"com/example/depthline/depthline/core/DecimalParsePinLaw", "cell", "(IIIIIJC)C"⟩ : MethodName)) hown (mvT hZ (ow hw 5)) (mvT hZ (ow hw 6)) (mvT hZ (ow hw 7)) (mvT hZ (ow hw 8)) (by decide) (backOf (W := 2) (rm1 l Z a0 hw [] (4 : Int32) oo lenv zz kk nn gg h121 n0 O (own_HB hH (by decide) (by decide))) hZ (ow hw 8) (ow hw 7) (by decide) (by decide)) (g := (mkF m 242 #[.val (.long p0), .second, .val (.int p1), .val (.int p2), .val (.int p3), .val (.long nn), .second, .val (.int kk), s8, .val (.int zz), s10, .val (.int oo), .val (.int gg), .val (.int lenv), .val (.ref b105), .unset, .unset, .unset] [(.int gg), (.long nn), (.int kk), (.int zz), (.int lenv), (.int oo), (.int 4), (.int 4), (.ref b105)])) rfl (by rw [hml]; rfl) (argsL := [(.int 4), (.int oo), (.int lenv), (.int zz), (.int kk), (.long nn), (.int gg)]) (rest := [(.int 4), (.ref b105)]) (lenOf pd_4 rfl) rfl (by show 2 * 0 + _ ≤ _; exact Nat.le_of_eq rfl) (hb hby at_242) (fun _ _ => ⟨rfl, e121, (by decide : 5 + 1 ≤ _), (by decide : 96 + 18 ≤ _)⟩)
   dsimp only [Pt.U, Pt.locs, Pt.cells, Pt.slots] at X123 l123 y123 z123 st123 hQ123
   subst y123 z123
   obtain ⟨rfl, N123q, Kq123⟩ := hQ123
   refine own_go (fun _ k => st123 _ k) ?_
   have N123 := own_frl l123 (Fr.app N121 N123q)
   replace V_b105 := V_b105.keep Kq123 nin0
   replace O := O.keep Kq123 all0
   have K124 := K122.trans Kq123 all0
   clear X121 e121 st123 l123 N121 N123q K122 Kq123
   show own_Fin p e below (T123.setTop (mkF m 245 #[.val (.long p0), .second, .val (.int p1), .val (.int p2), .val (.int p3), .val (.long nn), .second, .val (.int kk), s8, .val (.int zz), s10, .val (.int oo), .val (.int gg), .val (.int lenv), .val (.ref b105), .unset, .unset, .unset] [(.int (own_cell (4 : Int32) oo lenv zz kk nn gg)), (.int 4), (.ref b105)])) _
   obtain ⟨cl125, A125, q125, S125, M125, H125, G125⟩ := id V_b105
   have hin125 : ¬ ((4 : Int32) < 0 ∨ cl125.slots.size ≤ ((4 : Int32)).toNatClampNeg) := inb_of S125 ⟨by decide, by decide⟩
   obtain ⟨T125, h125, X125, e125, W125, st125⟩ := stC X123 hx hZ rfl A125 (j := (4 : Int32)) hin125 (g := (mkF m 245 #[.val (.long p0), .second, .val (.int p1), .val (.int p2), .val (.int p3), .val (.long nn), .second, .val (.int kk), s8, .val (.int zz), s10, .val (.int oo), .val (.int gg), .val (.int lenv), .val (.ref b105), .unset, .unset, .unset] [(.int (own_cell (4 : Int32) oo lenv zz kk nn gg)), (.int 4), (.ref b105)])) rfl rfl (hb hby at_245)
   refine own_go (fun _ k => st125 _ k) ?_
   replace O := O.wr W125 g_b105
   have K126 := K124.wr W125 (Or.inr sz_b105)
   replace V_b105 : Arv Z h125 b105 k105 .char (24 : Int32) [(.int (nar .char (own_cell (0 : Int32) oo lenv zz kk nn gg))), (.int (nar .char (own_cell (1 : Int32) oo lenv zz kk nn gg))), (.int (nar .char (own_cell (2 : Int32) oo lenv zz kk nn gg))), (.int (nar .char (own_cell (3 : Int32) oo lenv zz kk nn gg))), (.int (nar .char (own_cell (4 : Int32) oo lenv zz kk nn gg))), (.int 0), (.int 0), (.int 0), (.int 0), (.int 0), (.int 0), (.int 0), (.int 0), (.int 0), (.int 0), (.int 0), (.int 0), (.int 0), (.int 0), (.int 0), (.int 0), (.int 0), (.int 0), (.int 0)] (.int 0) := Arv.set A125 q125 S125 M125 H125 G125 (fits_nar_char _) W125 4 rfl (Nat.le_of_ble_eq_true rfl)
   have N125 := Fr.snoc X125 N123 g_b105
   clear X123 hin125 st125 K124 A125 q125 S125 M125 H125 G125 W125 N123
   show own_Fin p e below (T125.setTop (mkF m 246 #[.val (.long p0), .second, .val (.int p1), .val (.int p2), .val (.int p3), .val (.long nn), .second, .val (.int kk), s8, .val (.int zz), s10, .val (.int oo), .val (.int gg), .val (.int lenv), .val (.ref b105), .unset, .unset, .unset] [])) _
   refine own_go (fun _ k => XS.aload X125.here hx rfl (hb hby at_246) rfl rfl (XS.iconst X125.here hx rfl (hb hby at_248) (XS.iconst X125.here hx rfl (hb hby at_249) (XS.iload X125.here hx rfl (hb hby at_250) rfl (XS.iload X125.here hx rfl (hb hby at_252) rfl (XS.iload X125.here hx rfl (hb hby at_254) rfl (XS.iload X125.here hx rfl (hb hby at_256) rfl (XS.lload X125.here hx rfl (hb hby at_258) rfl (XS.iload X125.here hx rfl (hb hby at_260) rfl k))))))))) ?_
   show own_Fin p e below (T125.setTop (mkF m 262 #[.val (.long p0), .second, .val (.int p1), .val (.int p2), .val (.int p3), .val (.long nn), .second, .val (.int kk), s8, .val (.int zz), s10, .val (.int oo), .val (.int gg), .val (.int lenv), .val (.ref b105), .unset, .unset, .unset] [(.int gg), (.long nn), (.int kk), (.int zz), (.int lenv), (.int oo), (.int 5), (.int 5), (.ref b105)])) _
   obtain ⟨_, _, ⟨T127, L127, k127, n127⟩, -, X127, ⟨Lc127, hQ127, l127, y127, z127⟩, st127⟩ := Jvm.LawKit.callS X125 hx (y := (⟨"com/example/depthline/depthline/core/DecimalParsePinLaw", "cell", "(IIIIIJC)C"⟩ : MethodName)) hown (mvT hZ (ow hw 5)) (mvT hZ (ow hw 6)) (mvT hZ (ow hw 7)) (mvT hZ (ow hw 8)) (by decide) (backOf (W := 2) (rm1 l Z a0 hw [] (5 : Int32) oo lenv zz kk nn gg h125 n0 O (own_HB hH (by decide) (by decide))) hZ (ow hw 8) (ow hw 7) (by decide) (by decide)) (g := (mkF m 262 #[.val (.long p0), .second, .val (.int p1), .val (.int p2), .val (.int p3), .val (.long nn), .second, .val (.int kk), s8, .val (.int zz), s10, .val (.int oo), .val (.int gg), .val (.int lenv), .val (.ref b105), .unset, .unset, .unset] [(.int gg), (.long nn), (.int kk), (.int zz), (.int lenv), (.int oo), (.int 5), (.int 5), (.ref b105)])) rfl (by rw [hml]; rfl) (argsL := [(.int 5), (.int oo), (.int lenv), (.int zz), (.int kk), (.long nn), (.int gg)]) (rest := [(.int 5), (.ref b105)]) (lenOf pd_4 rfl) rfl (by show 2 * 0 + _ ≤ _; exact Nat.le_of_eq rfl) (hb hby at_262) (fun _ _ => ⟨rfl, e125, (by decide : 6 + 1 ≤ _), (by decide : 114 + 18 ≤ _)⟩)
   dsimp only [Pt.U, Pt.locs, Pt.cells, Pt.slots] at X127 l127 y127 z127 st127 hQ127
   subst y127 z127
   obtain ⟨rfl, N127q, Kq127⟩ := hQ127
   refine own_go (fun _ k => st127 _ k) ?_
   have N127 := own_frl l127 (Fr.app N125 N127q)
   replace V_b105 := V_b105.keep Kq127 nin0
   replace O := O.keep Kq127 all0
   have K128 := K126.trans Kq127 all0
   clear X125 e125 st127 l127 N125 N127q K126 Kq127
   show own_Fin p e below (T127.setTop (mkF m 265 #[.val (.long p0), .second, .val (.int p1), .val (.int p2), .val (.int p3), .val (.long nn), .second, .val (.int kk), s8, .val (.int zz), s10, .val (.int oo), .val (.int gg), .val (.int lenv), .val (.ref b105), .unset, .unset, .unset] [(.int (own_cell (5 : Int32) oo lenv zz kk nn gg)), (.int 5), (.ref b105)])) _
   obtain ⟨cl129, A129, q129, S129, M129, H129, G129⟩ := id V_b105
   have hin129 : ¬ ((5 : Int32) < 0 ∨ cl129.slots.size ≤ ((5 : Int32)).toNatClampNeg) := inb_of S129 ⟨by decide, by decide⟩
   obtain ⟨T129, h129, X129, e129, W129, st129⟩ := stC X127 hx hZ rfl A129 (j := (5 : Int32)) hin129 (g := (mkF m 265 #[.val (.long p0), .second, .val (.int p1), .val (.int p2), .val (.int p3), .val (.long nn), .second, .val (.int kk), s8, .val (.int zz), s10, .val (.int oo), .val (.int gg), .val (.int lenv), .val (.ref b105), .unset, .unset, .unset] [(.int (own_cell (5 : Int32) oo lenv zz kk nn gg)), (.int 5), (.ref b105)])) rfl rfl (hb hby at_265)
   refine own_go (fun _ k => st129 _ k) ?_
   replace O := O.wr W129 g_b105
   have K130 := K128.wr W129 (Or.inr sz_b105)
   replace V_b105 : Arv Z h129 b105 k105 .char (24 : Int32) [(.int (nar .char (own_cell (0 : Int32) oo lenv zz kk nn gg))), (.int (nar .char (own_cell (1 : Int32) oo lenv zz kk nn gg))), (.int (nar .char (own_cell (2 : Int32) oo lenv zz kk nn gg))), (.int (nar .char (own_cell (3 : Int32) oo lenv zz kk nn gg))), (.int (nar .char (own_cell (4 : Int32) oo lenv zz kk nn gg))), (.int (nar .char (own_cell (5 : Int32) oo lenv zz kk nn gg))), (.int 0), (.int 0), (.int 0), (.int 0), (.int 0), (.int 0), (.int 0), (.int 0), (.int 0), (.int 0), (.int 0), (.int 0), (.int 0), (.int 0), (.int 0), (.int 0), (.int 0), (.int 0)] (.int 0) := Arv.set A129 q129 S129 M129 H129 G129 (fits_nar_char _) W129 5 rfl (Nat.le_of_ble_eq_true rfl)
   have N129 := Fr.snoc X129 N127 g_b105
   clear X127 hin129 st129 K128 A129 q129 S129 M129 H129 G129 W129 N127
   show own_Fin p e below (T129.setTop (mkF m 266 #[.val (.long p0), .second, .val (.int p1), .val (.int p2), .val (.int p3), .val (.long nn), .second, .val (.int kk), s8, .val (.int zz), s10, .val (.int oo), .val (.int gg), .val (.int lenv), .val (.ref b105), .unset, .unset, .unset] [])) _
   refine own_go (fun _ k => XS.aload X129.here hx rfl (hb hby at_266) rfl rfl (XS.bipush X129.here hx rfl (hb hby at_268) (XS.bipush X129.here hx rfl (hb hby at_270) (XS.iload X129.here hx rfl (hb hby at_272) rfl (XS.iload X129.here hx rfl (hb hby at_274) rfl (XS.iload X129.here hx rfl (hb hby at_276) rfl (XS.iload X129.here hx rfl (hb hby at_278) rfl (XS.lload X129.here hx rfl (hb hby at_280) rfl (XS.iload X129.here hx rfl (hb hby at_282) rfl k))))))))) ?_
   show own_Fin p e below (T129.setTop (mkF m 284 #[.val (.long p0), .second, .val (.int p1), .val (.int p2), .val (.int p3), .val (.long nn), .second, .val (.int kk), s8, .val (.int zz), s10, .val (.int oo), .val (.int gg), .val (.int lenv), .val (.ref b105), .unset, .unset, .unset] [(.int gg), (.long nn), (.int kk), (.int zz), (.int lenv), (.int oo), (.int 6), (.int 6), (.ref b105)])) _
   obtain ⟨_, _, ⟨T131, L131, k131, n131⟩, -, X131, ⟨Lc131, hQ131, l131, y131, z131⟩, st131⟩ := Jvm.LawKit.callS X129 hx (y := (⟨"com/example/depthline/depthline/core/DecimalParsePinLaw", "cell", "(IIIIIJC)C"⟩ : MethodName)) hown (mvT hZ (ow hw 5)) (mvT hZ (ow hw 6)) (mvT hZ (ow hw 7)) (mvT hZ (ow hw 8)) (by decide) (backOf (W := 2) (rm1 l Z a0 hw [] (6 : Int32) oo lenv zz kk nn gg h129 n0 O (own_HB hH (by decide) (by decide))) hZ (ow hw 8) (ow hw 7) (by decide) (by decide)) (g := (mkF m 284 #[.val (.long p0), .second, .val (.int p1), .val (.int p2), .val (.int p3), .val (.long nn), .second, .val (.int kk), s8, .val (.int zz), s10, .val (.int oo), .val (.int gg), .val (.int lenv), .val (.ref b105), .unset, .unset, .unset] [(.int gg), (.long nn), (.int kk), (.int zz), (.int lenv), (.int oo), (.int 6), (.int 6), (.ref b105)])) rfl (by rw [hml]; rfl) (argsL := [(.int 6), (.int oo), (.int lenv), (.int zz), (.int kk), (.long nn), (.int gg)]) (rest := [(.int 6), (.ref b105)]) (lenOf pd_4 rfl) rfl (by show 2 * 0 + _ ≤ _; exact Nat.le_of_eq rfl) (hb hby at_284) (fun _ _ => ⟨rfl, e129, (by decide : 7 + 1 ≤ _), (by decide : 132 + 18 ≤ _)⟩)
   dsimp only [Pt.U, Pt.locs, Pt.cells, Pt.slots] at X131 l131 y131 z131 st131 hQ131
   subst y131 z131
   obtain ⟨rfl, N131q, Kq131⟩ := hQ131
   refine own_go (fun _ k => st131 _ k) ?_
   have N131 := own_frl l131 (Fr.app N129 N131q)
   replace V_b105 := V_b105.keep Kq131 nin0
   replace O := O.keep Kq131 all0
   have K132 := K130.trans Kq131 all0
   clear X129 e129 st131 l131 N129 N131q K130 Kq131
   show own_Fin p e below (T131.setTop (mkF m 287 #[.val (.long p0), .second, .val (.int p1), .val (.int p2), .val (.int p3), .val (.long nn), .second, .val (.int kk), s8, .val (.int zz), s10, .val (.int oo), .val (.int gg), .val (.int lenv), .val (.ref b105), .unset, .unset, .unset] [(.int (own_cell (6 : Int32) oo lenv zz kk nn gg)), (.int 6), (.ref b105)])) _
   obtain ⟨cl133, A133, q133, S133, M133, H133, G133⟩ := id V_b105
   have hin133 : ¬ ((6 : Int32) < 0 ∨ cl133.slots.size ≤ ((6 : Int32)).toNatClampNeg) := inb_of S133 ⟨by decide, by decide⟩
   obtain ⟨T133, h133, X133, e133, W133, st133⟩ := stC X131 hx hZ rfl A133 (j := (6 : Int32)) hin133 (g := (mkF m 287 #[.val (.long p0), .second, .val (.int p1), .val (.int p2), .val (.int p3), .val (.long nn), .second, .val (.int kk), s8, .val (.int zz), s10, .val (.int oo), .val (.int gg), .val (.int lenv), .val (.ref b105), .unset, .unset, .unset] [(.int (own_cell (6 : Int32) oo lenv zz kk nn gg)), (.int 6), (.ref b105)])) rfl rfl (hb hby at_287)
   refine own_go (fun _ k => st133 _ k) ?_
   replace O := O.wr W133 g_b105
   have K134 := K132.wr W133 (Or.inr sz_b105)
   replace V_b105 : Arv Z h133 b105 k105 .char (24 : Int32) [(.int (nar .char (own_cell (0 : Int32) oo lenv zz kk nn gg))), (.int (nar .char (own_cell (1 : Int32) oo lenv zz kk nn gg))), (.int (nar .char (own_cell (2 : Int32) oo lenv zz kk nn gg))), (.int (nar .char (own_cell (3 : Int32) oo lenv zz kk nn gg))), (.int (nar .char (own_cell (4 : Int32) oo lenv zz kk nn gg))), (.int (nar .char (own_cell (5 : Int32) oo lenv zz kk nn gg))), (.int (nar .char (own_cell (6 : Int32) oo lenv zz kk nn gg))), (.int 0), (.int 0), (.int 0), (.int 0), (.int 0), (.int 0), (.int 0), (.int 0), (.int 0), (.int 0), (.int 0), (.int 0), (.int 0), (.int 0), (.int 0), (.int 0), (.int 0)] (.int 0) := Arv.set A133 q133 S133 M133 H133 G133 (fits_nar_char _) W133 6 rfl (Nat.le_of_ble_eq_true rfl)
   have N133 := Fr.snoc X133 N131 g_b105
   clear X131 hin133 st133 K132 A133 q133 S133 M133 H133 G133 W133 N131
   show own_Fin p e below (T133.setTop (mkF m 288 #[.val (.long p0), .second, .val (.int p1), .val (.int p2), .val (.int p3), .val (.long nn), .second, .val (.int kk), s8, .val (.int zz), s10, .val (.int oo), .val (.int gg), .val (.int lenv), .val (.ref b105), .unset, .unset, .unset] [])) _
   refine own_go (fun _ k => XS.aload X133.here hx rfl (hb hby at_288) rfl rfl (XS.bipush X133.here hx rfl (hb hby at_290) (XS.bipush X133.here hx rfl (hb hby at_292) (XS.iload X133.here hx rfl (hb hby at_294) rfl (XS.iload X133.here hx rfl (hb hby at_296) rfl (XS.iload X133.here hx rfl (hb hby at_298) rfl (XS.iload X133.here hx rfl (hb hby at_300) rfl (XS.lload X133.here hx rfl (hb hby at_302) rfl (XS.iload X133.here hx rfl (hb hby at_304) rfl k))))))))) ?_
   show own_Fin p e below (T133.setTop (mkF m 306 #[.val (.long p0), .second, .val (.int p1), .val (.int p2), .val (.int p3), .val (.long nn), .second, .val (.int kk), s8, .val (.int zz), s10, .val (.int oo), .val (.int gg), .val (.int lenv), .val (.ref b105), .unset, .unset, .unset] [(.int gg), (.long nn), (.int kk), (.int zz), (.int lenv), (.int oo), (.int 7), (.int 7), (.ref b105)])) _
   obtain ⟨_, _, ⟨T135, L135, k135, n135⟩, -, X135, ⟨Lc135, hQ135, l135, y135, z135⟩, st135⟩ := Jvm.LawKit.callS X133 hx (y := (⟨"com/example/depthline/depthline/core/DecimalParsePinLaw", "cell", "(IIIIIJC)C"⟩ : MethodName)) hown (mvT hZ (ow hw 5)) (mvT hZ (ow hw 6)) (mvT hZ (ow hw 7)) (mvT hZ (ow hw 8)) (by decide) (backOf (W := 2) (rm1 l Z a0 hw [] (7 : Int32) oo lenv zz kk nn gg h133 n0 O (own_HB hH (by decide) (by decide))) hZ (ow hw 8) (ow hw 7) (by decide) (by decide)) (g := (mkF m 306 #[.val (.long p0), .second, .val (.int p1), .val (.int p2), .val (.int p3), .val (.long nn), .second, .val (.int kk), s8, .val (.int zz), s10, .val (.int oo), .val (.int gg), .val (.int lenv), .val (.ref b105), .unset, .unset, .unset] [(.int gg), (.long nn), (.int kk), (.int zz), (.int lenv), (.int oo), (.int 7), (.int 7), (.ref b105)])) rfl (by rw [hml]; rfl) (argsL := [(.int 7), (.int oo), (.int lenv), (.int zz), (.int kk), (.long nn), (.int gg)]) (rest := [(.int 7), (.ref b105)]) (lenOf pd_4 rfl) rfl (by show 2 * 0 + _ ≤ _; exact Nat.le_of_eq rfl) (hb hby at_306) (fun _ _ => ⟨rfl, e133, (by decide : 8 + 1 ≤ _), (by decide : 150 + 18 ≤ _)⟩)
   dsimp only [Pt.U, Pt.locs, Pt.cells, Pt.slots] at X135 l135 y135 z135 st135 hQ135
   subst y135 z135
   obtain ⟨rfl, N135q, Kq135⟩ := hQ135
   refine own_go (fun _ k => st135 _ k) ?_
   have N135 := own_frl l135 (Fr.app N133 N135q)
   replace V_b105 := V_b105.keep Kq135 nin0
   replace O := O.keep Kq135 all0
   have K136 := K134.trans Kq135 all0
   clear X133 e133 st135 l135 N133 N135q K134 Kq135
   show own_Fin p e below (T135.setTop (mkF m 309 #[.val (.long p0), .second, .val (.int p1), .val (.int p2), .val (.int p3), .val (.long nn), .second, .val (.int kk), s8, .val (.int zz), s10, .val (.int oo), .val (.int gg), .val (.int lenv), .val (.ref b105), .unset, .unset, .unset] [(.int (own_cell (7 : Int32) oo lenv zz kk nn gg)), (.int 7), (.ref b105)])) _
   obtain ⟨cl137, A137, q137, S137, M137, H137, G137⟩ := id V_b105
   have hin137 : ¬ ((7 : Int32) < 0 ∨ cl137.slots.size ≤ ((7 : Int32)).toNatClampNeg) := inb_of S137 ⟨by decide, by decide⟩
   obtain ⟨T137, h137, X137, e137, W137, st137⟩ := stC X135 hx hZ rfl A137 (j := (7 : Int32)) hin137 (g := (mkF m 309 #[.val (.long p0), .second, .val (.int p1), .val (.int p2), .val (.int p3), .val (.long nn), .second, .val (.int kk), s8, .val (.int zz), s10, .val (.int oo), .val (.int gg), .val (.int lenv), .val (.ref b105), .unset, .unset, .unset] [(.int (own_cell (7 : Int32) oo lenv zz kk nn gg)), (.int 7), (.ref b105)])) rfl rfl (hb hby at_309)
   refine own_go (fun _ k => st137 _ k) ?_
   replace O := O.wr W137 g_b105
   have K138 := K136.wr W137 (Or.inr sz_b105)
   replace V_b105 : Arv Z h137 b105 k105 .char (24 : Int32) [(.int (nar .char (own_cell (0 : Int32) oo lenv zz kk nn gg))), (.int (nar .char (own_cell (1 : Int32) oo lenv zz kk nn gg))), (.int (nar .char (own_cell (2 : Int32) oo lenv zz kk nn gg))), (.int (nar .char (own_cell (3 : Int32) oo lenv zz kk nn gg))), (.int (nar .char (own_cell (4 : Int32) oo lenv zz kk nn gg))), (.int (nar .char (own_cell (5 : Int32) oo lenv zz kk nn gg))), (.int (nar .char (own_cell (6 : Int32) oo lenv zz kk nn gg))), (.int (nar .char (own_cell (7 : Int32) oo lenv zz kk nn gg))), (.int 0), (.int 0), (.int 0), (.int 0), (.int 0), (.int 0), (.int 0), (.int 0), (.int 0), (.int 0), (.int 0), (.int 0), (.int 0), (.int 0), (.int 0), (.int 0)] (.int 0) := Arv.set A137 q137 S137 M137 H137 G137 (fits_nar_char _) W137 7 rfl (Nat.le_of_ble_eq_true rfl)
   have N137 := Fr.snoc X137 N135 g_b105
   clear X135 hin137 st137 K136 A137 q137 S137 M137 H137 G137 W137 N135
   show own_Fin p e below (T137.setTop (mkF m 310 #[.val (.long p0), .second, .val (.int p1), .val (.int p2), .val (.int p3), .val (.long nn), .second, .val (.int kk), s8, .val (.int zz), s10, .val (.int oo), .val (.int gg), .val (.int lenv), .val (.ref b105), .unset, .unset, .unset] [])) _
   refine own_go (fun _ k => XS.aload X137.here hx rfl (hb hby at_310) rfl rfl (XS.bipush X137.here hx rfl (hb hby at_312) (XS.bipush X137.here hx rfl (hb hby at_314) (XS.iload X137.here hx rfl (hb hby at_316) rfl (XS.iload X137.here hx rfl (hb hby at_318) rfl (XS.iload X137.here hx rfl (hb hby at_320) rfl (XS.iload X137.here hx rfl (hb hby at_322) rfl (XS.lload X137.here hx rfl (hb hby at_324) rfl (XS.iload X137.here hx rfl (hb hby at_326) rfl k))))))))) ?_
   show own_Fin p e below (T137.setTop (mkF m 328 #[.val (.long p0), .second, .val (.int p1), .val (.int p2), .val (.int p3), .val (.long nn), .second, .val (.int kk), s8, .val (.int zz), s10, .val (.int oo), .val (.int gg), .val (.int lenv), .val (.ref b105), .unset, .unset, .unset] [(.int gg), (.long nn), (.int kk), (.int zz), (.int lenv), (.int oo), (.int 8), (.int 8), (.ref b105)])) _
   obtain ⟨_, _, ⟨T139, L139, k139, n139⟩, -, X139, ⟨Lc139, hQ139, l139, y139, z139⟩, st139⟩ := Jvm.LawKit.callS X137 hx (y := (⟨"com/example/depthline/depthline/core/DecimalParsePinLaw", "cell", "(IIIIIJC)C"⟩ : MethodName)) hown (mvT hZ (ow hw 5)) (mvT hZ (ow hw 6)) (mvT hZ (ow hw 7)) (mvT hZ (ow hw 8)) (by decide) (backOf (W := 2) (rm1 l Z a0 hw [] (8 : Int32) oo lenv zz kk nn gg h137 n0 O (own_HB hH (by decide) (by decide))) hZ (ow hw 8) (ow hw 7) (by decide) (by decide)) (g := (mkF m 328 #[.val (.long p0), .second, .val (.int p1), .val (.int p2), .val (.int p3), .val (.long nn), .second, .val (.int kk), s8, .val (.int zz), s10, .val (.int oo), .val (.int gg), .val (.int lenv), .val (.ref b105), .unset, .unset, .unset] [(.int gg), (.long nn), (.int kk), (.int zz), (.int lenv), (.int oo), (.int 8), (.int 8), (.ref b105)])) rfl (by rw [hml]; rfl) (argsL := [(.int 8), (.int oo), (.int lenv), (.int zz), (.int kk), (.long nn), (.int gg)]) (rest := [(.int 8), (.ref b105)]) (lenOf pd_4 rfl) rfl (by show 2 * 0 + _ ≤ _; exact Nat.le_of_eq rfl) (hb hby at_328) (fun _ _ => ⟨rfl, e137, (by decide : 9 + 1 ≤ _), (by decide : 168 + 18 ≤ _)⟩)
   dsimp only [Pt.U, Pt.locs, Pt.cells, Pt.slots] at X139 l139 y139 z139 st139 hQ139
   subst y139 z139
   obtain ⟨rfl, N139q, Kq139⟩ := hQ139
   refine own_go (fun _ k => st139 _ k) ?_
   have N139 := own_frl l139 (Fr.app N137 N139q)
   replace V_b105 := V_b105.keep Kq139 nin0
   replace O := O.keep Kq139 all0
   have K140 := K138.trans Kq139 all0
   clear X137 e137 st139 l139 N137 N139q K138 Kq139
   show own_Fin p e below (T139.setTop (mkF m 331 #[.val (.long p0), .second, .val (.int p1), .val (.int p2), .val (.int p3), .val (.long nn), .second, .val (.int kk), s8, .val (.int zz), s10, .val (.int oo), .val (.int gg), .val (.int lenv), .val (.ref b105), .unset, .unset, .unset] [(.int (own_cell (8 : Int32) oo lenv zz kk nn gg)), (.int 8), (.ref b105)])) _
   obtain ⟨cl141, A141, q141, S141, M141, H141, G141⟩ := id V_b105
   have hin141 : ¬ ((8 : Int32) < 0 ∨ cl141.slots.size ≤ ((8 : Int32)).toNatClampNeg) := inb_of S141 ⟨by decide, by decide⟩
   obtain ⟨T141, h141, X141, e141, W141, st141⟩ := stC X139 hx hZ rfl A141 (j := (8 : Int32)) hin141 (g := (mkF m 331 #[.val (.long p0), .second, .val (.int p1), .val (.int p2), .val (.int p3), .val (.long nn), .second, .val (.int kk), s8, .val (.int zz), s10, .val (.int oo), .val (.int gg), .val (.int lenv), .val (.ref b105), .unset, .unset, .unset] [(.int (own_cell (8 : Int32) oo lenv zz kk nn gg)), (.int 8), (.ref b105)])) rfl rfl (hb hby at_331)
   refine own_go (fun _ k => st141 _ k) ?_
   replace O := O.wr W141 g_b105
   have K142 := K140.wr W141 (Or.inr sz_b105)
   replace V_b105 : Arv Z h141 b105 k105 .char (24 : Int32) [(.int (nar .char (own_cell (0 : Int32) oo lenv zz kk nn gg))), (.int (nar .char (own_cell (1 : Int32) oo lenv zz kk nn gg))), (.int (nar .char (own_cell (2 : Int32) oo lenv zz kk nn gg))), (.int (nar .char (own_cell (3 : Int32) oo lenv zz kk nn gg))), (.int (nar .char (own_cell (4 : Int32) oo lenv zz kk nn gg))), (.int (nar .char (own_cell (5 : Int32) oo lenv zz kk nn gg))), (.int (nar .char (own_cell (6 : Int32) oo lenv zz kk nn gg))), (.int (nar .char (own_cell (7 : Int32) oo lenv zz kk nn gg))), (.int (nar .char (own_cell (8 : Int32) oo lenv zz kk nn gg))), (.int 0), (.int 0), (.int 0), (.int 0), (.int 0), (.int 0), (.int 0), (.int 0), (.int 0), (.int 0), (.int 0), (.int 0), (.int 0), (.int 0), (.int 0)] (.int 0) := Arv.set A141 q141 S141 M141 H141 G141 (fits_nar_char _) W141 8 rfl (Nat.le_of_ble_eq_true rfl)
   have N141 := Fr.snoc X141 N139 g_b105
   clear X139 hin141 st141 K140 A141 q141 S141 M141 H141 G141 W141 N139
   show own_Fin p e below (T141.setTop (mkF m 332 #[.val (.long p0), .second, .val (.int p1), .val (.int p2), .val (.int p3), .val (.long nn), .second, .val (.int kk), s8, .val (.int zz), s10, .val (.int oo), .val (.int gg), .val (.int lenv), .val (.ref b105), .unset, .unset, .unset] [])) _
   refine own_go (fun _ k => XS.aload X141.here hx rfl (hb hby at_332) rfl rfl (XS.bipush X141.here hx rfl (hb hby at_334) (XS.bipush X141.here hx rfl (hb hby at_336) (XS.iload X141.here hx rfl (hb hby at_338) rfl (XS.iload X141.here hx rfl (hb hby at_340) rfl (XS.iload X141.here hx rfl (hb hby at_342) rfl (XS.iload X141.here hx rfl (hb hby at_344) rfl (XS.lload X141.here hx rfl (hb hby at_346) rfl (XS.iload X141.here hx rfl (hb hby at_348) rfl k))))))))) ?_
   show own_Fin p e below (T141.setTop (mkF m 350 #[.val (.long p0), .second, .val (.int p1), .val (.int p2), .val (.int p3), .val (.long nn), .second, .val (.int kk), s8, .val (.int zz), s10, .val (.int oo), .val (.int gg), .val (.int lenv), .val (.ref b105), .unset, .unset, .unset] [(.int gg), (.long nn), (.int kk), (.int zz), (.int lenv), (.int oo), (.int 9), (.int 9), (.ref b105)])) _
   obtain ⟨_, _, ⟨T143, L143, k143, n143⟩, -, X143, ⟨Lc143, hQ143, l143, y143, z143⟩, st143⟩ := Jvm.LawKit.callS X141 hx (y := (⟨"com/example/depthline/depthline/core/DecimalParsePinLaw", "cell", "(IIIIIJC)C"⟩ : MethodName)) hown (mvT hZ (ow hw 5)) (mvT hZ (ow hw 6)) (mvT hZ (ow hw 7)) (mvT hZ (ow hw 8)) (by decide) (backOf (W := 2) (rm1 l Z a0 hw [] (9 : Int32) oo lenv zz kk nn gg h141 n0 O (own_HB hH (by decide) (by decide))) hZ (ow hw 8) (ow hw 7) (by decide) (by decide)) (g := (mkF m 350 #[.val (.long p0), .second, .val (.int p1), .val (.int p2), .val (.int p3), .val (.long nn), .second, .val (.int kk), s8, .val (.int zz), s10, .val (.int oo), .val (.int gg), .val (.int lenv), .val (.ref b105), .unset, .unset, .unset] [(.int gg), (.long nn), (.int kk), (.int zz), (.int lenv), (.int oo), (.int 9), (.int 9), (.ref b105)])) rfl (by rw [hml]; rfl) (argsL := [(.int 9), (.int oo), (.int lenv), (.int zz), (.int kk), (.long nn), (.int gg)]) (rest := [(.int 9), (.ref b105)]) (lenOf pd_4 rfl) rfl (by show 2 * 0 + _ ≤ _; exact Nat.le_of_eq rfl) (hb hby at_350) (fun _ _ => ⟨rfl, e141, (by decide : 10 + 1 ≤ _), (by decide : 186 + 18 ≤ _)⟩)
   dsimp only [Pt.U, Pt.locs, Pt.cells, Pt.slots] at X143 l143 y143 z143 st143 hQ143
   subst y143 z143
   obtain ⟨rfl, N143q, Kq143⟩ := hQ143
   refine own_go (fun _ k => st143 _ k) ?_
   have N143 := own_frl l143 (Fr.app N141 N143q)
   replace V_b105 := V_b105.keep Kq143 nin0
   replace O := O.keep Kq143 all0
   have K144 := K142.trans Kq143 all0
   clear X141 e141 st143 l143 N141 N143q K142 Kq143
   show own_Fin p e below (T143.setTop (mkF m 353 #[.val (.long p0), .second, .val (.int p1), .val (.int p2), .val (.int p3), .val (.long nn), .second, .val (.int kk), s8, .val (.int zz), s10, .val (.int oo), .val (.int gg), .val (.int lenv), .val (.ref b105), .unset, .unset, .unset] [(.int (own_cell (9 : Int32) oo lenv zz kk nn gg)), (.int 9), (.ref b105)])) _
   obtain ⟨cl145, A145, q145, S145, M145, H145, G145⟩ := id V_b105
   have hin145 : ¬ ((9 : Int32) < 0 ∨ cl145.slots.size ≤ ((9 : Int32)).toNatClampNeg) := inb_of S145 ⟨by decide, by decide⟩
   obtain ⟨T145, h145, X145, e145, W145, st145⟩ := stC X143 hx hZ rfl A145 (j := (9 : Int32)) hin145 (g := (mkF m 353 #[.val (.long p0), .second, .val (.int p1), .val (.int p2), .val (.int p3), .val (.long nn), .second, .val (.int kk), s8, .val (.int zz), s10, .val (.int oo), .val (.int gg), .val (.int lenv), .val (.ref b105), .unset, .unset, .unset] [(.int (own_cell (9 : Int32) oo lenv zz kk nn gg)), (.int 9), (.ref b105)])) rfl rfl (hb hby at_353)
   refine own_go (fun _ k => st145 _ k) ?_
   replace O := O.wr W145 g_b105
   have K146 := K144.wr W145 (Or.inr sz_b105)
   replace V_b105 : Arv Z h145 b105 k105 .char (24 : Int32) [(.int (nar .char (own_cell (0 : Int32) oo lenv zz kk nn gg))), (.int (nar .char (own_cell (1 : Int32) oo lenv zz kk nn gg))), (.int (nar .char (own_cell (2 : Int32) oo lenv zz kk nn gg))), (.int (nar .char (own_cell (3 : Int32) oo lenv zz kk nn gg))), (.int (nar .char (own_cell (4 : Int32) oo lenv zz kk nn gg))), (.int (nar .char (own_cell (5 : Int32) oo lenv zz kk nn gg))), (.int (nar .char (own_cell (6 : Int32) oo lenv zz kk nn gg))), (.int (nar .char (own_cell (7 : Int32) oo lenv zz kk nn gg))), (.int (nar .char (own_cell (8 : Int32) oo lenv zz kk nn gg))), (.int (nar .char (own_cell (9 : Int32) oo lenv zz kk nn gg))), (.int 0), (.int 0), (.int 0), (.int 0), (.int 0), (.int 0), (.int 0), (.int 0), (.int 0), (.int 0), (.int 0), (.int 0), (.int 0), (.int 0)] (.int 0) := Arv.set A145 q145 S145 M145 H145 G145 (fits_nar_char _) W145 9 rfl (Nat.le_of_ble_eq_true rfl)
   have N145 := Fr.snoc X145 N143 g_b105
   clear X143 hin145 st145 K144 A145 q145 S145 M145 H145 G145 W145 N143
   show own_Fin p e below (T145.setTop (mkF m 354 #[.val (.long p0), .second, .val (.int p1), .val (.int p2), .val (.int p3), .val (.long nn), .second, .val (.int kk), s8, .val (.int zz), s10, .val (.int oo), .val (.int gg), .val (.int lenv), .val (.ref b105), .unset, .unset, .unset] [])) _
   refine own_go (fun _ k => XS.aload X145.here hx rfl (hb hby at_354) rfl rfl (XS.bipush X145.here hx rfl (hb hby at_356) (XS.bipush X145.here hx rfl (hb hby at_358) (XS.iload X145.here hx rfl (hb hby at_360) rfl (XS.iload X145.here hx rfl (hb hby at_362) rfl (XS.iload X145.here hx rfl (hb hby at_364) rfl (XS.iload X145.here hx rfl (hb hby at_366) rfl (XS.lload X145.here hx rfl (hb hby at_368) rfl (XS.iload X145.here hx rfl (hb hby at_370) rfl k))))))))) ?_
   show own_Fin p e below (T145.setTop (mkF m 372 #[.val (.long p0), .second, .val (.int p1), .val (.int p2), .val (.int p3), .val (.long nn), .second, .val (.int kk), s8, .val (.int zz), s10, .val (.int oo), .val (.int gg), .val (.int lenv), .val (.ref b105), .unset, .unset, .unset] [(.int gg), (.long nn), (.int kk), (.int zz), (.int lenv), (.int oo), (.int 10), (.int 10), (.ref b105)])) _
   obtain ⟨_, _, ⟨T147, L147, k147, n147⟩, -, X147, ⟨Lc147, hQ147, l147, y147, z147⟩, st147⟩ := Jvm.LawKit.callS X145 hx (y := (⟨"com/example/depthline/depthline/core/DecimalParsePinLaw", "cell", "(IIIIIJC)C"⟩ : MethodName)) hown (mvT hZ (ow hw 5)) (mvT hZ (ow hw 6)) (mvT hZ (ow hw 7)) (mvT hZ (ow hw 8)) (by decide) (backOf (W := 2) (rm1 l Z a0 hw [] (10 : Int32) oo lenv zz kk nn gg h145 n0 O (own_HB hH (by decide) (by decide))) hZ (ow hw 8) (ow hw 7) (by decide) (by decide)) (g := (mkF m 372 #[.val (.long p0), .second, .val (.int p1), .val (.int p2), .val (.int p3), .val (.long nn), .second, .val (.int kk), s8, .val (.int zz), s10, .val (.int oo), .val (.int gg), .val (.int lenv), .val (.ref b105), .unset, .unset, .unset] [(.int gg), (.long nn), (.int kk), (.int zz), (.int lenv), (.int oo), (.int 10), (.int 10), (.ref b105)])) rfl (by rw [hml]; rfl) (argsL := [(.int 10), (.int oo), (.int lenv), (.int zz), (.int kk), (.long nn), (.int gg)]) (rest := [(.int 10), (.ref b105)]) (lenOf pd_4 rfl) rfl (by show 2 * 0 + _ ≤ _; exact Nat.le_of_eq rfl) (hb hby at_372) (fun _ _ => ⟨rfl, e145, (by decide : 11 + 1 ≤ _), (by decide : 204 + 18 ≤ _)⟩)
   dsimp only [Pt.U, Pt.locs, Pt.cells, Pt.slots] at X147 l147 y147 z147 st147 hQ147
   subst y147 z147
   obtain ⟨rfl, N147q, Kq147⟩ := hQ147
   refine own_go (fun _ k => st147 _ k) ?_
   have N147 := own_frl l147 (Fr.app N145 N147q)
   replace V_b105 := V_b105.keep Kq147 nin0
   replace O := O.keep Kq147 all0
   have K148 := K146.trans Kq147 all0
   clear X145 e145 st147 l147 N145 N147q K146 Kq147
   show own_Fin p e below (T147.setTop (mkF m 375 #[.val (.long p0), .second, .val (.int p1), .val (.int p2), .val (.int p3), .val (.long nn), .second, .val (.int kk), s8, .val (.int zz), s10, .val (.int oo), .val (.int gg), .val (.int lenv), .val (.ref b105), .unset, .unset, .unset] [(.int (own_cell (10 : Int32) oo lenv zz kk nn gg)), (.int 10), (.ref b105)])) _
   obtain ⟨cl149, A149, q149, S149, M149, H149, G149⟩ := id V_b105
   have hin149 : ¬ ((10 : Int32) < 0 ∨ cl149.slots.size ≤ ((10 : Int32)).toNatClampNeg) := inb_of S149 ⟨by decide, by decide⟩
   obtain ⟨T149, h149, X149, e149, W149, st149⟩ := stC X147 hx hZ rfl A149 (j := (10 : Int32)) hin149 (g := (mkF m 375 #[.val (.long p0), .second, .val (.int p1), .val (.int p2), .val (.int p3), .val (.long nn), .second, .val (.int kk), s8, .val (.int zz), s10, .val (.int oo), .val (.int gg), .val (.int lenv), .val (.ref b105), .unset, .unset, .unset] [(.int (own_cell (10 : Int32) oo lenv zz kk nn gg)), (.int 10), (.ref b105)])) rfl rfl (hb hby at_375)
   refine own_go (fun _ k => st149 _ k) ?_
   replace O := O.wr W149 g_b105
   have K150 := K148.wr W149 (Or.inr sz_b105)
   replace V_b105 : Arv Z h149 b105 k105 .char (24 : Int32) [(.int (nar .char (own_cell (0 : Int32) oo lenv zz kk nn gg))), (.int (nar .char (own_cell (1 : Int32) oo lenv zz kk nn gg))), (.int (nar .char (own_cell (2 : Int32) oo lenv zz kk nn gg))), (.int (nar .char (own_cell (3 : Int32) oo lenv zz kk nn gg))), (.int (nar .char (own_cell (4 : Int32) oo lenv zz kk nn gg))), (.int (nar .char (own_cell (5 : Int32) oo lenv zz kk nn gg))), (.int (nar .char (own_cell (6 : Int32) oo lenv zz kk nn gg))), (.int (nar .char (own_cell (7 : Int32) oo lenv zz kk nn gg))), (.int (nar .char (own_cell (8 : Int32) oo lenv zz kk nn gg))), (.int (nar .char (own_cell (9 : Int32) oo lenv zz kk nn gg))), (.int (nar .char (own_cell (10 : Int32) oo lenv zz kk nn gg))), (.int 0), (.int 0), (.int 0), (.int 0), (.int 0), (.int 0), (.int 0), (.int 0), (.int 0), (.int 0), (.int 0), (.int 0), (.int 0)] (.int 0) := Arv.set A149 q149 S149 M149 H149 G149 (fits_nar_char _) W149 10 rfl (Nat.le_of_ble_eq_true rfl)
   have N149 := Fr.snoc X149 N147 g_b105
   clear X147 hin149 st149 K148 A149 q149 S149 M149 H149 G149 W149 N147
   show own_Fin p e below (T149.setTop (mkF m 376 #[.val (.long p0), .second, .val (.int p1), .val (.int p2), .val (.int p3), .val (.long nn), .second, .val (.int kk), s8, .val (.int zz), s10, .val (.int oo), .val (.int gg), .val (.int lenv), .val (.ref b105), .unset, .unset, .unset] [])) _
   refine own_go (fun _ k => XS.aload X149.here hx rfl (hb hby at_376) rfl rfl (XS.bipush X149.here hx rfl (hb hby at_378) (XS.bipush X149.here hx rfl (hb hby at_380) (XS.iload X149.here hx rfl (hb hby at_382) rfl (XS.iload X149.here hx rfl (hb hby at_384) rfl (XS.iload X149.here hx rfl (hb hby at_386) rfl (XS.iload X149.here hx rfl (hb hby at_388) rfl (XS.lload X149.here hx rfl (hb hby at_390) rfl (XS.iload X149.here hx rfl (hb hby at_392) rfl k))))))))) ?_
   show own_Fin p e below (T149.setTop (mkF m 394 #[.val (.long p0), .second, .val (.int p1), .val (.int p2), .val (.int p3), .val (.long nn), .second, .val (.int kk), s8, .val (.int zz), s10, .val (.int oo), .val (.int gg), .val (.int lenv), .val (.ref b105), .unset, .unset, .unset] [(.int gg), (.long nn), (.int kk), (.int zz), (.int lenv), (.int oo), (.int 11), (.int 11), (.ref b105)])) _
   obtain ⟨_, _, ⟨T151, L151, k151, n151⟩, -, X151, ⟨Lc151, hQ151, l151, y151, z151⟩, st151⟩ := Jvm.LawKit.callS X149 hx (y := (⟨"com/example/depthline/depthline/core/DecimalParsePinLaw", "cell", "(IIIIIJC)C"⟩ : MethodName)) hown (mvT hZ (ow hw 5)) (mvT hZ (ow hw 6)) (mvT hZ (ow hw 7)) (mvT hZ (ow hw 8)) (by decide) (backOf (W := 2) (rm1 l Z a0 hw [] (11 : Int32) oo lenv zz kk nn gg h149 n0 O (own_HB hH (by decide) (by decide))) hZ (ow hw 8) (ow hw 7) (by decide) (by decide)) (g := (mkF m 394 #[.val (.long p0), .second, .val (.int p1), .val (.int p2), .val (.int p3), .val (.long nn), .second, .val (.int kk), s8, .val (.int zz), s10, .val (.int oo), .val (.int gg), .val (.int lenv), .val (.ref b105), .unset, .unset, .unset] [(.int gg), (.long nn), (.int kk), (.int zz), (.int lenv), (.int oo), (.int 11), (.int 11), (.ref b105)])) rfl (by rw [hml]; rfl) (argsL := [(.int 11), (.int oo), (.int lenv), (.int zz), (.int kk), (.long nn), (.int gg)]) (rest := [(.int 11), (.ref b105)]) (lenOf pd_4 rfl) rfl (by show 2 * 0 + _ ≤ _; exact Nat.le_of_eq rfl) (hb hby at_394) (fun _ _ => ⟨rfl, e149, (by decide : 12 + 1 ≤ _), (by decide : 222 + 18 ≤ _)⟩)
   dsimp only [Pt.U, Pt.locs, Pt.cells, Pt.slots] at X151 l151 y151 z151 st151 hQ151
   subst y151 z151
   obtain ⟨rfl, N151q, Kq151⟩ := hQ151
   refine own_go (fun _ k => st151 _ k) ?_
   have N151 := own_frl l151 (Fr.app N149 N151q)
   replace V_b105 := V_b105.keep Kq151 nin0
   replace O := O.keep Kq151 all0
   have K152 := K150.trans Kq151 all0
   clear X149 e149 st151 l151 N149 N151q K150 Kq151
   show own_Fin p e below (T151.setTop (mkF m 397 #[.val (.long p0), .second, .val (.int p1), .val (.int p2), .val (.int p3), .val (.long nn), .second, .val (.int kk), s8, .val (.int zz), s10, .val (.int oo), .val (.int gg), .val (.int lenv), .val (.ref b105), .unset, .unset, .unset] [(.int (own_cell (11 : Int32) oo lenv zz kk nn gg)), (.int 11), (.ref b105)])) _
   obtain ⟨cl153, A153, q153, S153, M153, H153, G153⟩ := id V_b105
   have hin153 : ¬ ((11 : Int32) < 0 ∨ cl153.slots.size ≤ ((11 : Int32)).toNatClampNeg) := inb_of S153 ⟨by decide, by decide⟩
   obtain ⟨T153, h153, X153, e153, W153, st153⟩ := stC X151 hx hZ rfl A153 (j := (11 : Int32)) hin153 (g := (mkF m 397 #[.val (.long p0), .second, .val (.int p1), .val (.int p2), .val (.int p3), .val (.long nn), .second, .val (.int kk), s8, .val (.int zz), s10, .val (.int oo), .val (.int gg), .val (.int lenv), .val (.ref b105), .unset, .unset, .unset] [(.int (own_cell (11 : Int32) oo lenv zz kk nn gg)), (.int 11), (.ref b105)])) rfl rfl (hb hby at_397)
   refine own_go (fun _ k => st153 _ k) ?_
   replace O := O.wr W153 g_b105
   have K154 := K152.wr W153 (Or.inr sz_b105)
   replace V_b105 : Arv Z h153 b105 k105 .char (24 : Int32) [(.int (nar .char (own_cell (0 : Int32) oo lenv zz kk nn gg))), (.int (nar .char (own_cell (1 : Int32) oo lenv zz kk nn gg))), (.int (nar .char (own_cell (2 : Int32) oo lenv zz kk nn gg))), (.int (nar .char (own_cell (3 : Int32) oo lenv zz kk nn gg))), (.int (nar .char (own_cell (4 : Int32) oo lenv zz kk nn gg))), (.int (nar .char (own_cell (5 : Int32) oo lenv zz kk nn gg))), (.int (nar .char (own_cell (6 : Int32) oo lenv zz kk nn gg))), (.int (nar .char (own_cell (7 : Int32) oo lenv zz kk nn gg))), (.int (nar .char (own_cell (8 : Int32) oo lenv zz kk nn gg))), (.int (nar .char (own_cell (9 : Int32) oo lenv zz kk nn gg))), (.int (nar .char (own_cell (10 : Int32) oo lenv zz kk nn gg))), (.int (nar .char (own_cell (11 : Int32) oo lenv zz kk nn gg))), (.int 0), (.int 0), (.int 0), (.int 0), (.int 0), (.int 0), (.int 0), (.int 0), (.int 0), (.int 0), (.int 0), (.int 0)] (.int 0) := Arv.set A153 q153 S153 M153 H153 G153 (fits_nar_char _) W153 11 rfl (Nat.le_of_ble_eq_true rfl)
   have N153 := Fr.snoc X153 N151 g_b105
   clear X151 hin153 st153 K152 A153 q153 S153 M153 H153 G153 W153 N151
   show own_Fin p e below (T153.setTop (mkF m 398 #[.val (.long p0), .second, .val (.int p1), .val (.int p2), .val (.int p3), .val (.long nn), .second, .val (.int kk), s8, .val (.int zz), s10, .val (.int oo), .val (.int gg), .val (.int lenv), .val (.ref b105), .unset, .unset, .unset] [])) _
   refine own_go (fun _ k => XS.aload X153.here hx rfl (hb hby at_398) rfl rfl (XS.bipush X153.here hx rfl (hb hby at_400) (XS.bipush X153.here hx rfl (hb hby at_402) (XS.iload X153.here hx rfl (hb hby at_404) rfl (XS.iload X153.here hx rfl (hb hby at_406) rfl (XS.iload X153.here hx rfl (hb hby at_408) rfl (XS.iload X153.here hx rfl (hb hby at_410) rfl (XS.lload X153.here hx rfl (hb hby at_412) rfl (XS.iload X153.here hx rfl (hb hby at_414) rfl k))))))))) ?_
   show own_Fin p e below (T153.setTop (mkF m 416 #[.val (.long p0), .second, .val (.int p1), .val (.int p2), .val (.int p3), .val (.long nn), .second, .val (.int kk), s8, .val (.int zz), s10, .val (.int oo), .val (.int gg), .val (.int lenv), .val (.ref b105), .unset, .unset, .unset] [(.int gg), (.long nn), (.int kk), (.int zz), (.int lenv), (.int oo), (.int 12), (.int 12), (.ref b105)])) _
   obtain ⟨_, _, ⟨T155, L155, k155, n155⟩, -, X155, ⟨Lc155, hQ155, l155, y155, z155⟩, st155⟩ := Jvm.LawKit.callS X153 hx (y := (⟨"com/example/depthline/depthline/core/DecimalParsePinLaw", "cell", "(IIIIIJC)C"⟩ : MethodName)) hown (mvT hZ (ow hw 5)) (mvT hZ (ow hw 6)) (mvT hZ (ow hw 7)) (mvT hZ (ow hw 8)) (by decide) (backOf (W := 2) (rm1 l Z a0 hw [] (12 : Int32) oo lenv zz kk nn gg h153 n0 O (own_HB hH (by decide) (by decide))) hZ (ow hw 8) (ow hw 7) (by decide) (by decide)) (g := (mkF m 416 #[.val (.long p0), .second, .val (.int p1), .val (.int p2), .val (.int p3), .val (.long nn), .second, .val (.int kk), s8, .val (.int zz), s10, .val (.int oo), .val (.int gg), .val (.int lenv), .val (.ref b105), .unset, .unset, .unset] [(.int gg), (.long nn), (.int kk), (.int zz), (.int lenv), (.int oo), (.int 12), (.int 12), (.ref b105)])) rfl (by rw [hml]; rfl) (argsL := [(.int 12), (.int oo), (.int lenv), (.int zz), (.int kk), (.long nn), (.int gg)]) (rest := [(.int 12), (.ref b105)]) (lenOf pd_4 rfl) rfl (by show 2 * 0 + _ ≤ _; exact Nat.le_of_eq rfl) (hb hby at_416) (fun _ _ => ⟨rfl, e153, (by decide : 13 + 1 ≤ _), (by decide : 240 + 18 ≤ _)⟩)
   dsimp only [Pt.U, Pt.locs, Pt.cells, Pt.slots] at X155 l155 y155 z155 st155 hQ155
   subst y155 z155
   obtain ⟨rfl, N155q, Kq155⟩ := hQ155
   refine own_go (fun _ k => st155 _ k) ?_
   have N155 := own_frl l155 (Fr.app N153 N155q)
   replace V_b105 := V_b105.keep Kq155 nin0
   replace O := O.keep Kq155 all0
   have K156 := K154.trans Kq155 all0
   clear X153 e153 st155 l155 N153 N155q K154 Kq155
   show own_Fin p e below (T155.setTop (mkF m 419 #[.val (.long p0), .second, .val (.int p1), .val (.int p2), .val (.int p3), .val (.long nn), .second, .val (.int kk), s8, .val (.int zz), s10, .val (.int oo), .val (.int gg), .val (.int lenv), .val (.ref b105), .unset, .unset, .unset] [(.int (own_cell (12 : Int32) oo lenv zz kk nn gg)), (.int 12), (.ref b105)])) _
   obtain ⟨cl157, A157, q157, S157, M157, H157, G157⟩ := id V_b105
   have hin157 : ¬ ((12 : Int32) < 0 ∨ cl157.slots.size ≤ ((12 : Int32)).toNatClampNeg) := inb_of S157 ⟨by decide, by decide⟩
   obtain ⟨T157, h157, X157, e157, W157, st157⟩ := stC X155 hx hZ rfl A157 (j := (12 : Int32)) hin157 (g := (mkF m 419 #[.val (.long p0), .second, .val (.int p1), .val (.int p2), .val (.int p3), .val (.long nn), .second, .val (.int kk), s8, .val (.int zz), s10, .val (.int oo), .val (.int gg), .val (.int lenv), .val (.ref b105), .unset, .unset, .unset] [(.int (own_cell (12 : Int32) oo lenv zz kk nn gg)), (.int 12), (.ref b105)])) rfl rfl (hb hby at_419)
   refine own_go (fun _ k => st157 _ k) ?_
   replace O := O.wr W157 g_b105
   have K158 := K156.wr W157 (Or.inr sz_b105)
   replace V_b105 : Arv Z h157 b105 k105 .char (24 : Int32) [(.int (nar .char (own_cell (0 : Int32) oo lenv zz kk nn gg))), (.int (nar .char (own_cell (1 : Int32) oo lenv zz kk nn gg))), (.int (nar .char (own_cell (2 : Int32) oo lenv zz kk nn gg))), (.int (nar .char (own_cell (3 : Int32) oo lenv zz kk nn gg))), (.int (nar .char (own_cell (4 : Int32) oo lenv zz kk nn gg))), (.int (nar .char (own_cell (5 : Int32) oo lenv zz kk nn gg))), (.int (nar .char (own_cell (6 : Int32) oo lenv zz kk nn gg))), (.int (nar .char (own_cell (7 : Int32) oo lenv zz kk nn gg))), (.int (nar .char (own_cell (8 : Int32) oo lenv zz kk nn gg))), (.int (nar .char (own_cell (9 : Int32) oo lenv zz kk nn gg))), (.int (nar .char (own_cell (10 : Int32) oo lenv zz kk nn gg))), (.int (nar .char (own_cell (11 : Int32) oo lenv zz kk nn gg))), (.int (nar .char (own_cell (12 : Int32) oo lenv zz kk nn gg))), (.int 0), (.int 0), (.int 0), (.int 0), (.int 0), (.int 0), (.int 0), (.int 0), (.int 0), (.int 0), (.int 0)] (.int 0) := Arv.set A157 q157 S157 M157 H157 G157 (fits_nar_char _) W157 12 rfl (Nat.le_of_ble_eq_true rfl)
   have N157 := Fr.snoc X157 N155 g_b105
   clear X155 hin157 st157 K156 A157 q157 S157 M157 H157 G157 W157 N155
   show own_Fin p e below (T157.setTop (mkF m 420 #[.val (.long p0), .second, .val (.int p1), .val (.int p2), .val (.int p3), .val (.long nn), .second, .val (.int kk), s8, .val (.int zz), s10, .val (.int oo), .val (.int gg), .val (.int lenv), .val (.ref b105), .unset, .unset, .unset] [])) _
   refine own_go (fun _ k => XS.aload X157.here hx rfl (hb hby at_420) rfl rfl (XS.bipush X157.here hx rfl (hb hby at_422) (XS.bipush X157.here hx rfl (hb hby at_424) (XS.iload X157.here hx rfl (hb hby at_426) rfl (XS.iload X157.here hx rfl (hb hby at_428) rfl (XS.iload X157.here hx rfl (hb hby at_430) rfl (XS.iload X157.here hx rfl (hb hby at_432) rfl (XS.lload X157.here hx rfl (hb hby at_434) rfl (XS.iload X157.here hx rfl (hb hby at_436) rfl k))))))))) ?_
   show own_Fin p e below (T157.setTop (mkF m 438 #[.val (.long p0), .second, .val (.int p1), .val (.int p2), .val (.int p3), .val (.long nn), .second, .val (.int kk), s8, .val (.int zz), s10, .val (.int oo), .val (.int gg), .val (.int lenv), .val (.ref b105), .unset, .unset, .unset] [(.int gg), (.long nn), (.int kk), (.int zz), (.int lenv), (.int oo), (.int 13), (.int 13), (.ref b105)])) _
   obtain ⟨_, _, ⟨T159, L159, k159, n159⟩, -, X159, ⟨Lc159, hQ159, l159, y159, z159⟩, st159⟩ := Jvm.LawKit.callS X157 hx (y := (⟨"com/example/depthline/depthline/core/DecimalParsePinLaw", "cell", "(IIIIIJC)C"⟩ : MethodName)) hown (mvT hZ (ow hw 5)) (mvT hZ (ow hw 6)) (mvT hZ (ow hw 7)) (mvT hZ (ow hw 8)) (by decide) (backOf (W := 2) (rm1 l Z a0 hw [] (13 : Int32) oo lenv zz kk nn gg h157 n0 O (own_HB hH (by decide) (by decide))) hZ (ow hw 8) (ow hw 7) (by decide) (by decide)) (g := (mkF m 438 #[.val (.long p0), .second, .val (.int p1), .val (.int p2), .val (.int p3), .val (.long nn), .second, .val (.int kk), s8, .val (.int zz), s10, .val (.int oo), .val (.int gg), .val (.int lenv), .val (.ref b105), .unset, .unset, .unset] [(.int gg), (.long nn), (.int kk), (.int zz), (.int lenv), (.int oo), (.int 13), (.int 13), (.ref b105)])) rfl (by rw [hml]; rfl) (argsL := [(.int 13), (.int oo), (.int lenv), (.int zz), (.int kk), (.long nn), (.int gg)]) (rest := [(.int 13), (.ref b105)]) (lenOf pd_4 rfl) rfl (by show 2 * 0 + _ ≤ _; exact Nat.le_of_eq rfl) (hb hby at_438) (fun _ _ => ⟨rfl, e157, (by decide : 14 + 1 ≤ _), (by decide : 258 + 18 ≤ _)⟩)
   dsimp only [Pt.U, Pt.locs, Pt.cells, Pt.slots] at X159 l159 y159 z159 st159 hQ159
   subst y159 z159
   obtain ⟨rfl, N159q, Kq159⟩ := hQ159
   refine own_go (fun _ k => st159 _ k) ?_
   have N159 := own_frl l159 (Fr.app N157 N159q)
   replace V_b105 := V_b105.keep Kq159 nin0
   replace O := O.keep Kq159 all0
   have K160 := K158.trans Kq159 all0
   clear X157 e157 st159 l159 N157 N159q K158 Kq159
   show own_Fin p e below (T159.setTop (mkF m 441 #[.val (.long p0), .second, .val (.int p1), .val (.int p2), .val (.int p3), .val (.long nn), .second, .val (.int kk), s8, .val (.int zz), s10, .val (.int oo), .val (.int gg), .val (.int lenv), .val (.ref b105), .unset, .unset, .unset] [(.int (own_cell (13 : Int32) oo lenv zz kk nn gg)), (.int 13), (.ref b105)])) _
   obtain ⟨cl161, A161, q161, S161, M161, H161, G161⟩ := id V_b105
   have hin161 : ¬ ((13 : Int32) < 0 ∨ cl161.slots.size ≤ ((13 : Int32)).toNatClampNeg) := inb_of S161 ⟨by decide, by decide⟩
   obtain ⟨T161, h161, X161, e161, W161, st161⟩ := stC X159 hx hZ rfl A161 (j := (13 : Int32)) hin161 (g := (mkF m 441 #[.val (.long p0), .second, .val (.int p1), .val (.int p2), .val (.int p3), .val (.long nn), .second, .val (.int kk), s8, .val (.int zz), s10, .val (.int oo), .val (.int gg), .val (.int lenv), .val (.ref b105), .unset, .unset, .unset] [(.int (own_cell (13 : Int32) oo lenv zz kk nn gg)), (.int 13), (.ref b105)])) rfl rfl (hb hby at_441)
   refine own_go (fun _ k => st161 _ k) ?_
   replace O := O.wr W161 g_b105
   have K162 := K160.wr W161 (Or.inr sz_b105)
   replace V_b105 : Arv Z h161 b105 k105 .char (24 : Int32) [(.int (nar .char (own_cell (0 : Int32) oo lenv zz kk nn gg))), (.int (nar .char (own_cell (1 : Int32) oo lenv zz kk nn gg))), (.int (nar .char (own_cell (2 : Int32) oo lenv zz kk nn gg))), (.int (nar .char (own_cell (3 : Int32) oo lenv zz kk nn gg))), (.int (nar .char (own_cell (4 : Int32) oo lenv zz kk nn gg))), (.int (nar .char (own_cell (5 : Int32) oo lenv zz kk nn gg))), (.int (nar .char (own_cell (6 : Int32) oo lenv zz kk nn gg))), (.int (nar .char (own_cell (7 : Int32) oo lenv zz kk nn gg))), (.int (nar .char (own_cell (8 : Int32) oo lenv zz kk nn gg))), (.int (nar .char (own_cell (9 : Int32) oo lenv zz kk nn gg))), (.int (nar .char (own_cell (10 : Int32) oo lenv zz kk nn gg))), (.int (nar .char (own_cell (11 : Int32) oo lenv zz kk nn gg))), (.int (nar .char (own_cell (12 : Int32) oo lenv zz kk nn gg))), (.int (nar .char (own_cell (13 : Int32) oo lenv zz kk nn gg))), (.int 0), (.int 0), (.int 0), (.int 0), (.int 0), (.int 0), (.int 0), (.int 0), (.int 0), (.int 0)] (.int 0) := Arv.set A161 q161 S161 M161 H161 G161 (fits_nar_char _) W161 13 rfl (Nat.le_of_ble_eq_true rfl)
   have N161 := Fr.snoc X161 N159 g_b105
   clear X159 hin161 st161 K160 A161 q161 S161 M161 H161 G161 W161 N159
   show own_Fin p e below (T161.setTop (mkF m 442 #[.val (.long p0), .second, .val (.int p1), .val (.int p2), .val (.int p3), .val (.long nn), .second, .val (.int kk), s8, .val (.int zz), s10, .val (.int oo), .val (.int gg), .val (.int lenv), .val (.ref b105), .unset, .unset, .unset] [])) _
   refine own_go (fun _ k => XS.aload X161.here hx rfl (hb hby at_442) rfl rfl (XS.bipush X161.here hx rfl (hb hby at_444) (XS.bipush X161.here hx rfl (hb hby at_446) (XS.iload X161.here hx rfl (hb hby at_448) rfl (XS.iload X161.here hx rfl (hb hby at_450) rfl (XS.iload X161.here hx rfl (hb hby at_452) rfl (XS.iload X161.here hx rfl (hb hby at_454) rfl (XS.lload X161.here hx rfl (hb hby at_456) rfl (XS.iload X161.here hx rfl (hb hby at_458) rfl k))))))))) ?_
   show own_Fin p e below (T161.setTop (mkF m 460 #[.val (.long p0), .second, .val (.int p1), .val (.int p2), .val (.int p3), .val (.long nn), .second, .val (.int kk), s8, .val (.int zz), s10, .val (.int oo), .val (.int gg), .val (.int lenv), .val (.ref b105), .unset, .unset, .unset] [(.int gg), (.long nn), (.int kk), (.int zz), (.int lenv), (.int oo), (.int 14), (.int 14), (.ref b105)])) _
   obtain ⟨_, _, ⟨T163, L163, k163, n163⟩, -, X163, ⟨Lc163, hQ163, l163, y163, z163⟩, st163⟩ := Jvm.LawKit.callS X161 hx (y := (⟨"com/example/depthline/depthline/core/DecimalParsePinLaw", "cell", "(IIIIIJC)C"⟩ : MethodName)) hown (mvT hZ (ow hw 5)) (mvT hZ (ow hw 6)) (mvT hZ (ow hw 7)) (mvT hZ (ow hw 8)) (by decide) (backOf (W := 2) (rm1 l Z a0 hw [] (14 : Int32) oo lenv zz kk nn gg h161 n0 O (own_HB hH (by decide) (by decide))) hZ (ow hw 8) (ow hw 7) (by decide) (by decide)) (g := (mkF m 460 #[.val (.long p0), .second, .val (.int p1), .val (.int p2), .val (.int p3), .val (.long nn), .second, .val (.int kk), s8, .val (.int zz), s10, .val (.int oo), .val (.int gg), .val (.int lenv), .val (.ref b105), .unset, .unset, .unset] [(.int gg), (.long nn), (.int kk), (.int zz), (.int lenv), (.int oo), (.int 14), (.int 14), (.ref b105)])) rfl (by rw [hml]; rfl) (argsL := [(.int 14), (.int oo), (.int lenv), (.int zz), (.int kk), (.long nn), (.int gg)]) (rest := [(.int 14), (.ref b105)]) (lenOf pd_4 rfl) rfl (by show 2 * 0 + _ ≤ _; exact Nat.le_of_eq rfl) (hb hby at_460) (fun _ _ => ⟨rfl, e161, (by decide : 15 + 1 ≤ _), (by decide : 276 + 18 ≤ _)⟩)
   dsimp only [Pt.U, Pt.locs, Pt.cells, Pt.slots] at X163 l163 y163 z163 st163 hQ163
   subst y163 z163
   obtain ⟨rfl, N163q, Kq163⟩ := hQ163
   refine own_go (fun _ k => st163 _ k) ?_
   have N163 := own_frl l163 (Fr.app N161 N163q)
   replace V_b105 := V_b105.keep Kq163 nin0
   replace O := O.keep Kq163 all0
   have K164 := K162.trans Kq163 all0
   clear X161 e161 st163 l163 N161 N163q K162 Kq163
   show own_Fin p e below (T163.setTop (mkF m 463 #[.val (.long p0), .second, .val (.int p1), .val (.int p2), .val (.int p3), .val (.long nn), .second, .val (.int kk), s8, .val (.int zz), s10, .val (.int oo), .val (.int gg), .val (.int lenv), .val (.ref b105), .unset, .unset, .unset] [(.int (own_cell (14 : Int32) oo lenv zz kk nn gg)), (.int 14), (.ref b105)])) _
   obtain ⟨cl165, A165, q165, S165, M165, H165, G165⟩ := id V_b105
   have hin165 : ¬ ((14 : Int32) < 0 ∨ cl165.slots.size ≤ ((14 : Int32)).toNatClampNeg) := inb_of S165 ⟨by decide, by decide⟩
   obtain ⟨T165, h165, X165, e165, W165, st165⟩ := stC X163 hx hZ rfl A165 (j := (14 : Int32)) hin165 (g := (mkF m 463 #[.val (.long p0), .second, .val (.int p1), .val (.int p2), .val (.int p3), .val (.long nn), .second, .val (.int kk), s8, .val (.int zz), s10, .val (.int oo), .val (.int gg), .val (.int lenv), .val (.ref b105), .unset, .unset, .unset] [(.int (own_cell (14 : Int32) oo lenv zz kk nn gg)), (.int 14), (.ref b105)])) rfl rfl (hb hby at_463)
   refine own_go (fun _ k => st165 _ k) ?_
   replace O := O.wr W165 g_b105
   have K166 := K164.wr W165 (Or.inr sz_b105)
   replace V_b105 : Arv Z h165 b105 k105 .char (24 : Int32) [(.int (nar .char (own_cell (0 : Int32) oo lenv zz kk nn gg))), (.int (nar .char (own_cell (1 : Int32) oo lenv zz kk nn gg))), (.int (nar .char (own_cell (2 : Int32) oo lenv zz kk nn gg))), (.int (nar .char (own_cell (3 : Int32) oo lenv zz kk nn gg))), (.int (nar .char (own_cell (4 : Int32) oo lenv zz kk nn gg))), (.int (nar .char (own_cell (5 : Int32) oo lenv zz kk nn gg))), (.int (nar .char (own_cell (6 : Int32) oo lenv zz kk nn gg))), (.int (nar .char (own_cell (7 : Int32) oo lenv zz kk nn gg))), (.int (nar .char (own_cell (8 : Int32) oo lenv zz kk nn gg))), (.int (nar .char (own_cell (9 : Int32) oo lenv zz kk nn gg))), (.int (nar .char (own_cell (10 : Int32) oo lenv zz kk nn gg))), (.int (nar .char (own_cell (11 : Int32) oo lenv zz kk nn gg))), (.int (nar .char (own_cell (12 : Int32) oo lenv zz kk nn gg))), (.int (nar .char (own_cell (13 : Int32) oo lenv zz kk nn gg))), (.int (nar .char (own_cell (14 : Int32) oo lenv zz kk nn gg))), (.int 0), (.int 0), (.int 0), (.int 0), (.int 0), (.int 0), (.int 0), (.int 0), (.int 0)] (.int 0) := Arv.set A165 q165 S165 M165 H165 G165 (fits_nar_char _) W165 14 rfl (Nat.le_of_ble_eq_true rfl)
   have N165 := Fr.snoc X165 N163 g_b105
   clear X163 hin165 st165 K164 A165 q165 S165 M165 H165 G165 W165 N163
   show own_Fin p e below (T165.setTop (mkF m 464 #[.val (.long p0), .second, .val (.int p1), .val (.int p2), .val (.int p3), .val (.long nn), .second, .val (.int kk), s8, .val (.int zz), s10, .val (.int oo), .val (.int gg), .val (.int lenv), .val (.ref b105), .unset, .unset, .unset] [])) _
   refine own_go (fun _ k => XS.aload X165.here hx rfl (hb hby at_464) rfl rfl (XS.bipush X165.here hx rfl (hb hby at_466) (XS.bipush X165.here hx rfl (hb hby at_468) (XS.iload X165.here hx rfl (hb hby at_470) rfl (XS.iload X165.here hx rfl (hb hby at_472) rfl (XS.iload X165.here hx rfl (hb hby at_474) rfl (XS.iload X165.here hx rfl (hb hby at_476) rfl (XS.lload X165.here hx rfl (hb hby at_478) rfl (XS.iload X165.here hx rfl (hb hby at_480) rfl k))))))))) ?_
   show own_Fin p e below (T165.setTop (mkF m 482 #[.val (.long p0), .second, .val (.int p1), .val (.int p2), .val (.int p3), .val (.long nn), .second, .val (.int kk), s8, .val (.int zz), s10, .val (.int oo), .val (.int gg), .val (.int lenv), .val (.ref b105), .unset, .unset, .unset] [(.int gg), (.long nn), (.int kk), (.int zz), (.int lenv), (.int oo), (.int 15), (.int 15), (.ref b105)])) _
   obtain ⟨_, _, ⟨T167, L167, k167, n167⟩, -, X167, ⟨Lc167, hQ167, l167, y167, z167⟩, st167⟩ := Jvm.LawKit.callS X165 hx (y := (⟨"com/example/depthline/depthline/core/DecimalParsePinLaw", "cell", "(IIIIIJC)C"⟩ : MethodName)) hown (mvT hZ (ow hw 5)) (mvT hZ (ow hw 6)) (mvT hZ (ow hw 7)) (mvT hZ (ow hw 8)) (by decide) (backOf (W := 2) (rm1 l Z a0 hw [] (15 : Int32) oo lenv zz kk nn gg h165 n0 O (own_HB hH (by decide) (by decide))) hZ (ow hw 8) (ow hw 7) (by decide) (by decide)) (g := (mkF m 482 #[.val (.long p0), .second, .val (.int p1), .val (.int p2), .val (.int p3), .val (.long nn), .second, .val (.int kk), s8, .val (.int zz), s10, .val (.int oo), .val (.int gg), .val (.int lenv), .val (.ref b105), .unset, .unset, .unset] [(.int gg), (.long nn), (.int kk), (.int zz), (.int lenv), (.int oo), (.int 15), (.int 15), (.ref b105)])) rfl (by rw [hml]; rfl) (argsL := [(.int 15), (.int oo), (.int lenv), (.int zz), (.int kk), (.long nn), (.int gg)]) (rest := [(.int 15), (.ref b105)]) (lenOf pd_4 rfl) rfl (by show 2 * 0 + _ ≤ _; exact Nat.le_of_eq rfl) (hb hby at_482) (fun _ _ => ⟨rfl, e165, (by decide : 16 + 1 ≤ _), (by decide : 294 + 18 ≤ _)⟩)
   dsimp only [Pt.U, Pt.locs, Pt.cells, Pt.slots] at X167 l167 y167 z167 st167 hQ167
   subst y167 z167
   obtain ⟨rfl, N167q, Kq167⟩ := hQ167
   refine own_go (fun _ k => st167 _ k) ?_
   have N167 := own_frl l167 (Fr.app N165 N167q)
   replace V_b105 := V_b105.keep Kq167 nin0
   replace O := O.keep Kq167 all0
   have K168 := K166.trans Kq167 all0
   clear X165 e165 st167 l167 N165 N167q K166 Kq167
   show own_Fin p e below (T167.setTop (mkF m 485 #[.val (.long p0), .second, .val (.int p1), .val (.int p2), .val (.int p3), .val (.long nn), .second, .val (.int kk), s8, .val (.int zz), s10, .val (.int oo), .val (.int gg), .val (.int lenv), .val (.ref b105), .unset, .unset, .unset] [(.int (own_cell (15 : Int32) oo lenv zz kk nn gg)), (.int 15), (.ref b105)])) _
   obtain ⟨cl169, A169, q169, S169, M169, H169, G169⟩ := id V_b105
   have hin169 : ¬ ((15 : Int32) < 0 ∨ cl169.slots.size ≤ ((15 : Int32)).toNatClampNeg) := inb_of S169 ⟨by decide, by decide⟩
   obtain ⟨T169, h169, X169, e169, W169, st169⟩ := stC X167 hx hZ rfl A169 (j := (15 : Int32)) hin169 (g := (mkF m 485 #[.val (.long p0), .second, .val (.int p1), .val (.int p2), .val (.int p3), .val (.long nn), .second, .val (.int kk), s8, .val (.int zz), s10, .val (.int oo), .val (.int gg), .val (.int lenv), .val (.ref b105), .unset, .unset, .unset] [(.int (own_cell (15 : Int32) oo lenv zz kk nn gg)), (.int 15), (.ref b105)])) rfl rfl (hb hby at_485)
   refine own_go (fun _ k => st169 _ k) ?_
   replace O := O.wr W169 g_b105
   have K170 := K168.wr W169 (Or.inr sz_b105)
   replace V_b105 : Arv Z h169 b105 k105 .char (24 : Int32) [(.int (nar .char (own_cell (0 : Int32) oo lenv zz kk nn gg))), (.int (nar .char (own_cell (1 : Int32) oo lenv zz kk nn gg))), (.int (nar .char (own_cell (2 : Int32) oo lenv zz kk nn gg))), (.int (nar .char (own_cell (3 : Int32) oo lenv zz kk nn gg))), (.int (nar .char (own_cell (4 : Int32) oo lenv zz kk nn gg))), (.int (nar .char (own_cell (5 : Int32) oo lenv zz kk nn gg))), (.int (nar .char (own_cell (6 : Int32) oo lenv zz kk nn gg))), (.int (nar .char (own_cell (7 : Int32) oo lenv zz kk nn gg))), (.int (nar .char (own_cell (8 : Int32) oo lenv zz kk nn gg))), (.int (nar .char (own_cell (9 : Int32) oo lenv zz kk nn gg))), (.int (nar .char (own_cell (10 : Int32) oo lenv zz kk nn gg))), (.int (nar .char (own_cell (11 : Int32) oo lenv zz kk nn gg))), (.int (nar .char (own_cell (12 : Int32) oo lenv zz kk nn gg))), (.int (nar .char (own_cell (13 : Int32) oo lenv zz kk nn gg))), (.int (nar .char (own_cell (14 : Int32) oo lenv zz kk nn gg))), (.int (nar .char (own_cell (15 : Int32) oo lenv zz kk nn gg))), (.int 0), (.int 0), (.int 0), (.int 0), (.int 0), (.int 0), (.int 0), (.int 0)] (.int 0) := Arv.set A169 q169 S169 M169 H169 G169 (fits_nar_char _) W169 15 rfl (Nat.le_of_ble_eq_true rfl)
   have N169 := Fr.snoc X169 N167 g_b105
   clear X167 hin169 st169 K168 A169 q169 S169 M169 H169 G169 W169 N167
   show own_Fin p e below (T169.setTop (mkF m 486 #[.val (.long p0), .second, .val (.int p1), .val (.int p2), .val (.int p3), .val (.long nn), .second, .val (.int kk), s8, .val (.int zz), s10, .val (.int oo), .val (.int gg), .val (.int lenv), .val (.ref b105), .unset, .unset, .unset] [])) _
   refine own_go (fun _ k => XS.aload X169.here hx rfl (hb hby at_486) rfl rfl (XS.bipush X169.here hx rfl (hb hby at_488) (XS.bipush X169.here hx rfl (hb hby at_490) (XS.iload X169.here hx rfl (hb hby at_492) rfl (XS.iload X169.here hx rfl (hb hby at_494) rfl (XS.iload X169.here hx rfl (hb hby at_496) rfl (XS.iload X169.here hx rfl (hb hby at_498) rfl (XS.lload X169.here hx rfl (hb hby at_500) rfl (XS.iload X169.here hx rfl (hb hby at_502) rfl k))))))))) ?_
   show own_Fin p e below (T169.setTop (mkF m 504 #[.val (.long p0), .second, .val (.int p1), .val (.int p2), .val (.int p3), .val (.long nn), .second, .val (.int kk), s8, .val (.int zz), s10, .val (.int oo), .val (.int gg), .val (.int lenv), .val (.ref b105), .unset, .unset, .unset] [(.int gg), (.long nn), (.int kk), (.int zz), (.int lenv), (.int oo), (.int 16), (.int 16), (.ref b105)])) _
   obtain ⟨_, _, ⟨T171, L171, k171, n171⟩, -, X171, ⟨Lc171, hQ171, l171, y171, z171⟩, st171⟩ := Jvm.LawKit.callS X169 hx (y := (⟨"com/example/depthline/depthline/core/DecimalParsePinLaw", "cell", "(IIIIIJC)C"⟩ : MethodName)) hown (mvT hZ (ow hw 5)) (mvT hZ (ow hw 6)) (mvT hZ (ow hw 7)) (mvT hZ (ow hw 8)) (by decide) (backOf (W := 2) (rm1 l Z a0 hw [] (16 : Int32) oo lenv zz kk nn gg h169 n0 O (own_HB hH (by decide) (by decide))) hZ (ow hw 8) (ow hw 7) (by decide) (by decide)) (g := (mkF m 504 #[.val (.long p0), .second, .val (.int p1), .val (.int p2), .val (.int p3), .val (.long nn), .second, .val (.int kk), s8, .val (.int zz), s10, .val (.int oo), .val (.int gg), .val (.int lenv), .val (.ref b105), .unset, .unset, .unset] [(.int gg), (.long nn), (.int kk), (.int zz), (.int lenv), (.int oo), (.int 16), (.int 16), (.ref b105)])) rfl (by rw [hml]; rfl) (argsL := [(.int 16), (.int oo), (.int lenv), (.int zz), (.int kk), (.long nn), (.int gg)]) (rest := [(.int 16), (.ref b105)]) (lenOf pd_4 rfl) rfl (by show 2 * 0 + _ ≤ _; exact Nat.le_of_eq rfl) (hb hby at_504) (fun _ _ => ⟨rfl, e169, (by decide : 17 + 1 ≤ _), (by decide : 312 + 18 ≤ _)⟩)
   dsimp only [Pt.U, Pt.locs, Pt.cells, Pt.slots] at X171 l171 y171 z171 st171 hQ171
   subst y171 z171
   obtain ⟨rfl, N171q, Kq171⟩ := hQ171
   refine own_go (fun _ k => st171 _ k) ?_
   have N171 := own_frl l171 (Fr.app N169 N171q)
   replace V_b105 := V_b105.keep Kq171 nin0
   replace O := O.keep Kq171 all0
   have K172 := K170.trans Kq171 all0
   clear X169 e169 st171 l171 N169 N171q K170 Kq171
   show own_Fin p e below (T171.setTop (mkF m 507 #[.val (.long p0), .second, .val (.int p1), .val (.int p2), .val (.int p3), .val (.long nn), .second, .val (.int kk), s8, .val (.int zz), s10, .val (.int oo), .val (.int gg), .val (.int lenv), .val (.ref b105), .unset, .unset, .unset] [(.int (own_cell (16 : Int32) oo lenv zz kk nn gg)), (.int 16), (.ref b105)])) _
   obtain ⟨cl173, A173, q173, S173, M173, H173, G173⟩ := id V_b105
   have hin173 : ¬ ((16 : Int32) < 0 ∨ cl173.slots.size ≤ ((16 : Int32)).toNatClampNeg) := inb_of S173 ⟨by decide, by decide⟩
   obtain ⟨T173, h173, X173, e173, W173, st173⟩ := stC X171 hx hZ rfl A173 (j := (16 : Int32)) hin173 (g := (mkF m 507 #[.val (.long p0), .second, .val (.int p1), .val (.int p2), .val (.int p3), .val (.long nn), .second, .val (.int kk), s8, .val (.int zz), s10, .val (.int oo), .val (.int gg), .val (.int lenv), .val (.ref b105), .unset, .unset, .unset] [(.int (own_cell (16 : Int32) oo lenv zz kk nn gg)), (.int 16), (.ref b105)])) rfl rfl (hb hby at_507)
   refine own_go (fun _ k => st173 _ k) ?_
   replace O := O.wr W173 g_b105
   have K174 := K172.wr W173 (Or.inr sz_b105)
   replace V_b105 : Arv Z h173 b105 k105 .char (24 : Int32) [(.int (nar .char (own_cell (0 : Int32) oo lenv zz kk nn gg))), (.int (nar .char (own_cell (1 : Int32) oo lenv zz kk nn gg))), (.int (nar .char (own_cell (2 : Int32) oo lenv zz kk nn gg))), (.int (nar .char (own_cell (3 : Int32) oo lenv zz kk nn gg))), (.int (nar .char (own_cell (4 : Int32) oo lenv zz kk nn gg))), (.int (nar .char (own_cell (5 : Int32) oo lenv zz kk nn gg))), (.int (nar .char (own_cell (6 : Int32) oo lenv zz kk nn gg))), (.int (nar .char (own_cell (7 : Int32) oo lenv zz kk nn gg))), (.int (nar .char (own_cell (8 : Int32) oo lenv zz kk nn gg))), (.int (nar .char (own_cell (9 : Int32) oo lenv zz kk nn gg))), (.int (nar .char (own_cell (10 : Int32) oo lenv zz kk nn gg))), (.int (nar .char (own_cell (11 : Int32) oo lenv zz kk nn gg))), (.int (nar .char (own_cell (12 : Int32) oo lenv zz kk nn gg))), (.int (nar .char (own_cell (13 : Int32) oo lenv zz kk nn gg))), (.int (nar .char (own_cell (14 : Int32) oo lenv zz kk nn gg))), (.int (nar .char (own_cell (15 : Int32) oo lenv zz kk nn gg))), (.int (nar .char (own_cell (16 : Int32) oo lenv zz kk nn gg))), (.int 0), (.int 0), (.int 0), (.int 0), (.int 0), (.int 0), (.int 0)] (.int 0) := Arv.set A173 q173 S173 M173 H173 G173 (fits_nar_char _) W173 16 rfl (Nat.le_of_ble_eq_true rfl)
   have N173 := Fr.snoc X173 N171 g_b105
   clear X171 hin173 st173 K172 A173 q173 S173 M173 H173 G173 W173 N171
   show own_Fin p e below (T173.setTop (mkF m 508 #[.val (.long p0), .second, .val (.int p1), .val (.int p2), .val (.int p3), .val (.long nn), .second, .val (.int kk), s8, .val (.int zz), s10, .val (.int oo), .val (.int gg), .val (.int lenv), .val (.ref b105), .unset, .unset, .unset] [])) _
   refine own_go (fun _ k => XS.aload X173.here hx rfl (hb hby at_508) rfl rfl (XS.bipush X173.here hx rfl (hb hby at_510) (XS.bipush X173.here hx rfl (hb hby at_512) (XS.iload X173.here hx rfl (hb hby at_514) rfl (XS.iload X173.here hx rfl (hb hby at_516) rfl (XS.iload X173.here hx rfl (hb hby at_518) rfl (XS.iload X173.here hx rfl (hb hby at_520) rfl (XS.lload X173.here hx rfl (hb hby at_522) rfl (XS.iload X173.here hx rfl (hb hby at_524) rfl k))))))))) ?_
   show own_Fin p e below (T173.setTop (mkF m 526 #[.val (.long p0), .second, .val (.int p1), .val (.int p2), .val (.int p3), .val (.long nn), .second, .val (.int kk), s8, .val (.int zz), s10, .val (.int oo), .val (.int gg), .val (.int lenv), .val (.ref b105), .unset, .unset, .unset] [(.int gg), (.long nn), (.int kk), (.int zz), (.int lenv), (.int oo), (.int 17), (.int 17), (.ref b105)])) _
   obtain ⟨_, _, ⟨T175, L175, k175, n175⟩, -, X175, ⟨Lc175, hQ175, l175, y175, z175⟩, st175⟩ := Jvm.LawKit.callS X173 hx (y := (⟨"com/example/depthline/depthline/core/DecimalParsePinLaw", "cell", "(IIIIIJC)C"⟩ : MethodName)) hown (mvT hZ (ow hw 5)) (mvT hZ (ow hw 6)) (mvT hZ (ow hw 7)) (mvT hZ (ow hw 8)) (by decide) (backOf (W := 2) (rm1 l Z a0 hw [] (17 : Int32) oo lenv zz kk nn gg h173 n0 O (own_HB hH (by decide) (by decide))) hZ (ow hw 8) (ow hw 7) (by decide) (by decide)) (g := (mkF m 526 #[.val (.long p0), .second, .val (.int p1), .val (.int p2), .val (.int p3), .val (.long nn), .second, .val (.int kk), s8, .val (.int zz), s10, .val (.int oo), .val (.int gg), .val (.int lenv), .val (.ref b105), .unset, .unset, .unset] [(.int gg), (.long nn), (.int kk), (.int zz), (.int lenv), (.int oo), (.int 17), (.int 17), (.ref b105)])) rfl (by rw [hml]; rfl) (argsL := [(.int 17), (.int oo), (.int lenv), (.int zz), (.int kk), (.long nn), (.int gg)]) (rest := [(.int 17), (.ref b105)]) (lenOf pd_4 rfl) rfl (by show 2 * 0 + _ ≤ _; exact Nat.le_of_eq rfl) (hb hby at_526) (fun _ _ => ⟨rfl, e173, (by decide : 18 + 1 ≤ _), (by decide : 330 + 18 ≤ _)⟩)
   dsimp only [Pt.U, Pt.locs, Pt.cells, Pt.slots] at X175 l175 y175 z175 st175 hQ175
   subst y175 z175
   obtain ⟨rfl, N175q, Kq175⟩ := hQ175
   refine own_go (fun _ k => st175 _ k) ?_
   have N175 := own_frl l175 (Fr.app N173 N175q)
   replace V_b105 := V_b105.keep Kq175 nin0
   replace O := O.keep Kq175 all0
   have K176 := K174.trans Kq175 all0
   clear X173 e173 st175 l175 N173 N175q K174 Kq175
   show own_Fin p e below (T175.setTop (mkF m 529 #[.val (.long p0), .second, .val (.int p1), .val (.int p2), .val (.int p3), .val (.long nn), .second, .val (.int kk), s8, .val (.int zz), s10, .val (.int oo), .val (.int gg), .val (.int lenv), .val (.ref b105), .unset, .unset, .unset] [(.int (own_cell (17 : Int32) oo lenv zz kk nn gg)), (.int 17), (.ref b105)])) _
   obtain ⟨cl177, A177, q177, S177, M177, H177, G177⟩ := id V_b105
   have hin177 : ¬ ((17 : Int32) < 0 ∨ cl177.slots.size ≤ ((17 : Int32)).toNatClampNeg) := inb_of S177 ⟨by decide, by decide⟩
   obtain ⟨T177, h177, X177, e177, W177, st177⟩ := stC X175 hx hZ rfl A177 (j := (17 : Int32)) hin177 (g := (mkF m 529 #[.val (.long p0), .second, .val (.int p1), .val (.int p2), .val (.int p3), .val (.long nn), .second, .val (.int kk), s8, .val (.int zz), s10, .val (.int oo), .val (.int gg), .val (.int lenv), .val (.ref b105), .unset, .unset, .unset] [(.int (own_cell (17 : Int32) oo lenv zz kk nn gg)), (.int 17), (.ref b105)])) rfl rfl (hb hby at_529)
   refine own_go (fun _ k => st177 _ k) ?_
   replace O := O.wr W177 g_b105
   have K178 := K176.wr W177 (Or.inr sz_b105)
   replace V_b105 : Arv Z h177 b105 k105 .char (24 : Int32) [(.int (nar .char (own_cell (0 : Int32) oo lenv zz kk nn gg))), (.int (nar .char (own_cell (1 : Int32) oo lenv zz kk nn gg))), (.int (nar .char (own_cell (2 : Int32) oo lenv zz kk nn gg))), (.int (nar .char (own_cell (3 : Int32) oo lenv zz kk nn gg))), (.int (nar .char (own_cell (4 : Int32) oo lenv zz kk nn gg))), (.int (nar .char (own_cell (5 : Int32) oo lenv zz kk nn gg))), (.int (nar .char (own_cell (6 : Int32) oo lenv zz kk nn gg))), (.int (nar .char (own_cell (7 : Int32) oo lenv zz kk nn gg))), (.int (nar .char (own_cell (8 : Int32) oo lenv zz kk nn gg))), (.int (nar .char (own_cell (9 : Int32) oo lenv zz kk nn gg))), (.int (nar .char (own_cell (10 : Int32) oo lenv zz kk nn gg))), (.int (nar .char (own_cell (11 : Int32) oo lenv zz kk nn gg))), (.int (nar .char (own_cell (12 : Int32) oo lenv zz kk nn gg))), (.int (nar .char (own_cell (13 : Int32) oo lenv zz kk nn gg))), (.int (nar .char (own_cell (14 : Int32) oo lenv zz kk nn gg))), (.int (nar .char (own_cell (15 : Int32) oo lenv zz kk nn gg))), (.int (nar .char (own_cell (16 : Int32) oo lenv zz kk nn gg))), (.int (nar .char (own_cell (17 : Int32) oo lenv zz kk nn gg))), (.int 0), (.int 0), (.int 0), (.int 0), (.int 0), (.int 0)] (.int 0) := Arv.set A177 q177 S177 M177 H177 G177 (fits_nar_char _) W177 17 rfl (Nat.le_of_ble_eq_true rfl)
   have N177 := Fr.snoc X177 N175 g_b105
   clear X175 hin177 st177 K176 A177 q177 S177 M177 H177 G177 W177 N175
   show own_Fin p e below (T177.setTop (mkF m 530 #[.val (.long p0), .second, .val (.int p1), .val (.int p2), .val (.int p3), .val (.long nn), .second, .val (.int kk), s8, .val (.int zz), s10, .val (.int oo), .val (.int gg), .val (.int lenv), .val (.ref b105), .unset, .unset, .unset] [])) _
   refine own_go (fun _ k => XS.aload X177.here hx rfl (hb hby at_530) rfl rfl (XS.bipush X177.here hx rfl (hb hby at_532) (XS.bipush X177.here hx rfl (hb hby at_534) (XS.iload X177.here hx rfl (hb hby at_536) rfl (XS.iload X177.here hx rfl (hb hby at_538) rfl (XS.iload X177.here hx rfl (hb hby at_540) rfl (XS.iload X177.here hx rfl (hb hby at_542) rfl (XS.lload X177.here hx rfl (hb hby at_544) rfl (XS.iload X177.here hx rfl (hb hby at_546) rfl k))))))))) ?_
   show own_Fin p e below (T177.setTop (mkF m 548 #[.val (.long p0), .second, .val (.int p1), .val (.int p2), .val (.int p3), .val (.long nn), .second, .val (.int kk), s8, .val (.int zz), s10, .val (.int oo), .val (.int gg), .val (.int lenv), .val (.ref b105), .unset, .unset, .unset] [(.int gg), (.long nn), (.int kk), (.int zz), (.int lenv), (.int oo), (.int 18), (.int 18), (.ref b105)])) _
   obtain ⟨_, _, ⟨T179, L179, k179, n179⟩, -, X179, ⟨Lc179, hQ179, l179, y179, z179⟩, st179⟩ := Jvm.LawKit.callS X177 hx (y := (⟨"com/example/depthline/depthline/core/DecimalParsePinLaw", "cell", "(IIIIIJC)C"⟩ : MethodName)) hown (mvT hZ (ow hw 5)) (mvT hZ (ow hw 6)) (mvT hZ (ow hw 7)) (mvT hZ (ow hw 8)) (by decide) (backOf (W := 2) (rm1 l Z a0 hw [] (18 : Int32) oo lenv zz kk nn gg h177 n0 O (own_HB hH (by decide) (by decide))) hZ (ow hw 8) (ow hw 7) (by decide) (by decide)) (g := (mkF m 548 #[.val (.long p0), .second, .val (.int p1), .val (.int p2), .val (.int p3), .val (.long nn), .second, .val (.int kk), s8, .val (.int zz), s10, .val (.int oo), .val (.int gg), .val (.int lenv), .val (.ref b105), .unset, .unset, .unset] [(.int gg), (.long nn), (.int kk), (.int zz), (.int lenv), (.int oo), (.int 18), (.int 18), (.ref b105)])) rfl (by rw [hml]; rfl) (argsL := [(.int 18), (.int oo), (.int lenv), (.int zz), (.int kk), (.long nn), (.int gg)]) (rest := [(.int 18), (.ref b105)]) (lenOf pd_4 rfl) rfl (by show 2 * 0 + _ ≤ _; exact Nat.le_of_eq rfl) (hb hby at_548) (fun _ _ => ⟨rfl, e177, (by decide : 19 + 1 ≤ _), (by decide : 348 + 18 ≤ _)⟩)
   dsimp only [Pt.U, Pt.locs, Pt.cells, Pt.slots] at X179 l179 y179 z179 st179 hQ179
   subst y179 z179
   obtain ⟨rfl, N179q, Kq179⟩ := hQ179
   refine own_go (fun _ k => st179 _ k) ?_
   have N179 := own_frl l179 (Fr.app N177 N179q)
   replace V_b105 := V_b105.keep Kq179 nin0
   replace O := O.keep Kq179 all0
   have K180 := K178.trans Kq179 all0
   clear X177 e177 st179 l179 N177 N179q K178 Kq179
   show own_Fin p e below (T179.setTop (mkF m 551 #[.val (.long p0), .second, .val (.int p1), .val (.int p2), .val (.int p3), .val (.long nn), .second, .val (.int kk), s8, .val (.int zz), s10, .val (.int oo), .val (.int gg), .val (.int lenv), .val (.ref b105), .unset, .unset, .unset] [(.int (own_cell (18 : Int32) oo lenv zz kk nn gg)), (.int 18), (.ref b105)])) _
   obtain ⟨cl181, A181, q181, S181, M181, H181, G181⟩ := id V_b105
   have hin181 : ¬ ((18 : Int32) < 0 ∨ cl181.slots.size ≤ ((18 : Int32)).toNatClampNeg) := inb_of S181 ⟨by decide, by decide⟩
   obtain ⟨T181, h181, X181, e181, W181, st181⟩ := stC X179 hx hZ rfl A181 (j := (18 : Int32)) hin181 (g := (mkF m 551 #[.val (.long p0), .second, .val (.int p1), .val (.int p2), .val (.int p3), .val (.long nn), .second, .val (.int kk), s8, .val (.int zz), s10, .val (.int oo), .val (.int gg), .val (.int lenv), .val (.ref b105), .unset, .unset, .unset] [(.int (own_cell (18 : Int32) oo lenv zz kk nn gg)), (.int 18), (.ref b105)])) rfl rfl (hb hby at_551)
   refine own_go (fun _ k => st181 _ k) ?_
   replace O := O.wr W181 g_b105
   have K182 := K180.wr W181 (Or.inr sz_b105)
   replace V_b105 : Arv Z h181 b105 k105 .char (24 : Int32) [(.int (nar .char (own_cell (0 : Int32) oo lenv zz kk nn gg))), (.int (nar .char (own_cell (1 : Int32) oo lenv zz kk nn gg))), (.int (nar .char (own_cell (2 : Int32) oo lenv zz kk nn gg))), (.int (nar .char (own_cell (3 : Int32) oo lenv zz kk nn gg))), (.int (nar .char (own_cell (4 : Int32) oo lenv zz kk nn gg))), (.int (nar .char (own_cell (5 : Int32) oo lenv zz kk nn gg))), (.int (nar .char (own_cell (6 : Int32) oo lenv zz kk nn gg))), (.int (nar .char (own_cell (7 : Int32) oo lenv zz kk nn gg))), (.int (nar .char (own_cell (8 : Int32) oo lenv zz kk nn gg))), (.int (nar .char (own_cell (9 : Int32) oo lenv zz kk nn gg))), (.int (nar .char (own_cell (10 : Int32) oo lenv zz kk nn gg))), (.int (nar .char (own_cell (11 : Int32) oo lenv zz kk nn gg))), (.int (nar .char (own_cell (12 : Int32) oo lenv zz kk nn gg))), (.int (nar .char (own_cell (13 : Int32) oo lenv zz kk nn gg))), (.int (nar .char (own_cell (14 : Int32) oo lenv zz kk nn gg))), (.int (nar .char (own_cell (15 : Int32) oo lenv zz kk nn gg))), (.int (nar .char (own_cell (16 : Int32) oo lenv zz kk nn gg))), (.int (nar .char (own_cell (17 : Int32) oo lenv zz kk nn gg))), (.int (nar .char (own_cell (18 : Int32) oo lenv zz kk nn gg))), (.int 0), (.int 0), (.int 0), (.int 0), (.int 0)] (.int 0) := Arv.set A181 q181 S181 M181 H181 G181 (fits_nar_char _) W181 18 rfl (Nat.le_of_ble_eq_true rfl)
   have N181 := Fr.snoc X181 N179 g_b105
   clear X179 hin181 st181 K180 A181 q181 S181 M181 H181 G181 W181 N179
   show own_Fin p e below (T181.setTop (mkF m 552 #[.val (.long p0), .second, .val (.int p1), .val (.int p2), .val (.int p3), .val (.long nn), .second, .val (.int kk), s8, .val (.int zz), s10, .val (.int oo), .val (.int gg), .val (.int lenv), .val (.ref b105), .unset, .unset, .unset] [])) _
   refine own_go (fun _ k => XS.aload X181.here hx rfl (hb hby at_552) rfl rfl (XS.bipush X181.here hx rfl (hb hby at_554) (XS.bipush X181.here hx rfl (hb hby at_556) (XS.iload X181.here hx rfl (hb hby at_558) rfl (XS.iload X181.here hx rfl (hb hby at_560) rfl (XS.iload X181.here hx rfl (hb hby at_562) rfl (XS.iload X181.here hx rfl (hb hby at_564) rfl (XS.lload X181.here hx rfl (hb hby at_566) rfl (XS.iload X181.here hx rfl (hb hby at_568) rfl k))))))))) ?_
   show own_Fin p e below (T181.setTop (mkF m 570 #[.val (.long p0), .second, .val (.int p1), .val (.int p2), .val (.int p3), .val (.long nn), .second, .val (.int kk), s8, .val (.int zz), s10, .val (.int oo), .val (.int gg), .val (.int lenv), .val (.ref b105), .unset, .unset, .unset] [(.int gg), (.long nn), (.int kk), (.int zz), (.int lenv), (.int oo), (.int 19), (.int 19), (.ref b105)])) _
   obtain ⟨_, _, ⟨T183, L183, k183, n183⟩, -, X183, ⟨Lc183, hQ183, l183, y183, z183⟩, st183⟩ := Jvm.LawKit.callS X181 hx (y := (⟨"com/example/depthline/depthline/core/DecimalParsePinLaw", "cell", "(IIIIIJC)C"⟩ : MethodName)) hown (mvT hZ (ow hw 5)) (mvT hZ (ow hw 6)) (mvT hZ (ow hw 7)) (mvT hZ (ow hw 8)) (by decide) (backOf (W := 2) (rm1 l Z a0 hw [] (19 : Int32) oo lenv zz kk nn gg h181 n0 O (own_HB hH (by decide) (by decide))) hZ (ow hw 8) (ow hw 7) (by decide) (by decide)) (g := (mkF m 570 #[.val (.long p0), .second, .val (.int p1), .val (.int p2), .val (.int p3), .val (.long nn), .second, .val (.int kk), s8, .val (.int zz), s10, .val (.int oo), .val (.int gg), .val (.int lenv), .val (.ref b105), .unset, .unset, .unset] [(.int gg), (.long nn), (.int kk), (.int zz), (.int lenv), (.int oo), (.int 19), (.int 19), (.ref b105)])) rfl (by rw [hml]; rfl) (argsL := [(.int 19), (.int oo), (.int lenv), (.int zz), (.int kk), (.long nn), (.int gg)]) (rest := [(.int 19), (.ref b105)]) (lenOf pd_4 rfl) rfl (by show 2 * 0 + _ ≤ _; exact Nat.le_of_eq rfl) (hb hby at_570) (fun _ _ => ⟨rfl, e181, (by decide : 20 + 1 ≤ _), (by decide : 366 + 18 ≤ _)⟩)
   dsimp only [Pt.U, Pt.locs, Pt.cells, Pt.slots] at X183 l183 y183 z183 st183 hQ183
   subst y183 z183
   obtain ⟨rfl, N183q, Kq183⟩ := hQ183
   refine own_go (fun _ k => st183 _ k) ?_
   have N183 := own_frl l183 (Fr.app N181 N183q)
   replace V_b105 := V_b105.keep Kq183 nin0
   replace O := O.keep Kq183 all0
   have K184 := K182.trans Kq183 all0
   clear X181 e181 st183 l183 N181 N183q K182 Kq183
   show own_Fin p e below (T183.setTop (mkF m 573 #[.val (.long p0), .second, .val (.int p1), .val (.int p2), .val (.int p3), .val (.long nn), .second, .val (.int kk), s8, .val (.int zz), s10, .val (.int oo), .val (.int gg), .val (.int lenv), .val (.ref b105), .unset, .unset, .unset] [(.int (own_cell (19 : Int32) oo lenv zz kk nn gg)), (.int 19), (.ref b105)])) _
   obtain ⟨cl185, A185, q185, S185, M185, H185, G185⟩ := id V_b105
   have hin185 : ¬ ((19 : Int32) < 0 ∨ cl185.slots.size ≤ ((19 : Int32)).toNatClampNeg) := inb_of S185 ⟨by decide, by decide⟩
   obtain ⟨T185, h185, X185, e185, W185, st185⟩ := stC X183 hx hZ rfl A185 (j := (19 : Int32)) hin185 (g := (mkF m 573 #[.val (.long p0), .second, .val (.int p1), .val (.int p2), .val (.int p3), .val (.long nn), .second, .val (.int kk), s8, .val (.int zz), s10, .val (.int oo), .val (.int gg), .val (.int lenv), .val (.ref b105), .unset, .unset, .unset] [(.int (own_cell (19 : Int32) oo lenv zz kk nn gg)), (.int 19), (.ref b105)])) rfl rfl (hb hby at_573)
   refine own_go (fun _ k => st185 _ k) ?_
   replace O := O.wr W185 g_b105
   have K186 := K184.wr W185 (Or.inr sz_b105)
   replace V_b105 : Arv Z h185 b105 k105 .char (24 : Int32) [(.int (nar .char (own_cell (0 : Int32) oo lenv zz kk nn gg))), (.int (nar .char (own_cell (1 : Int32) oo lenv zz kk nn gg))), (.int (nar .char (own_cell (2 : Int32) oo lenv zz kk nn gg))), (.int (nar .char (own_cell (3 : Int32) oo lenv zz kk nn gg))), (.int (nar .char (own_cell (4 : Int32) oo lenv zz kk nn gg))), (.int (nar .char (own_cell (5 : Int32) oo lenv zz kk nn gg))), (.int (nar .char (own_cell (6 : Int32) oo lenv zz kk nn gg))), (.int (nar .char (own_cell (7 : Int32) oo lenv zz kk nn gg))), (.int (nar .char (own_cell (8 : Int32) oo lenv zz kk nn gg))), (.int (nar .char (own_cell (9 : Int32) oo lenv zz kk nn gg))), (.int (nar .char (own_cell (10 : Int32) oo lenv zz kk nn gg))), (.int (nar .char (own_cell (11 : Int32) oo lenv zz kk nn gg))), (.int (nar .char (own_cell (12 : Int32) oo lenv zz kk nn gg))), (.int (nar .char (own_cell (13 : Int32) oo lenv zz kk nn gg))), (.int (nar .char (own_cell (14 : Int32) oo lenv zz kk nn gg))), (.int (nar .char (own_cell (15 : Int32) oo lenv zz kk nn gg))), (.int (nar .char (own_cell (16 : Int32) oo lenv zz kk nn gg))), (.int (nar .char (own_cell (17 : Int32) oo lenv zz kk nn gg))), (.int (nar .char (own_cell (18 : Int32) oo lenv zz kk nn gg))), (.int (nar .char (own_cell (19 : Int32) oo lenv zz kk nn gg))), (.int 0), (.int 0), (.int 0), (.int 0)] (.int 0) := Arv.set A185 q185 S185 M185 H185 G185 (fits_nar_char _) W185 19 rfl (Nat.le_of_ble_eq_true rfl)
   have N185 := Fr.snoc X185 N183 g_b105
   clear X183 hin185 st185 K184 A185 q185 S185 M185 H185 G185 W185 N183
   show own_Fin p e below (T185.setTop (mkF m 574 #[.val (.long p0), .second, .val (.int p1), .val (.int p2), .val (.int p3), .val (.long nn), .second, .val (.int kk), s8, .val (.int zz), s10, .val (.int oo), .val (.int gg), .val (.int lenv), .val (.ref b105), .unset, .unset, .unset] [])) _
   refine own_go (fun _ k => XS.aload X185.here hx rfl (hb hby at_574) rfl rfl (XS.bipush X185.here hx rfl (hb hby at_576) (XS.bipush X185.here hx rfl (hb hby at_578) (XS.iload X185.here hx rfl (hb hby at_580) rfl (XS.iload X185.here hx rfl (hb hby at_582) rfl (XS.iload X185.here hx rfl (hb hby at_584) rfl (XS.iload X185.here hx rfl (hb hby at_586) rfl (XS.lload X185.here hx rfl (hb hby at_588) rfl (XS.iload X185.here hx rfl (hb hby at_590) rfl k))))))))) ?_
   show own_Fin p e below (T185.setTop (mkF m 592 #[.val (.long p0), .second, .val (.int p1), .val (.int p2), .val (.int p3), .val (.long nn), .second, .val (.int kk), s8, .val (.int zz), s10, .val (.int oo), .val (.int gg), .val (.int lenv), .val (.ref b105), .unset, .unset, .unset] [(.int gg), (.long nn), (.int kk), (.int zz), (.int lenv), (.int oo), (.int 20), (.int 20), (.ref b105)])) _
   obtain ⟨_, _, ⟨T187, L187, k187, n187⟩, -, X187, ⟨Lc187, hQ187, l187, y187, z187⟩, st187⟩ := Jvm.LawKit.callS X185 hx (y := (⟨"com/example/depthline/depthline/core/DecimalParsePinLaw", "cell", "(IIIIIJC)C"⟩ : MethodName)) hown (mvT hZ (ow hw 5)) (mvT hZ (ow hw 6)) (mvT hZ (ow hw 7)) (mvT hZ (ow hw 8)) (by decide) (backOf (W := 2) (rm1 l Z a0 hw [] (20 : Int32) oo lenv zz kk nn gg h185 n0 O (own_HB hH (by decide) (by decide))) hZ (ow hw 8) (ow hw 7) (by decide) (by decide)) (g := (mkF m 592 #[.val (.long p0), .second, .val (.int p1), .val (.int p2), .val (.int p3), .val (.long nn), .second, .val (.int kk), s8, .val (.int zz), s10, .val (.int oo), .val (.int gg), .val (.int lenv), .val (.ref b105), .unset, .unset, .unset] [(.int gg), (.long nn), (.int kk), (.int zz), (.int lenv), (.int oo), (.int 20), (.int 20), (.ref b105)])) rfl (by rw [hml]; rfl) (argsL := [(.int 20), (.int oo), (.int lenv), (.int zz), (.int kk), (.long nn), (.int gg)]) (rest := [(.int 20), (.ref b105)]) (lenOf pd_4 rfl) rfl (by show 2 * 0 + _ ≤ _; exact Nat.le_of_eq rfl) (hb hby at_592) (fun _ _ => ⟨rfl, e185, (by decide : 21 + 1 ≤ _), (by decide : 384 + 18 ≤ _)⟩)
   dsimp only [Pt.U, Pt.locs, Pt.cells, Pt.slots] at X187 l187 y187 z187 st187 hQ187
   subst y187 z187
   obtain ⟨rfl, N187q, Kq187⟩ := hQ187
   refine own_go (fun _ k => st187 _ k) ?_
   have N187 := own_frl l187 (Fr.app N185 N187q)
   replace V_b105 := V_b105.keep Kq187 nin0
   replace O := O.keep Kq187 all0
   have K188 := K186.trans Kq187 all0
   clear X185 e185 st187 l187 N185 N187q K186 Kq187
   show own_Fin p e below (T187.setTop (mkF m 595 #[.val (.long p0), .second, .val (.int p1), .val (.int p2), .val (.int p3), .val (.long nn), .second, .val (.int kk), s8, .val (.int zz), s10, .val (.int oo), .val (.int gg), .val (.int lenv), .val (.ref b105), .unset, .unset, .unset] [(.int (own_cell (20 : Int32) oo lenv zz kk nn gg)), (.int 20), (.ref b105)])) _
   obtain ⟨cl189, A189, q189, S189, M189, H189, G189⟩ := id V_b105
   have hin189 : ¬ ((20 : Int32) < 0 ∨ cl189.slots.size ≤ ((20 : Int32)).toNatClampNeg) := inb_of S189 ⟨by decide, by decide⟩
   obtain ⟨T189, h189, X189, e189, W189, st189⟩ := stC X187 hx hZ rfl A189 (j := (20 : Int32)) hin189 (g := (mkF m 595 #[.val (.long p0), .second, .val (.int p1), .val (.int p2), .val (.int p3), .val (.long nn), .second, .val (.int kk), s8, .val (.int zz), s10, .val (.int oo), .val (.int gg), .val (.int lenv), .val (.ref b105), .unset, .unset, .unset] [(.int (own_cell (20 : Int32) oo lenv zz kk nn gg)), (.int 20), (.ref b105)])) rfl rfl (hb hby at_595)
   refine own_go (fun _ k => st189 _ k) ?_
   replace O := O.wr W189 g_b105
   have K190 := K188.wr W189 (Or.inr sz_b105)
   replace V_b105 : Arv Z h189 b105 k105 .char (24 : Int32) [(.int (nar .char (own_cell (0 : Int32) oo lenv zz kk nn gg))), (.int (nar .char (own_cell (1 : Int32) oo lenv zz kk nn gg))), (.int (nar .char (own_cell (2 : Int32) oo lenv zz kk nn gg))), (.int (nar .char (own_cell (3 : Int32) oo lenv zz kk nn gg))), (.int (nar .char (own_cell (4 : Int32) oo lenv zz kk nn gg))), (.int (nar .char (own_cell (5 : Int32) oo lenv zz kk nn gg))), (.int (nar .char (own_cell (6 : Int32) oo lenv zz kk nn gg))), (.int (nar .char (own_cell (7 : Int32) oo lenv zz kk nn gg))), (.int (nar .char (own_cell (8 : Int32) oo lenv zz kk nn gg))), (.int (nar .char (own_cell (9 : Int32) oo lenv zz kk nn gg))), (.int (nar .char (own_cell (10 : Int32) oo lenv zz kk nn gg))), (.int (nar .char (own_cell (11 : Int32) oo lenv zz kk nn gg))), (.int (nar .char (own_cell (12 : Int32) oo lenv zz kk nn gg))), (.int (nar .char (own_cell (13 : Int32) oo lenv zz kk nn gg))), (.int (nar .char (own_cell (14 : Int32) oo lenv zz kk nn gg))), (.int (nar .char (own_cell (15 : Int32) oo lenv zz kk nn gg))), (.int (nar .char (own_cell (16 : Int32) oo lenv zz kk nn gg))), (.int (nar .char (own_cell (17 : Int32) oo lenv zz kk nn gg))), (.int (nar .char (own_cell (18 : Int32) oo lenv zz kk nn gg))), (.int (nar .char (own_cell (19 : Int32) oo lenv zz kk nn gg))), (.int (nar .char (own_cell (20 : Int32) oo lenv zz kk nn gg))), (.int 0), (.int 0), (.int 0)] (.int 0) := Arv.set A189 q189 S189 M189 H189 G189 (fits_nar_char _) W189 20 rfl (Nat.le_of_ble_eq_true rfl)
   have N189 := Fr.snoc X189 N187 g_b105
   clear X187 hin189 st189 K188 A189 q189 S189 M189 H189 G189 W189 N187
   show own_Fin p e below (T189.setTop (mkF m 596 #[.val (.long p0), .second, .val (.int p1), .val (.int p2), .val (.int p3), .val (.long nn), .second, .val (.int kk), s8, .val (.int zz), s10, .val (.int oo), .val (.int gg), .val (.int lenv), .val (.ref b105), .unset, .unset, .unset] [])) _
   refine own_go (fun _ k => XS.aload X189.here hx rfl (hb hby at_596) rfl rfl (XS.bipush X189.here hx rfl (hb hby at_598) (XS.bipush X189.here hx rfl (hb hby at_600) (XS.iload X189.here hx rfl (hb hby at_602) rfl (XS.iload X189.here hx rfl (hb hby at_604) rfl (XS.iload X189.here hx rfl (hb hby at_606) rfl (XS.iload X189.here hx rfl (hb hby at_608) rfl (XS.lload X189.here hx rfl (hb hby at_610) rfl (XS.iload X189.here hx rfl (hb hby at_612) rfl k))))))))) ?_
   show own_Fin p e below (T189.setTop (mkF m 614 #[.val (.long p0), .second, .val (.int p1), .val (.int p2), .val (.int p3), .val (.long nn), .second, .val (.int kk), s8, .val (.int zz), s10, .val (.int oo), .val (.int gg), .val (.int lenv), .val (.ref b105), .unset, .unset, .unset] [(.int gg), (.long nn), (.int kk), (.int zz), (.int lenv), (.int oo), (.int 21), (.int 21), (.ref b105)])) _
   obtain ⟨_, _, ⟨T191, L191, k191, n191⟩, -, X191, ⟨Lc191, hQ191, l191, y191, z191⟩, st191⟩ := Jvm.LawKit.callS X189 hx (y := (⟨"com/example/depthline/depthline/core/DecimalParsePinLaw", "cell", "(IIIIIJC)C"⟩ : MethodName)) hown (mvT hZ (ow hw 5)) (mvT hZ (ow hw 6)) (mvT hZ (ow hw 7)) (mvT hZ (ow hw 8)) (by decide) (backOf (W := 2) (rm1 l Z a0 hw [] (21 : Int32) oo lenv zz kk nn gg h189 n0 O (own_HB hH (by decide) (by decide))) hZ (ow hw 8) (ow hw 7) (by decide) (by decide)) (g := (mkF m 614 #[.val (.long p0), .second, .val (.int p1), .val (.int p2), .val (.int p3), .val (.long nn), .second, .val (.int kk), s8, .val (.int zz), s10, .val (.int oo), .val (.int gg), .val (.int lenv), .val (.ref b105), .unset, .unset, .unset] [(.int gg), (.long nn), (.int kk), (.int zz), (.int lenv), (.int oo), (.int 21), (.int 21), (.ref b105)])) rfl (by rw [hml]; rfl) (argsL := [(.int 21), (.int oo), (.int lenv), (.int zz), (.int kk), (.long nn), (.int gg)]) (rest := [(.int 21), (.ref b105)]) (lenOf pd_4 rfl) rfl (by show 2 * 0 + _ ≤ _; exact Nat.le_of_eq rfl) (hb hby at_614) (fun _ _ => ⟨rfl, e189, (by decide : 22 + 1 ≤ _), (by decide : 402 + 18 ≤ _)⟩)
   dsimp only [Pt.U, Pt.locs, Pt.cells, Pt.slots] at X191 l191 y191 z191 st191 hQ191
   subst y191 z191
   obtain ⟨rfl, N191q, Kq191⟩ := hQ191
   refine own_go (fun _ k => st191 _ k) ?_
   have N191 := own_frl l191 (Fr.app N189 N191q)
   replace V_b105 := V_b105.keep Kq191 nin0
   replace O := O.keep Kq191 all0
   have K192 := K190.trans Kq191 all0
   clear X189 e189 st191 l191 N189 N191q K190 Kq191
   show own_Fin p e below (T191.setTop (mkF m 617 #[.val (.long p0), .second, .val (.int p1), .val (.int p2), .val (.int p3), .val (.long nn), .second, .val (.int kk), s8, .val (.int zz), s10, .val (.int oo), .val (.int gg), .val (.int lenv), .val (.ref b105), .unset, .unset, .unset] [(.int (own_cell (21 : Int32) oo lenv zz kk nn gg)), (.int 21), (.ref b105)])) _
   obtain ⟨cl193, A193, q193, S193, M193, H193, G193⟩ := id V_b105
   have hin193 : ¬ ((21 : Int32) < 0 ∨ cl193.slots.size ≤ ((21 : Int32)).toNatClampNeg) := inb_of S193 ⟨by decide, by decide⟩
   obtain ⟨T193, h193, X193, e193, W193, st193⟩ := stC X191 hx hZ rfl A193 (j := (21 : Int32)) hin193 (g := (mkF m 617 #[.val (.long p0), .second, .val (.int p1), .val (.int p2), .val (.int p3), .val (.long nn), .second, .val (.int kk), s8, .val (.int zz), s10, .val (.int oo), .val (.int gg), .val (.int lenv), .val (.ref b105), .unset, .unset, .unset] [(.int (own_cell (21 : Int32) oo lenv zz kk nn gg)), (.int 21), (.ref b105)])) rfl rfl (hb hby at_617)
   refine own_go (fun _ k => st193 _ k) ?_
   replace O := O.wr W193 g_b105
   have K194 := K192.wr W193 (Or.inr sz_b105)
   replace V_b105 : Arv Z h193 b105 k105 .char (24 : Int32) [(.int (nar .char (own_cell (0 : Int32) oo lenv zz kk nn gg))), (.int (nar .char (own_cell (1 : Int32) oo lenv zz kk nn gg))), (.int (nar .char (own_cell (2 : Int32) oo lenv zz kk nn gg))), (.int (nar .char (own_cell (3 : Int32) oo lenv zz kk nn gg))), (.int (nar .char (own_cell (4 : Int32) oo lenv zz kk nn gg))), (.int (nar .char (own_cell (5 : Int32) oo lenv zz kk nn gg))), (.int (nar .char (own_cell (6 : Int32) oo lenv zz kk nn gg))), (.int (nar .char (own_cell (7 : Int32) oo lenv zz kk nn gg))), (.int (nar .char (own_cell (8 : Int32) oo lenv zz kk nn gg))), (.int (nar .char (own_cell (9 : Int32) oo lenv zz kk nn gg))), (.int (nar .char (own_cell (10 : Int32) oo lenv zz kk nn gg))), (.int (nar .char (own_cell (11 : Int32) oo lenv zz kk nn gg))), (.int (nar .char (own_cell (12 : Int32) oo lenv zz kk nn gg))), (.int (nar .char (own_cell (13 : Int32) oo lenv zz kk nn gg))), (.int (nar .char (own_cell (14 : Int32) oo lenv zz kk nn gg))), (.int (nar .char (own_cell (15 : Int32) oo lenv zz kk nn gg))), (.int (nar .char (own_cell (16 : Int32) oo lenv zz kk nn gg))), (.int (nar .char (own_cell (17 : Int32) oo lenv zz kk nn gg))), (.int (nar .char (own_cell (18 : Int32) oo lenv zz kk nn gg))), (.int (nar .char (own_cell (19 : Int32) oo lenv zz kk nn gg))), (.int (nar .char (own_cell (20 : Int32) oo lenv zz kk nn gg))), (.int (nar .char (own_cell (21 : Int32) oo lenv zz kk nn gg))), (.int 0), (.int 0)] (.int 0) := Arv.set A193 q193 S193 M193 H193 G193 (fits_nar_char _) W193 21 rfl (Nat.le_of_ble_eq_true rfl)
   have N193 := Fr.snoc X193 N191 g_b105
   clear X191 hin193 st193 K192 A193 q193 S193 M193 H193 G193 W193 N191
   show own_Fin p e below (T193.setTop (mkF m 618 #[.val (.long p0), .second, .val (.int p1), .val (.int p2), .val (.int p3), .val (.long nn), .second, .val (.int kk), s8, .val (.int zz), s10, .val (.int oo), .val (.int gg), .val (.int lenv), .val (.ref b105), .unset, .unset, .unset] [])) _
   refine own_go (fun _ k => XS.aload X193.here hx rfl (hb hby at_618) rfl rfl (XS.bipush X193.here hx rfl (hb hby at_620) (XS.bipush X193.here hx rfl (hb hby at_622) (XS.iload X193.here hx rfl (hb hby at_624) rfl (XS.iload X193.here hx rfl (hb hby at_626) rfl (XS.iload X193.here hx rfl (hb hby at_628) rfl (XS.iload X193.here hx rfl (hb hby at_630) rfl (XS.lload X193.here hx rfl (hb hby at_632) rfl (XS.iload X193.here hx rfl (hb hby at_634) rfl k))))))))) ?_
   show own_Fin p e below (T193.setTop (mkF m 636 #[.val (.long p0), .second, .val (.int p1), .val (.int p2), .val (.int p3), .val (.long nn), .second, .val (.int kk), s8, .val (.int zz), s10, .val (.int oo), .val (.int gg), .val (.int lenv), .val (.ref b105), .unset, .unset, .unset] [(.int gg), (.long nn), (.int kk), (.int zz), (.int lenv), (.int oo), (.int 22), (.int 22), (.ref b105)])) _
   obtain ⟨_, _, ⟨T195, L195, k195, n195⟩, -, X195, ⟨Lc195, hQ195, l195, y195, z195⟩, st195⟩ := Jvm.LawKit.callS X193 hx (y := (⟨"com/example/depthline/depthline/core/DecimalParsePinLaw", "cell", "(IIIIIJC)C"⟩ : MethodName)) hown (mvT hZ (ow hw 5)) (mvT hZ (ow hw 6)) (mvT hZ (ow hw 7)) (mvT hZ (ow hw 8)) (by decide) (backOf (W := 2) (rm1 l Z a0 hw [] (22 : Int32) oo lenv zz kk nn gg h193 n0 O (own_HB hH (by decide) (by decide))) hZ (ow hw 8) (ow hw 7) (by decide) (by decide)) (g := (mkF m 636 #[.val (.long p0), .second, .val (.int p1), .val (.int p2), .val (.int p3), .val (.long nn), .second, .val (.int kk), s8, .val (.int zz), s10, .val (.int oo), .val (.int gg), .val (.int lenv), .val (.ref b105), .unset, .unset, .unset] [(.int gg), (.long nn), (.int kk), (.int zz), (.int lenv), (.int oo), (.int 22), (.int 22), (.ref b105)])) rfl (by rw [hml]; rfl) (argsL := [(.int 22), (.int oo), (.int lenv), (.int zz), (.int kk), (.long nn), (.int gg)]) (rest := [(.int 22), (.ref b105)]) (lenOf pd_4 rfl) rfl (by show 2 * 0 + _ ≤ _; exact Nat.le_of_eq rfl) (hb hby at_636) (fun _ _ => ⟨rfl, e193, (by decide : 23 + 1 ≤ _), (by decide : 420 + 18 ≤ _)⟩)
   dsimp only [Pt.U, Pt.locs, Pt.cells, Pt.slots] at X195 l195 y195 z195 st195 hQ195
   subst y195 z195
   obtain ⟨rfl, N195q, Kq195⟩ := hQ195
   refine own_go (fun _ k => st195 _ k) ?_
   have N195 := own_frl l195 (Fr.app N193 N195q)
   replace V_b105 := V_b105.keep Kq195 nin0
   replace O := O.keep Kq195 all0
   have K196 := K194.trans Kq195 all0
   clear X193 e193 st195 l195 N193 N195q K194 Kq195
   show own_Fin p e below (T195.setTop (mkF m 639 #[.val (.long p0), .second, .val (.int p1), .val (.int p2), .val (.int p3), .val (.long nn), .second, .val (.int kk), s8, .val (.int zz), s10, .val (.int oo), .val (.int gg), .val (.int lenv), .val (.ref b105), .unset, .unset, .unset] [(.int (own_cell (22 : Int32) oo lenv zz kk nn gg)), (.int 22), (.ref b105)])) _
   obtain ⟨cl197, A197, q197, S197, M197, H197, G197⟩ := id V_b105
   have hin197 : ¬ ((22 : Int32) < 0 ∨ cl197.slots.size ≤ ((22 : Int32)).toNatClampNeg) := inb_of S197 ⟨by decide, by decide⟩
   obtain ⟨T197, h197, X197, e197, W197, st197⟩ := stC X195 hx hZ rfl A197 (j := (22 : Int32)) hin197 (g := (mkF m 639 #[.val (.long p0), .second, .val (.int p1), .val (.int p2), .val (.int p3), .val (.long nn), .second, .val (.int kk), s8, .val (.int zz), s10, .val (.int oo), .val (.int gg), .val (.int lenv), .val (.ref b105), .unset, .unset, .unset] [(.int (own_cell (22 : Int32) oo lenv zz kk nn gg)), (.int 22), (.ref b105)])) rfl rfl (hb hby at_639)
   refine own_go (fun _ k => st197 _ k) ?_
   replace O := O.wr W197 g_b105
   have K198 := K196.wr W197 (Or.inr sz_b105)
   replace V_b105 : Arv Z h197 b105 k105 .char (24 : Int32) [(.int (nar .char (own_cell (0 : Int32) oo lenv zz kk nn gg))), (.int (nar .char (own_cell (1 : Int32) oo lenv zz kk nn gg))), (.int (nar .char (own_cell (2 : Int32) oo lenv zz kk nn gg))), (.int (nar .char (own_cell (3 : Int32) oo lenv zz kk nn gg))), (.int (nar .char (own_cell (4 : Int32) oo lenv zz kk nn gg))), (.int (nar .char (own_cell (5 : Int32) oo lenv zz kk nn gg))), (.int (nar .char (own_cell (6 : Int32) oo lenv zz kk nn gg))), (.int (nar .char (own_cell (7 : Int32) oo lenv zz kk nn gg))), (.int (nar .char (own_cell (8 : Int32) oo lenv zz kk nn gg))), (.int (nar .char (own_cell (9 : Int32) oo lenv zz kk nn gg))), (.int (nar .char (own_cell (10 : Int32) oo lenv zz kk nn gg))), (.int (nar .char (own_cell (11 : Int32) oo lenv zz kk nn gg))), (.int (nar .char (own_cell (12 : Int32) oo lenv zz kk nn gg))), (.int (nar .char (own_cell (13 : Int32) oo lenv zz kk nn gg))), (.int (nar .char (own_cell (14 : Int32) oo lenv zz kk nn gg))), (.int (nar .char (own_cell (15 : Int32) oo lenv zz kk nn gg))), (.int (nar .char (own_cell (16 : Int32) oo lenv zz kk nn gg))), (.int (nar .char (own_cell (17 : Int32) oo lenv zz kk nn gg))), (.int (nar .char (own_cell (18 : Int32) oo lenv zz kk nn gg))), (.int (nar .char (own_cell (19 : Int32) oo lenv zz kk nn gg))), (.int (nar .char (own_cell (20 : Int32) oo lenv zz kk nn gg))), (.int (nar .char (own_cell (21 : Int32) oo lenv zz kk nn gg))), (.int (nar .char (own_cell (22 : Int32) oo lenv zz kk nn gg))), (.int 0)] (.int 0) := Arv.set A197 q197 S197 M197 H197 G197 (fits_nar_char _) W197 22 rfl (Nat.le_of_ble_eq_true rfl)
   have N197 := Fr.snoc X197 N195 g_b105
   clear X195 hin197 st197 K196 A197 q197 S197 M197 H197 G197 W197 N195
   show own_Fin p e below (T197.setTop (mkF m 640 #[.val (.long p0), .second, .val (.int p1), .val (.int p2), .val (.int p3), .val (.long nn), .second, .val (.int kk), s8, .val (.int zz), s10, .val (.int oo), .val (.int gg), .val (.int lenv), .val (.ref b105), .unset, .unset, .unset] [])) _
   refine own_go (fun _ k => XS.aload X197.here hx rfl (hb hby at_640) rfl rfl (XS.bipush X197.here hx rfl (hb hby at_642) (XS.bipush X197.here hx rfl (hb hby at_644) (XS.iload X197.here hx rfl (hb hby at_646) rfl (XS.iload X197.here hx rfl (hb hby at_648) rfl (XS.iload X197.here hx rfl (hb hby at_650) rfl (XS.iload X197.here hx rfl (hb hby at_652) rfl (XS.lload X197.here hx rfl (hb hby at_654) rfl (XS.iload X197.here hx rfl (hb hby at_656) rfl k))))))))) ?_
   show own_Fin p e below (T197.setTop (mkF m 658 #[.val (.long p0), .second, .val (.int p1), .val (.int p2), .val (.int p3), .val (.long nn), .second, .val (.int kk), s8, .val (.int zz), s10, .val (.int oo), .val (.int gg), .val (.int lenv), .val (.ref b105), .unset, .unset, .unset] [(.int gg), (.long nn), (.int kk), (.int zz), (.int lenv), (.int oo), (.int 23), (.int 23), (.ref b105)])) _
   obtain ⟨_, _, ⟨T199, L199, k199, n199⟩, -, X199, ⟨Lc199, hQ199, l199, y199, z199⟩, st199⟩ := Jvm.LawKit.callS X197 hx (y := (⟨"com/example/depthline/depthline/core/DecimalParsePinLaw", "cell", "(IIIIIJC)C"⟩ : MethodName)) hown (mvT hZ (ow hw 5)) (mvT hZ (ow hw 6)) (mvT hZ (ow hw 7)) (mvT hZ (ow hw 8)) (by decide) (backOf (W := 2) (rm1 l Z a0 hw [] (23 : Int32) oo lenv zz kk nn gg h197 n0 O (own_HB hH (by decide) (by decide))) hZ (ow hw 8) (ow hw 7) (by decide) (by decide)) (g := (mkF m 658 #[.val (.long p0), .second, .val (.int p1), .val (.int p2), .val (.int p3), .val (.long nn), .second, .val (.int kk), s8, .val (.int zz), s10, .val (.int oo), .val (.int gg), .val (.int lenv), .val (.ref b105), .unset, .unset, .unset] [(.int gg), (.long nn), (.int kk), (.int zz), (.int lenv), (.int oo), (.int 23), (.int 23), (.ref b105)])) rfl (by rw [hml]; rfl) (argsL := [(.int 23), (.int oo), (.int lenv), (.int zz), (.int kk), (.long nn), (.int gg)]) (rest := [(.int 23), (.ref b105)]) (lenOf pd_4 rfl) rfl (by show 2 * 0 + _ ≤ _; exact Nat.le_of_eq rfl) (hb hby at_658) (fun _ _ => ⟨rfl, e197, (by decide : 24 + 1 ≤ _), (by decide : 438 + 18 ≤ _)⟩)
   dsimp only [Pt.U, Pt.locs, Pt.cells, Pt.slots] at X199 l199 y199 z199 st199 hQ199
   subst y199 z199
   obtain ⟨rfl, N199q, Kq199⟩ := hQ199
   refine own_go (fun _ k => st199 _ k) ?_
   have N199 := own_frl l199 (Fr.app N197 N199q)
   replace V_b105 := V_b105.keep Kq199 nin0
   replace O := O.keep Kq199 all0
   have K200 := K198.trans Kq199 all0
   clear X197 e197 st199 l199 N197 N199q K198 Kq199
   show own_Fin p e below (T199.setTop (mkF m 661 #[.val (.long p0), .second, .val (.int p1), .val (.int p2), .val (.int p3), .val (.long nn), .second, .val (.int kk), s8, .val (.int zz), s10, .val (.int oo), .val (.int gg), .val (.int lenv), .val (.ref b105), .unset, .unset, .unset] [(.int (own_cell (23 : Int32) oo lenv zz kk nn gg)), (.int 23), (.ref b105)])) _
   obtain ⟨cl201, A201, q201, S201, M201, H201, G201⟩ := id V_b105
   have hin201 : ¬ ((23 : Int32) < 0 ∨ cl201.slots.size ≤ ((23 : Int32)).toNatClampNeg) := inb_of S201 ⟨by decide, by decide⟩
   obtain ⟨T201, h201, X201, e201, W201, st201⟩ := stC X199 hx hZ rfl A201 (j := (23 : Int32)) hin201 (g := (mkF m 661 #[.val (.long p0), .second, .val (.int p1), .val (.int p2), .val (.int p3), .val (.long nn), .second, .val (.int kk), s8, .val (.int zz), s10, .val (.int oo), .val (.int gg), .val (.int lenv), .val (.ref b105), .unset, .unset, .unset] [(.int (own_cell (23 : Int32) oo lenv zz kk nn gg)), (.int 23), (.ref b105)])) rfl rfl (hb hby at_661)
   refine own_go (fun _ k => st201 _ k) ?_
   replace O := O.wr W201 g_b105
   have K202 := K200.wr W201 (Or.inr sz_b105)
   replace V_b105 : Arv Z h201 b105 k105 .char (24 : Int32) [(.int (nar .char (own_cell (0 : Int32) oo lenv zz kk nn gg))), (.int (nar .char (own_cell (1 : Int32) oo lenv zz kk nn gg))), (.int (nar .char (own_cell (2 : Int32) oo lenv zz kk nn gg))), (.int (nar .char (own_cell (3 : Int32) oo lenv zz kk nn gg))), (.int (nar .char (own_cell (4 : Int32) oo lenv zz kk nn gg))), (.int (nar .char (own_cell (5 : Int32) oo lenv zz kk nn gg))), (.int (nar .char (own_cell (6 : Int32) oo lenv zz kk nn gg))), (.int (nar .char (own_cell (7 : Int32) oo lenv zz kk nn gg))), (.int (nar .char (own_cell (8 : Int32) oo lenv zz kk nn gg))), (.int (nar .char (own_cell (9 : Int32) oo lenv zz kk nn gg))), (.int (nar .char (own_cell (10 : Int32) oo lenv zz kk nn gg))), (.int (nar .char (own_cell (11 : Int32) oo lenv zz kk nn gg))), (.int (nar .char (own_cell (12 : Int32) oo lenv zz kk nn gg))), (.int (nar .char (own_cell (13 : Int32) oo lenv zz kk nn gg))), (.int (nar .char (own_cell (14 : Int32) oo lenv zz kk nn gg))), (.int (nar .char (own_cell (15 : Int32) oo lenv zz kk nn gg))), (.int (nar .char (own_cell (16 : Int32) oo lenv zz kk nn gg))), (.int (nar .char (own_cell (17 : Int32) oo lenv zz kk nn gg))), (.int (nar .char (own_cell (18 : Int32) oo lenv zz kk nn gg))), (.int (nar .char (own_cell (19 : Int32) oo lenv zz kk nn gg))), (.int (nar .char (own_cell (20 : Int32) oo lenv zz kk nn gg))), (.int (nar .char (own_cell (21 : Int32) oo lenv zz kk nn gg))), (.int (nar .char (own_cell (22 : Int32) oo lenv zz kk nn gg))), (.int (nar .char (own_cell (23 : Int32) oo lenv zz kk nn gg)))] (.int 0) := Arv.set A201 q201 S201 M201 H201 G201 (fits_nar_char _) W201 23 rfl (Nat.le_of_ble_eq_true rfl)
   have N201 := Fr.snoc X201 N199 g_b105
   clear X199 hin201 st201 K200 A201 q201 S201 M201 H201 G201 W201 N199
   show own_Fin p e below (T201.setTop (mkF m 662 #[.val (.long p0), .second, .val (.int p1), .val (.int p2), .val (.int p3), .val (.long nn), .second, .val (.int kk), s8, .val (.int zz), s10, .val (.int oo), .val (.int gg), .val (.int lenv), .val (.ref b105), .unset, .unset, .unset] [])) _
   refine own_go (fun _ k => XS.aload X201.here hx rfl (hb hby at_662) rfl rfl (XS.iload X201.here hx rfl (hb hby at_664) rfl (XS.iload X201.here hx rfl (hb hby at_666) rfl k))) ?_
   show own_Fin p e below (T201.setTop (mkF m 668 #[.val (.long p0), .second, .val (.int p1), .val (.int p2), .val (.int p3), .val (.long nn), .second, .val (.int kk), s8, .val (.int zz), s10, .val (.int oo), .val (.int gg), .val (.int lenv), .val (.ref b105), .unset, .unset, .unset] [(.int lenv), (.int oo), (.ref b105)])) _
   obtain ⟨sk, hsk⟩ : ∃ sk : Int32, sk.toInt = (if kk.toInt ≤ 17 then 18 - kk.toInt else 0) := own_sk hH
   show own_Fin p e below (T201.setTop (mkF m 668 #[.val (.long p0), .second, .val (.int p1), .val (.int p2), .val (.int p3), .val (.long nn), .second, .val (.int kk), s8, .val (.int zz), s10, .val (.int oo), .val (.int gg), .val (.int lenv), .val (.ref b105), .unset, .unset, .unset] [(.int lenv), (.int oo), (.ref b105)])) _
   obtain ⟨_, _, ⟨T203, L203, k203, n203⟩, -, X203, ⟨Lc203, hQ203, l203, y203, z203⟩, st203⟩ := Jvm.LawKit.callS X201 hx (y := (⟨"com/example/depthline/depthline/core/Decimal", "parse", "([CII)Lcom/example/depthline/depthline/core/Decimal;"⟩ : MethodName)) hown (mvT hZ (ow hw 32)) (mvT hZ (ow hw 33)) (mvT hZ (ow hw 34)) (mvT hZ (ow hw 35)) (by decide) (backOf (W := 0) (rm4 l Z a0 hw [] b105 oo lenv pw kp k105 [(.int (nar .char (own_cell (0 : Int32) oo lenv zz kk nn gg))), (.int (nar .char (own_cell (1 : Int32) oo lenv zz kk nn gg))), (.int (nar .char (own_cell (2 : Int32) oo lenv zz kk nn gg))), (.int (nar .char (own_cell (3 : Int32) oo lenv zz kk nn gg))), (.int (nar .char (own_cell (4 : Int32) oo lenv zz kk nn gg))), (.int (nar .char (own_cell (5 : Int32) oo lenv zz kk nn gg))), (.int (nar .char (own_cell (6 : Int32) oo lenv zz kk nn gg))), (.int (nar .char (own_cell (7 : Int32) oo lenv zz kk nn gg))), (.int (nar .char (own_cell (8 : Int32) oo lenv zz kk nn gg))), (.int (nar .char (own_cell (9 : Int32) oo lenv zz kk nn gg))), (.int (nar .char (own_cell (10 : Int32) oo lenv zz kk nn gg))), (.int (nar .char (own_cell (11 : Int32) oo lenv zz kk nn gg))), (.int (nar .char (own_cell (12 : Int32) oo lenv zz kk nn gg))), (.int (nar .char (own_cell (13 : Int32) oo lenv zz kk nn gg))), (.int (nar .char (own_cell (14 : Int32) oo lenv zz kk nn gg))), (.int (nar .char (own_cell (15 : Int32) oo lenv zz kk nn gg))), (.int (nar .char (own_cell (16 : Int32) oo lenv zz kk nn gg))), (.int (nar .char (own_cell (17 : Int32) oo lenv zz kk nn gg))), (.int (nar .char (own_cell (18 : Int32) oo lenv zz kk nn gg))), (.int (nar .char (own_cell (19 : Int32) oo lenv zz kk nn gg))), (.int (nar .char (own_cell (20 : Int32) oo lenv zz kk nn gg))), (.int (nar .char (own_cell (21 : Int32) oo lenv zz kk nn gg))), (.int (nar .char (own_cell (22 : Int32) oo lenv zz kk nn gg))), (.int (nar .char (own_cell (23 : Int32) oo lenv zz kk nn gg)))] nn sk h201 n0 O S_Decimal_POWERS V_pw V_b105 (own_HP2 hH hsk)) hZ (ow hw 35) (ow hw 34) (by decide) (by decide)) (g := (mkF m 668 #[.val (.long p0), .second, .val (.int p1), .val (.int p2), .val (.int p3), .val (.long nn), .second, .val (.int kk), s8, .val (.int zz), s10, .val (.int oo), .val (.int gg), .val (.int lenv), .val (.ref b105), .unset, .unset, .unset] [(.int lenv), (.int oo), (.ref b105)])) rfl (by rw [hml]; rfl) (argsL := [(.ref b105), (.int oo), (.int lenv)]) (rest := []) (lenOf pd_5 rfl) rfl (by show 2 * 0 + _ ≤ _; exact Nat.le_of_eq rfl) (hb hby at_668) (fun _ _ => ⟨rfl, e201, (by decide : 25 + 1 ≤ _), (by decide : 456 + 2 ≤ _)⟩)
   dsimp only [Pt.U, Pt.locs, Pt.cells, Pt.slots] at X203 l203 y203 z203 st203 hQ203
   subst y203 z203
   obtain ⟨b_204, rfl, N203q, Kq203, P203_0, P203_1, P203_2, P203_3⟩ := hQ203
   refine own_go (fun _ k => st203 _ k) ?_
   have N203 := own_frl l203 (Fr.app N201 N203q)
   have ne_b105_b_204 : b105 ≠ b_204 := Nat.ne_of_lt (Nat.lt_of_lt_of_le V_b105.lt P203_0)
   have g_b_204 : n0 ≤ b_204 := Nat.le_trans (own_osz O) P203_0
   have sz_b_204 : h0.size ≤ b_204 := Nat.le_trans K202.1 P203_0
   replace V_b105 := V_b105.keep Kq203 nin0
   replace O := O.keep Kq203 all0
   have K205 := K202.trans Kq203 all0
   have E_b_204 := P203_1
   have F_b_204_Decimal_unscaled := P203_2
   have F_b_204_Decimal_scale := P203_3
   clear X201 e201 st203 l203 N201 N203q K202 Kq203
   show own_Fin p e below (T203.setTop (mkF m 671 #[.val (.long p0), .second, .val (.int p1), .val (.int p2), .val (.int p3), .val (.long nn), .second, .val (.int kk), s8, .val (.int zz), s10, .val (.int oo), .val (.int gg), .val (.int lenv), .val (.ref b105), .unset, .unset, .unset] [(.ref b_204)])) _
   refine own_go (fun _ k => XS.astore X203.here hx rfl (hb hby at_671) rfl rfl (l' := #[.val (.long p0), .second, .val (.int p1), .val (.int p2), .val (.int p3), .val (.long nn), .second, .val (.int kk), s8, .val (.int zz), s10, .val (.int oo), .val (.int gg), .val (.int lenv), .val (.ref b105), .val (.ref b_204), .unset, .unset]) rfl (XS.iload X203.here hx rfl (hb hby at_673) rfl (XS.bipush X203.here hx rfl (hb hby at_675) k))) ?_
   show own_Fin p e below (T203.setTop (mkF m 677 #[.val (.long p0), .second, .val (.int p1), .val (.int p2), .val (.int p3), .val (.long nn), .second, .val (.int kk), s8, .val (.int zz), s10, .val (.int oo), .val (.int gg), .val (.int lenv), .val (.ref b105), .val (.ref b_204), .unset, .unset] [(.int 17), (.int kk)])) _
   by_cases hc677_206 : (17 : Int32) < kk
   ·refine own_go (fun _ k => XS.icmpYes X203.here hx rfl (pc0 := 677) (pc' := 688) rfl (hb hby at_677) rfl (tlt hc677_206).2.2.1 (by decide) (by decide) (XS.iconst X203.here hx rfl (hb hby at_688) (XS.istore X203.here hx rfl (hb hby at_689) rfl (l' := #[.val (.long p0), .second, .val (.int p1), .val (.int p2), .val (.int p3), .val (.long nn), .second, .val (.int kk), s8, .val (.int zz), s10, .val (.int oo), .val (.int gg), .val (.int lenv), .val (.ref b105), .val (.ref b_204), .val (.int 0), .unset]) rfl (XS.bipush X203.here hx rfl (hb hby at_691) (XS.lload X203.here hx rfl (hb hby at_693) rfl (XS.lload X203.here hx rfl (hb hby at_695) rfl (XS.bipush X203.here hx rfl (hb hby at_697) (XS.lushr X203.here hx rfl (hb hby at_699) rfl (XS.lxor X203.here hx rfl (hb hby at_700) rfl (XS.l2i X203.here hx rfl (hb hby at_701) rfl k)))))))))) ?_
    show own_Fin p e below (T203.setTop (mkF m 702 #[.val (.long p0), .second, .val (.int p1), .val (.int p2), .val (.int p3), .val (.long nn), .second, .val (.int kk), s8, .val (.int zz), s10, .val (.int oo), .val (.int gg), .val (.int lenv), .val (.ref b105), .val (.ref b_204), .val (.int 0), .unset] [(.int ((nn ^^^ ((nn.toUInt64 >>> ((32 : Int32) &&& 0x3f).toInt64.toUInt64).toInt64)).toInt32)), (.int 31)])) _
    refine own_go (fun _ k => XS.imul X203.here hx rfl (hb hby at_702) rfl (XS.iload X203.here hx rfl (hb hby at_703) rfl (XS.iadd X203.here hx rfl (hb hby at_705) rfl (XS.istore X203.here hx rfl (hb hby at_706) rfl (l' := #[.val (.long p0), .second, .val (.int p1), .val (.int p2), .val (.int p3), .val (.long nn), .second, .val (.int kk), s8, .val (.int zz), s10, .val (.int oo), .val (.int gg), .val (.int lenv), .val (.ref b105), .val (.ref b_204), .val (.int 0), .val (.int (((31 : Int32) * ((nn ^^^ ((nn.toUInt64 >>> ((32 : Int32) &&& 0x3f).toInt64.toUInt64).toInt64)).toInt32)) + (0 : Int32)))]) rfl (XS.aload X203.here hx rfl (hb hby at_708) rfl rfl k))))) ?_
    show own_Fin p e below (T203.setTop (mkF m 710 #[.val (.long p0), .second, .val (.int p1), .val (.int p2), .val (.int p3), .val (.long nn), .second, .val (.int kk), s8, .val (.int zz), s10, .val (.int oo), .val (.int gg), .val (.int lenv), .val (.ref b105), .val (.ref b_204), .val (.int 0), .val (.int (((31 : Int32) * ((nn ^^^ ((nn.toUInt64 >>> ((32 : Int32) &&& 0x3f).toInt64.toUInt64).toInt64)).toInt32)) + (0 : Int32)))] [(.ref b_204)])) _
    obtain ⟨cq207, kq207, q207a, q207b, q207c⟩ := isOf hZ rfl E_b_204
    obtain ⟨_, _, ⟨T207, L207, k207, n207⟩, -, X207, ⟨Lc207, hQ207, l207, y207, z207⟩, st207⟩ := X203.virtualBack hx (y := (⟨"com/example/depthline/depthline/core/Decimal", "hashCode", "()I"⟩ : MethodName)) (z := (⟨"com/example/depthline/depthline/core/Decimal", "hashCode", "()I"⟩ : MethodName)) hown (mvT hZ (ow hw 50)) (mvT hZ (ow hw 51)) (notFace_of_selects (args := #[]) (mvT hZ (ow hw 53))) (mvT hZ (ow hw 53)) (mvT hZ (ow hw 52)) (by decide) (backOf (W := 0) (rm7 l Z a0 hw [] b_204 nn sk (T203.heap) n0 O F_b_204_Decimal_unscaled F_b_204_Decimal_scale) hZ (ow hw 54) (ow hw 34) (by decide) (by decide)) q207a q207c (g := (mkF m 710 #[.val (.long p0), .second, .val (.int p1), .val (.int p2), .val (.int p3), .val (.long nn), .second, .val (.int kk), s8, .val (.int zz), s10, .val (.int oo), .val (.int gg), .val (.int lenv), .val (.ref b105), .val (.ref b_204), .val (.int 0), .val (.int (((31 : Int32) * ((nn ^^^ ((nn.toUInt64 >>> ((32 : Int32) &&& 0x3f).toInt64.toUInt64).toInt64)).toInt32)) + (0 : Int32)))] [(.ref b_204)])) rfl (by rw [hml]; rfl) (Steps.refl _) (argsL := []) (rest := []) (lenOf pd_6 rfl) rfl (by show 2 * 0 + _ ≤ _; exact Nat.le_of_eq rfl) (hb hby at_710) (fun _ _ => ⟨rfl, rfl, (by decide : 26 + 0 ≤ _), (by decide : 458 + 0 ≤ _)⟩)
    dsimp only [Pt.U, Pt.locs, Pt.cells, Pt.slots] at X207 l207 y207 z207 st207 hQ207
    subst y207 z207
    obtain ⟨rfl, N207q, e207⟩ := hQ207
    refine own_go (fun _ k => st207.trans k) ?_
    have N207 := own_frl l207 (Fr.app N203 N207q)
    clear st207 l207 N207q
    show own_Fin p e below (T207.setTop (mkF m 713 #[.val (.long p0), .second, .val (.int p1), .val (.int p2), .val (.int p3), .val (.long nn), .second, .val (.int kk), s8, .val (.int zz), s10, .val (.int oo), .val (.int gg), .val (.int lenv), .val (.ref b105), .val (.ref b_204), .val (.int 0), .val (.int (((31 : Int32) * ((nn ^^^ ((nn.toUInt64 >>> ((32 : Int32) &&& 0x3f).toInt64.toUInt64).toInt64)).toInt32)) + (0 : Int32)))] [(.int (((31 : Int32) * ((nn ^^^ ((nn.toUInt64 >>> ((32 : Int32) &&& 0x3f).toInt64.toUInt64).toInt64)).toInt32)) + sk))])) _
    refine own_go (fun _ k => XS.iload X207.here hx rfl (hb hby at_713) rfl (XS.icmpNo X207.here hx rfl (hb hby at_715) rfl (teq (by rw [own_skF hsk hc677_206] : (((31 : Int32) * ((nn ^^^ ((nn.toUInt64 >>> ((32 : Int32) &&& 0x3f).toInt64.toUInt64).toInt64)).toInt32)) + sk) = (((31 : Int32) * ((nn ^^^ ((nn.toUInt64 >>> ((32 : Int32) &&& 0x3f).toInt64.toUInt64).toInt64)).toInt32)) + (0 : Int32)))).2 (XS.aload X207.here hx rfl (hb hby at_718) rfl rfl k))) ?_
    show own_Fin p e below (T207.setTop (mkF m 720 #[.val (.long p0), .second, .val (.int p1), .val (.int p2), .val (.int p3), .val (.long nn), .second, .val (.int kk), s8, .val (.int zz), s10, .val (.int oo), .val (.int gg), .val (.int lenv), .val (.ref b105), .val (.ref b_204), .val (.int 0), .val (.int (((31 : Int32) * ((nn ^^^ ((nn.toUInt64 >>> ((32 : Int32) &&& 0x3f).toInt64.toUInt64).toInt64)).toInt32)) + (0 : Int32)))] [(.ref b_204)])) _
    obtain ⟨cq208, kq208, q208a, q208b, q208c⟩ := isOf hZ e207 E_b_204
    obtain ⟨_, _, ⟨T208, L208, k208, n208⟩, -, X208, ⟨Lc208, hQ208, l208, y208, z208⟩, st208⟩ := X207.virtualBack hx (y := (⟨"com/example/depthline/depthline/core/Decimal", "isZero", "()Z"⟩ : MethodName)) (z := (⟨"com/example/depthline/depthline/core/Decimal", "isZero", "()Z"⟩ : MethodName)) hown (mvT hZ (ow hw 59)) (mvT hZ (ow hw 60)) (notFace_of_selects (args := #[]) (mvT hZ (ow hw 62))) (mvT hZ (ow hw 62)) (mvT hZ (ow hw 61)) (by decide) (backOf (W := 0) (rm9 l Z a0 hw [] b_204 nn (T203.heap) n0 O F_b_204_Decimal_unscaled) hZ (ow hw 63) (ow hw 34) (by decide) (by decide)) q208a q208c (g := (mkF m 720 #[.val (.long p0), .second, .val (.int p1), .val (.int p2), .val (.int p3), .val (.long nn), .second, .val (.int kk), s8, .val (.int zz), s10, .val (.int oo), .val (.int gg), .val (.int lenv), .val (.ref b105), .val (.ref b_204), .val (.int 0), .val (.int (((31 : Int32) * ((nn ^^^ ((nn.toUInt64 >>> ((32 : Int32) &&& 0x3f).toInt64.toUInt64).toInt64)).toInt32)) + (0 : Int32)))] [(.ref b_204)])) rfl (by rw [hml]; rfl) (Steps.refl _) (argsL := []) (rest := []) (lenOf pd_7 rfl) rfl (by show 2 * 0 + _ ≤ _; exact Nat.le_of_eq rfl) (hb hby at_720) (fun _ _ => ⟨rfl, e207, (by decide : 26 + 0 ≤ _), (by decide : 458 + 0 ≤ _)⟩)
    dsimp only [Pt.U, Pt.locs, Pt.cells, Pt.slots] at X208 l208 y208 z208 st208 hQ208
    subst y208 z208
    obtain ⟨rfl, N208q, e208⟩ := hQ208
    refine own_go (fun _ k => st208.trans k) ?_
    have N208 := own_frl l208 (Fr.app N207 N208q)
    clear X207 e207 st208 l208 N207 N208q
    show own_Fin p e below (T208.setTop (mkF m 723 #[.val (.long p0), .second, .val (.int p1), .val (.int p2), .val (.int p3), .val (.long nn), .second, .val (.int kk), s8, .val (.int zz), s10, .val (.int oo), .val (.int gg), .val (.int lenv), .val (.ref b105), .val (.ref b_204), .val (.int 0), .val (.int (((31 : Int32) * ((nn ^^^ ((nn.toUInt64 >>> ((32 : Int32) &&& 0x3f).toInt64.toUInt64).toInt64)).toInt32)) + (0 : Int32)))] [(.int (own_bi (nn = (0 : Int64))))])) _
    refine own_go (fun _ k => XS.lload X208.here hx rfl (hb hby at_723) rfl (XS.lconst X208.here hx rfl (hb hby at_725) (XS.lcmp X208.here hx rfl (hb hby at_726) rfl k))) ?_
    show own_Fin p e below (T208.setTop (mkF m 727 #[.val (.long p0), .second, .val (.int p1), .val (.int p2), .val (.int p3), .val (.long nn), .second, .val (.int kk), s8, .val (.int zz), s10, .val (.int oo), .val (.int gg), .val (.int lenv), .val (.ref b105), .val (.ref b_204), .val (.int 0), .val (.int (((31 : Int32) * ((nn ^^^ ((nn.toUInt64 >>> ((32 : Int32) &&& 0x3f).toInt64.toUInt64).toInt64)).toInt32)) + (0 : Int32)))] [(.int (lcmpW nn (0 : Int64))), (.int (own_bi (nn = (0 : Int64))))])) _
    by_cases hc727_209 : nn = (0 : Int64)
    ·refine own_go (fun _ k => XS.ifNo X208.here hx rfl (hb hby at_727) rfl ((if0 _ _).trans (teq ((lw_eq _ _).mpr hc727_209)).2) (XS.iconst X208.here hx rfl (hb hby at_730) (XS.goto X208.here hx rfl (pc0 := 731) (pc' := 735) rfl (hb hby at_731) (by decide) (by decide) (XS.icmpNo X208.here hx rfl (hb hby at_735) rfl (teq (own_bi1 hc727_209)).2 (XS.iconst X208.here hx rfl (hb hby at_738) (XS.goto X208.here hx rfl (pc0 := 739) (pc' := 743) rfl (hb hby at_739) (by decide) (by decide) k)))))) ?_
     show own_Fin p e below (T208.setTop (mkF m 743 #[.val (.long p0), .second, .val (.int p1), .val (.int p2), .val (.int p3), .val (.long nn), .second, .val (.int kk), s8, .val (.int zz), s10, .val (.int oo), .val (.int gg), .val (.int lenv), .val (.ref b105), .val (.ref b_204), .val (.int 0), .val (.int (((31 : Int32) * ((nn ^^^ ((nn.toUInt64 >>> ((32 : Int32) &&& 0x3f).toInt64.toUInt64).toInt64)).toInt32)) + (0 : Int32)))] [(.int 1)])) _
     obtain ⟨fs, hr, hrun, hended, hW, hsame⟩ := X208.leave (v := some (.int 1)) (fun h => by rw [Bd.returns] at h; cases h)
     refine ⟨_, _, ?_, hrun, hended, _, _, rfl, ?_, ⟨_, rfl⟩, hW, hsame.mono (by decide) (by decide)⟩
     ·exact retN X208 hx (t := .boolean) Bd.returns (by simp) (hb hby at_743) hr
     ·show Qrm0 Z p0 p1 p2 p3 pw kp h0 n0 _ T208.heap _
      rw [e208]
      exact ⟨rfl, N208, K205⟩
    ·refine own_go (fun _ k => XS.ifYes X208.here hx rfl (pc0 := 727) (pc' := 734) rfl (hb hby at_727) rfl ((if0 _ _).trans (feq (fun q => hc727_209 ((lw_eq _ _).mp q))).2) (by decide) (by decide) (XS.iconst X208.here hx rfl (hb hby at_734) (XS.icmpNo X208.here hx rfl (hb hby at_735) rfl (teq (own_bi0 hc727_209)).2 (XS.iconst X208.here hx rfl (hb hby at_738) (XS.goto X208.here hx rfl (pc0 := 739) (pc' := 743) rfl (hb hby at_739) (by decide) (by decide) k))))) ?_
     show own_Fin p e below (T208.setTop (mkF m 743 #[.val (.long p0), .second, .val (.int p1), .val (.int p2), .val (.int p3), .val (.long nn), .second, .val (.int kk), s8, .val (.int zz), s10, .val (.int oo), .val (.int gg), .val (.int lenv), .val (.ref b105), .val (.ref b_204), .val (.int 0), .val (.int (((31 : Int32) * ((nn ^^^ ((nn.toUInt64 >>> ((32 : Int32) &&& 0x3f).toInt64.toUInt64).toInt64)).toInt32)) + (0 : Int32)))] [(.int 1)])) _
     obtain ⟨fs, hr, hrun, hended, hW, hsame⟩ := X208.leave (v := some (.int 1)) (fun h => by rw [Bd.returns] at h; cases h)
     refine ⟨_, _, ?_, hrun, hended, _, _, rfl, ?_, ⟨_, rfl⟩, hW, hsame.mono (by decide) (by decide)⟩
     ·exact retN X208 hx (t := .boolean) Bd.returns (by simp) (hb hby at_743) hr
     ·show Qrm0 Z p0 p1 p2 p3 pw kp h0 n0 _ T208.heap _
      rw [e208]
      exact ⟨rfl, N208, K205⟩
   ·refine own_go (fun _ k => XS.icmpNo X203.here hx rfl (hb hby at_677) rfl (flt hc677_206).2.2.1 (XS.bipush X203.here hx rfl (hb hby at_680) (XS.iload X203.here hx rfl (hb hby at_682) rfl (XS.isub X203.here hx rfl (hb hby at_684) rfl (XS.goto X203.here hx rfl (pc0 := 685) (pc' := 689) rfl (hb hby at_685) (by decide) (by decide) (XS.istore X203.here hx rfl (hb hby at_689) rfl (l' := #[.val (.long p0), .second, .val (.int p1), .val (.int p2), .val (.int p3), .val (.long nn), .second, .val (.int kk), s8, .val (.int zz), s10, .val (.int oo), .val (.int gg), .val (.int lenv), .val (.ref b105), .val (.ref b_204), .val (.int ((18 : Int32) - kk)), .unset]) rfl (XS.bipush X203.here hx rfl (hb hby at_691) (XS.lload X203.here hx rfl (hb hby at_693) rfl (XS.lload X203.here hx rfl (hb hby at_695) rfl (XS.bipush X203.here hx rfl (hb hby at_697) k)))))))))) ?_
    show own_Fin p e below (T203.setTop (mkF m 699 #[.val (.long p0), .second, .val (.int p1), .val (.int p2), .val (.int p3), .val (.long nn), .second, .val (.int kk), s8, .val (.int zz), s10, .val (.int oo), .val (.int gg), .val (.int lenv), .val (.ref b105), .val (.ref b_204), .val (.int ((18 : Int32) - kk)), .unset] [(.int 32), (.long nn), (.long nn), (.int 31)])) _
    refine own_go (fun _ k => XS.lushr X203.here hx rfl (hb hby at_699) rfl (XS.lxor X203.here hx rfl (hb hby at_700) rfl (XS.l2i X203.here hx rfl (hb hby at_701) rfl (XS.imul X203.here hx rfl (hb hby at_702) rfl (XS.iload X203.here hx rfl (hb hby at_703) rfl (XS.iadd X203.here hx rfl (hb hby at_705) rfl (XS.istore X203.here hx rfl (hb hby at_706) rfl (l' := #[.val (.long p0), .second, .val (.int p1), .val (.int p2), .val (.int p3), .val (.long nn), .second, .val (.int kk), s8, .val (.int zz), s10, .val (.int oo), .val (.int gg), .val (.int lenv), .val (.ref b105), .val (.ref b_204), .val (.int ((18 : Int32) - kk)), .val (.int (((31 : Int32) * ((nn ^^^ ((nn.toUInt64 >>> ((32 : Int32) &&& 0x3f).toInt64.toUInt64).toInt64)).toInt32)) + ((18 : Int32) - kk)))]) rfl (XS.aload X203.here hx rfl (hb hby at_708) rfl rfl k)))))))) ?_
    show own_Fin p e below (T203.setTop (mkF m 710 #[.val (.long p0), .second, .val (.int p1), .val (.int p2), .val (.int p3), .val (.long nn), .second, .val (.int kk), s8, .val (.int zz), s10, .val (.int oo), .val (.int gg), .val (.int lenv), .val (.ref b105), .val (.ref b_204), .val (.int ((18 : Int32) - kk)), .val (.int (((31 : Int32) * ((nn ^^^ ((nn.toUInt64 >>> ((32 : Int32) &&& 0x3f).toInt64.toUInt64).toInt64)).toInt32)) + ((18 : Int32) - kk)))] [(.ref b_204)])) _
    obtain ⟨cq212, kq212, q212a, q212b, q212c⟩ := isOf hZ rfl E_b_204
    obtain ⟨_, _, ⟨T212, L212, k212, n212⟩, -, X212, ⟨Lc212, hQ212, l212, y212, z212⟩, st212⟩ := X203.virtualBack hx (y := (⟨"com/example/depthline/depthline/core/Decimal", "hashCode", "()I"⟩ : MethodName)) (z := (⟨"com/example/depthline/depthline/core/Decimal", "hashCode", "()I"⟩ : MethodName)) hown (mvT hZ (ow hw 50)) (mvT hZ (ow hw 51)) (notFace_of_selects (args := #[]) (mvT hZ (ow hw 53))) (mvT hZ (ow hw 53)) (mvT hZ (ow hw 52)) (by decide) (backOf (W := 0) (rm7 l Z a0 hw [] b_204 nn sk (T203.heap) n0 O F_b_204_Decimal_unscaled F_b_204_Decimal_scale) hZ (ow hw 54) (ow hw 34) (by decide) (by decide)) q212a q212c (g := (mkF m 710 #[.val (.long p0), .second, .val (.int p1), .val (.int p2), .val (.int p3), .val (.long nn), .second, .val (.int kk), s8, .val (.int zz), s10, .val (.int oo), .val (.int gg), .val (.int lenv), .val (.ref b105), .val (.ref b_204), .val (.int ((18 : Int32) - kk)), .val (.int (((31 : Int32) * ((nn ^^^ ((nn.toUInt64 >>> ((32 : Int32) &&& 0x3f).toInt64.toUInt64).toInt64)).toInt32)) + ((18 : Int32) - kk)))] [(.ref b_204)])) rfl (by rw [hml]; rfl) (Steps.refl _) (argsL := []) (rest := []) (lenOf pd_6 rfl) rfl (by show 2 * 0 + _ ≤ _; exact Nat.le_of_eq rfl) (hb hby at_710) (fun _ _ => ⟨rfl, rfl, (by decide : 26 + 0 ≤ _), (by decide : 458 + 0 ≤ _)⟩)
    dsimp only [Pt.U, Pt.locs, Pt.cells, Pt.slots] at X212 l212 y212 z212 st212 hQ212
    subst y212 z212
    obtain ⟨rfl, N212q, e212⟩ := hQ212
    refine own_go (fun _ k => st212.trans k) ?_
    have N212 := own_frl l212 (Fr.app N203 N212q)
    clear X203 st212 l212 N203 N212q
    show own_Fin p e below (T212.setTop (mkF m 713 #[.val (.long p0), .second, .val (.int p1), .val (.int p2), .val (.int p3), .val (.long nn), .second, .val (.int kk), s8, .val (.int zz), s10, .val (.int oo), .val (.int gg), .val (.int lenv), .val (.ref b105), .val (.ref b_204), .val (.int ((18 : Int32) - kk)), .val (.int (((31 : Int32) * ((nn ^^^ ((nn.toUInt64 >>> ((32 : Int32) &&& 0x3f).toInt64.toUInt64).toInt64)).toInt32)) + ((18 : Int32) - kk)))] [(.int (((31 : Int32) * ((nn ^^^ ((nn.toUInt64 >>> ((32 : Int32) &&& 0x3f).toInt64.toUInt64).toInt64)).toInt32)) + sk))])) _
    refine own_go (fun _ k => XS.iload X212.here hx rfl (hb hby at_713) rfl (XS.icmpNo X212.here hx rfl (hb hby at_715) rfl (teq (by rw [own_skT hsk hc677_206 (own_Hk hH)] : (((31 : Int32) * ((nn ^^^ ((nn.toUInt64 >>> ((32 : Int32) &&& 0x3f).toInt64.toUInt64).toInt64)).toInt32)) + sk) = (((31 : Int32) * ((nn ^^^ ((nn.toUInt64 >>> ((32 : Int32) &&& 0x3f).toInt64.toUInt64).toInt64)).toInt32)) + ((18 : Int32) - kk)))).2 (XS.aload X212.here hx rfl (hb hby at_718) rfl rfl k))) ?_
    show own_Fin p e below (T212.setTop (mkF m 720 #[.val (.long p0), .second, .val (.int p1), .val (.int p2), .val (.int p3), .val (.long nn), .second, .val (.int kk), s8, .val (.int zz), s10, .val (.int oo), .val (.int gg), .val (.int lenv), .val (.ref b105), .val (.ref b_204), .val (.int ((18 : Int32) - kk)), .val (.int (((31 : Int32) * ((nn ^^^ ((nn.toUInt64 >>> ((32 : Int32) &&& 0x3f).toInt64.toUInt64).toInt64)).toInt32)) + ((18 : Int32) - kk)))] [(.ref b_204)])) _
    obtain ⟨cq213, kq213, q213a, q213b, q213c⟩ := isOf hZ e212 E_b_204
    obtain ⟨_, _, ⟨T213, L213, k213, n213⟩, -, X213, ⟨Lc213, hQ213, l213, y213, z213⟩, st213⟩ := X212.virtualBack hx (y := (⟨"com/example/depthline/depthline/core/Decimal", "isZero", "()Z"⟩ : MethodName)) (z := (⟨"com/example/depthline/depthline/core/Decimal", "isZero", "()Z"⟩ : MethodName)) hown (mvT hZ (ow hw 59)) (mvT hZ (ow hw 60)) (notFace_of_selects (args := #[]) (mvT hZ (ow hw 62))) (mvT hZ (ow hw 62)) (mvT hZ (ow hw 61)) (by decide) (backOf (W := 0) (rm9 l Z a0 hw [] b_204 nn (T203.heap) n0 O F_b_204_Decimal_unscaled) hZ (ow hw 63) (ow hw 34) (by decide) (by decide)) q213a q213c (g := (mkF m 720 #[.val (.long p0), .second, .val (.int p1), .val (.int p2), .val (.int p3), .val (.long nn), .second, .val (.int kk), s8, .val (.int zz), s10, .val (.int oo), .val (.int gg), .val (.int lenv), .val (.ref b105), .val (.ref b_204), .val (.int ((18 : Int32) - kk)), .val (.int (((31 : Int32) * ((nn ^^^ ((nn.toUInt64 >>> ((32 : Int32) &&& 0x3f).toInt64.toUInt64).toInt64)).toInt32)) + ((18 : Int32) - kk)))] [(.ref b_204)])) rfl (by rw [hml]; rfl) (Steps.refl _) (argsL := []) (rest := []) (lenOf pd_7 rfl) rfl (by show 2 * 0 + _ ≤ _; exact Nat.le_of_eq rfl) (hb hby at_720) (fun _ _ => ⟨rfl, e212, (by decide : 26 + 0 ≤ _), (by decide : 458 + 0 ≤ _)⟩)
    dsimp only [Pt.U, Pt.locs, Pt.cells, Pt.slots] at X213 l213 y213 z213 st213 hQ213
    subst y213 z213
    obtain ⟨rfl, N213q, e213⟩ := hQ213
    refine own_go (fun _ k => st213.trans k) ?_
    have N213 := own_frl l213 (Fr.app N212 N213q)
    clear X212 e212 st213 l213 N212 N213q
    show own_Fin p e below (T213.setTop (mkF m 723 #[.val (.long p0), .second, .val (.int p1), .val (.int p2), .val (.int p3), .val (.long nn), .second, .val (.int kk), s8, .val (.int zz), s10, .val (.int oo), .val (.int gg), .val (.int lenv), .val (.ref b105), .val (.ref b_204), .val (.int ((18 : Int32) - kk)), .val (.int (((31 : Int32) * ((nn ^^^ ((nn.toUInt64 >>> ((32 : Int32) &&& 0x3f).toInt64.toUInt64).toInt64)).toInt32)) + ((18 : Int32) - kk)))] [(.int (own_bi (nn = (0 : Int64))))])) _
    refine own_go (fun _ k => XS.lload X213.here hx rfl (hb hby at_723) rfl (XS.lconst X213.here hx rfl (hb hby at_725) (XS.lcmp X213.here hx rfl (hb hby at_726) rfl k))) ?_
    show own_Fin p e below (T213.setTop (mkF m 727 #[.val (.long p0), .second, .val (.int p1), .val (.int p2), .val (.int p3), .val (.long nn), .second, .val (.int kk), s8, .val (.int zz), s10, .val (.int oo), .val (.int gg), .val (.int lenv), .val (.ref b105), .val (.ref b_204), .val (.int ((18 : Int32) - kk)), .val (.int (((31 : Int32) * ((nn ^^^ ((nn.toUInt64 >>> ((32 : Int32) &&& 0x3f).toInt64.toUInt64).toInt64)).toInt32)) + ((18 : Int32) - kk)))] [(.int (lcmpW nn (0 : Int64))), (.int (own_bi (nn = (0 : Int64))))])) _
    by_cases hc727_214 : nn = (0 : Int64)
    ·refine own_go (fun _ k => XS.ifNo X213.here hx rfl (hb hby at_727) rfl ((if0 _ _).trans (teq ((lw_eq _ _).mpr hc727_214)).2) (XS.iconst X213.here hx rfl (hb hby at_730) (XS.goto X213.here hx rfl (pc0 := 731) (pc' := 735) rfl (hb hby at_731) (by decide) (by decide) (XS.icmpNo X213.here hx rfl (hb hby at_735) rfl (teq (own_bi1 hc727_214)).2 (XS.iconst X213.here hx rfl (hb hby at_738) (XS.goto X213.here hx rfl (pc0 := 739) (pc' := 743) rfl (hb hby at_739) (by decide) (by decide) k)))))) ?_
     show own_Fin p e below (T213.setTop (mkF m 743 #[.val (.long p0), .second, .val (.int p1), .val (.int p2), .val (.int p3), .val (.long nn), .second, .val (.int kk), s8, .val (.int zz), s10, .val (.int oo), .val (.int gg), .val (.int lenv), .val (.ref b105), .val (.ref b_204), .val (.int ((18 : Int32) - kk)), .val (.int (((31 : Int32) * ((nn ^^^ ((nn.toUInt64 >>> ((32 : Int32) &&& 0x3f).toInt64.toUInt64).toInt64)).toInt32)) + ((18 : Int32) - kk)))] [(.int 1)])) _
     obtain ⟨fs, hr, hrun, hended, hW, hsame⟩ := X213.leave (v := some (.int 1)) (fun h => by rw [Bd.returns] at h; cases h)
     refine ⟨_, _, ?_, hrun, hended, _, _, rfl, ?_, ⟨_, rfl⟩, hW, hsame.mono (by decide) (by decide)⟩
     ·exact retN X213 hx (t := .boolean) Bd.returns (by simp) (hb hby at_743) hr
     ·show Qrm0 Z p0 p1 p2 p3 pw kp h0 n0 _ T213.heap _
      rw [e213]
      exact ⟨rfl, N213, K205⟩
    ·refine own_go (fun _ k => XS.ifYes X213.here hx rfl (pc0 := 727) (pc' := 734) rfl (hb hby at_727) rfl ((if0 _ _).trans (feq (fun q => hc727_214 ((lw_eq _ _).mp q))).2) (by decide) (by decide) (XS.iconst X213.here hx rfl (hb hby at_734) (XS.icmpNo X213.here hx rfl (hb hby at_735) rfl (teq (own_bi0 hc727_214)).2 (XS.iconst X213.here hx rfl (hb hby at_738) (XS.goto X213.here hx rfl (pc0 := 739) (pc' := 743) rfl (hb hby at_739) (by decide) (by decide) k))))) ?_
     show own_Fin p e below (T213.setTop (mkF m 743 #[.val (.long p0), .second, .val (.int p1), .val (.int p2), .val (.int p3), .val (.long nn), .second, .val (.int kk), s8, .val (.int zz), s10, .val (.int oo), .val (.int gg), .val (.int lenv), .val (.ref b105), .val (.ref b_204), .val (.int ((18 : Int32) - kk)), .val (.int (((31 : Int32) * ((nn ^^^ ((nn.toUInt64 >>> ((32 : Int32) &&& 0x3f).toInt64.toUInt64).toInt64)).toInt32)) + ((18 : Int32) - kk)))] [(.int 1)])) _
     obtain ⟨fs, hr, hrun, hended, hW, hsame⟩ := X213.leave (v := some (.int 1)) (fun h => by rw [Bd.returns] at h; cases h)
     refine ⟨_, _, ?_, hrun, hended, _, _, rfl, ?_, ⟨_, rfl⟩, hW, hsame.mono (by decide) (by decide)⟩
     ·exact retN X213 hx (t := .boolean) Bd.returns (by simp) (hb hby at_743) hr
     ·show Qrm0 Z p0 p1 p2 p3 pw kp h0 n0 _ T213.heap _
      rw [e213]
      exact ⟨rfl, N213, K205⟩
  show own_Fin p e below (s₁.setTop (mkF m 20 #[.val (.long p0), .second, .val (.int p1), .val (.int p2), .val (.int p3), .val (.long ((p0 &&& (9223372036854775807 : Int64)) - ((p0 &&& (9223372036854775807 : Int64)) / (1000000000000000000 : Int64)) * (1000000000000000000 : Int64))), .second, .val (.int ((p1 &&& (2147483647 : Int32)) % (20 : Int32))), .unset, .unset, .unset, .unset, .unset, .unset, .unset, .unset, .unset, .unset] [])) _
  refine own_go (fun _ k => XS.iload X0.here hx rfl (hb hby at_20) rfl (XS.bipush X0.here hx rfl (hb hby at_22) k)) ?_
  show own_Fin p e below (s₁.setTop (mkF m 24 #[.val (.long p0), .second, .val (.int p1), .val (.int p2), .val (.int p3), .val (.long ((p0 &&& (9223372036854775807 : Int64)) - ((p0 &&& (9223372036854775807 : Int64)) / (1000000000000000000 : Int64)) * (1000000000000000000 : Int64))), .second, .val (.int ((p1 &&& (2147483647 : Int32)) % (20 : Int32))), .unset, .unset, .unset, .unset, .unset, .unset, .unset, .unset, .unset, .unset] [(.int 18), (.int ((p1 &&& (2147483647 : Int32)) % (20 : Int32)))])) _
  by_cases hc24_217 : (18 : Int32) < ((p1 &&& (2147483647 : Int32)) % (20 : Int32))
  ·refine own_go (fun _ k => XS.icmpYes X0.here hx rfl (pc0 := 24) (pc' := 31) rfl (hb hby at_24) rfl (tlt hc24_217).2.2.1 (by decide) (by decide) (XS.iconst X0.here hx rfl (hb hby at_31) (XS.istore X0.here hx rfl (hb hby at_32) rfl (l' := #[.val (.long p0), .second, .val (.int p1), .val (.int p2), .val (.int p3), .val (.long ((p0 &&& (9223372036854775807 : Int64)) - ((p0 &&& (9223372036854775807 : Int64)) / (1000000000000000000 : Int64)) * (1000000000000000000 : Int64))), .second, .val (.int ((p1 &&& (2147483647 : Int32)) % (20 : Int32))), .val (.int 0), .unset, .unset, .unset, .unset, .unset, .unset, .unset, .unset, .unset]) rfl (XS.iload X0.here hx rfl (hb hby at_34) rfl (XS.bipush X0.here hx rfl (hb hby at_36) k))))) ?_
   show own_Fin p e below (s₁.setTop (mkF m 38 #[.val (.long p0), .second, .val (.int p1), .val (.int p2), .val (.int p3), .val (.long ((p0 &&& (9223372036854775807 : Int64)) - ((p0 &&& (9223372036854775807 : Int64)) / (1000000000000000000 : Int64)) * (1000000000000000000 : Int64))), .second, .val (.int ((p1 &&& (2147483647 : Int32)) % (20 : Int32))), .val (.int 0), .unset, .unset, .unset, .unset, .unset, .unset, .unset, .unset, .unset] [(.int 17), (.int ((p1 &&& (2147483647 : Int32)) % (20 : Int32)))])) _
   by_cases hc38_218 : (17 : Int32) < ((p1 &&& (2147483647 : Int32)) % (20 : Int32))
   ·refine own_go (fun _ k => XS.icmpYes X0.here hx rfl (pc0 := 38) (pc' := 58) rfl (hb hby at_38) rfl (tlt hc38_218).2.2.1 (by decide) (by decide) (XS.iloadN X0.here hx rfl (hb hby at_58) rfl (XS.iconst X0.here hx rfl (hb hby at_59) (XS.iand X0.here hx rfl (hb hby at_60) rfl (XS.istore X0.here hx rfl (hb hby at_61) rfl (l' := #[.val (.long p0), .second, .val (.int p1), .val (.int p2), .val (.int p3), .val (.long ((p0 &&& (9223372036854775807 : Int64)) - ((p0 &&& (9223372036854775807 : Int64)) / (1000000000000000000 : Int64)) * (1000000000000000000 : Int64))), .second, .val (.int ((p1 &&& (2147483647 : Int32)) % (20 : Int32))), .val (.int 0), .val (.int (p2 &&& (1 : Int32))), .unset, .unset, .unset, .unset, .unset, .unset, .unset, .unset]) rfl (XS.iload X0.here hx rfl (hb hby at_63) rfl k)))))) ?_
    show own_Fin p e below (s₁.setTop (mkF m 65 #[.val (.long p0), .second, .val (.int p1), .val (.int p2), .val (.int p3), .val (.long ((p0 &&& (9223372036854775807 : Int64)) - ((p0 &&& (9223372036854775807 : Int64)) / (1000000000000000000 : Int64)) * (1000000000000000000 : Int64))), .second, .val (.int ((p1 &&& (2147483647 : Int32)) % (20 : Int32))), .val (.int 0), .val (.int (p2 &&& (1 : Int32))), .unset, .unset, .unset, .unset, .unset, .unset, .unset, .unset] [(.int ((p1 &&& (2147483647 : Int32)) % (20 : Int32)))])) _
    by_cases hc65_219 : ((p1 &&& (2147483647 : Int32)) % (20 : Int32)) = (0 : Int32)
    ·refine own_go (fun _ k => XS.ifNo X0.here hx rfl (hb hby at_65) rfl ((if0 _ _).trans (teq hc65_219).2) (XS.iconst X0.here hx rfl (hb hby at_68) (XS.istore X0.here hx rfl (hb hby at_69) rfl (l' := #[.val (.long p0), .second, .val (.int p1), .val (.int p2), .val (.int p3), .val (.long ((p0 &&& (9223372036854775807 : Int64)) - ((p0 &&& (9223372036854775807 : Int64)) / (1000000000000000000 : Int64)) * (1000000000000000000 : Int64))), .second, .val (.int ((p1 &&& (2147483647 : Int32)) % (20 : Int32))), .val (.int 0), .val (.int 1), .unset, .unset, .unset, .unset, .unset, .unset, .unset, .unset]) rfl (XS.iload X0.here hx rfl (hb hby at_71) rfl (XS.ifYes X0.here hx rfl (pc0 := 73) (pc' := 84) rfl (hb hby at_73) rfl ((if0 _ _).trans (teq (by decide : (0 : Int32) = (0 : Int32))).1) (by decide) (by decide) (XS.iconst X0.here hx rfl (hb hby at_84) (XS.istore X0.here hx rfl (hb hby at_85) rfl (l' := #[.val (.long p0), .second, .val (.int p1), .val (.int p2), .val (.int p3), .val (.long ((p0 &&& (9223372036854775807 : Int64)) - ((p0 &&& (9223372036854775807 : Int64)) / (1000000000000000000 : Int64)) * (1000000000000000000 : Int64))), .second, .val (.int ((p1 &&& (2147483647 : Int32)) % (20 : Int32))), .val (.int 0), .val (.int 1), .val (.int 0), .unset, .unset, .unset, .unset, .unset, .unset, .unset]) rfl (XS.iload X0.here hx rfl (hb hby at_87) rfl (XS.bipush X0.here hx rfl (hb hby at_89) k))))))))) ?_
     show own_Fin p e below (s₁.setTop (mkF m 91 #[.val (.long p0), .second, .val (.int p1), .val (.int p2), .val (.int p3), .val (.long ((p0 &&& (9223372036854775807 : Int64)) - ((p0 &&& (9223372036854775807 : Int64)) / (1000000000000000000 : Int64)) * (1000000000000000000 : Int64))), .second, .val (.int ((p1 &&& (2147483647 : Int32)) % (20 : Int32))), .val (.int 0), .val (.int 1), .val (.int 0), .unset, .unset, .unset, .unset, .unset, .unset, .unset] [(.int 18), (.int ((p1 &&& (2147483647 : Int32)) % (20 : Int32)))])) _
     by_cases hc91_220 : ((p1 &&& (2147483647 : Int32)) % (20 : Int32)) = (18 : Int32)
     ·refine own_go (fun _ k => XS.icmpNo X0.here hx rfl (hb hby at_91) rfl (teq hc91_220).2 (XS.iload X0.here hx rfl (hb hby at_94) rfl (XS.ifNo X0.here hx rfl (hb hby at_96) rfl ((if0 _ _).trans (teq (by decide : (0 : Int32) = (0 : Int32))).2) (XS.iconst X0.here hx rfl (hb hby at_99) (XS.istore X0.here hx rfl (hb hby at_100) rfl (l' := #[.val (.long p0), .second, .val (.int p1), .val (.int p2), .val (.int p3), .val (.long ((p0 &&& (9223372036854775807 : Int64)) - ((p0 &&& (9223372036854775807 : Int64)) / (1000000000000000000 : Int64)) * (1000000000000000000 : Int64))), .second, .val (.int ((p1 &&& (2147483647 : Int32)) % (20 : Int32))), .val (.int 0), .val (.int 1), .val (.int 1), .unset, .unset, .unset, .unset, .unset, .unset, .unset]) rfl (XS.iload X0.here hx rfl (hb hby at_102) rfl (XS.iconst X0.here hx rfl (hb hby at_104) (XS.iand X0.here hx rfl (hb hby at_105) rfl (XS.istore X0.here hx rfl (hb hby at_106) rfl (l' := #[.val (.long p0), .second, .val (.int p1), .val (.int p2), .val (.int p3), .val (.long ((p0 &&& (9223372036854775807 : Int64)) - ((p0 &&& (9223372036854775807 : Int64)) / (1000000000000000000 : Int64)) * (1000000000000000000 : Int64))), .second, .val (.int ((p1 &&& (2147483647 : Int32)) % (20 : Int32))), .val (.int 0), .val (.int 1), .val (.int 1), .val (.int (p3 &&& (1 : Int32))), .unset, .unset, .unset, .unset, .unset, .unset]) rfl (XS.iload X0.here hx rfl (hb hby at_108) rfl k)))))))))) ?_
      show own_Fin p e below (s₁.setTop (mkF m 110 #[.val (.long p0), .second, .val (.int p1), .val (.int p2), .val (.int p3), .val (.long ((p0 &&& (9223372036854775807 : Int64)) - ((p0 &&& (9223372036854775807 : Int64)) / (1000000000000000000 : Int64)) * (1000000000000000000 : Int64))), .second, .val (.int ((p1 &&& (2147483647 : Int32)) % (20 : Int32))), .val (.int 0), .val (.int 1), .val (.int 1), .val (.int (p3 &&& (1 : Int32))), .unset, .unset, .unset, .unset, .unset, .unset] [(.int p3)])) _
      refine own_go (fun _ k => XS.iconst X0.here hx rfl (hb hby at_110) (XS.iushr X0.here hx rfl (hb hby at_111) rfl (XS.sipush X0.here hx rfl (hb hby at_112) (XS.iand X0.here hx rfl (hb hby at_115) rfl (XS.i2c X0.here hx rfl (hb hby at_116) rfl (XS.istore X0.here hx rfl (hb hby at_117) rfl (l' := #[.val (.long p0), .second, .val (.int p1), .val (.int p2), .val (.int p3), .val (.long ((p0 &&& (9223372036854775807 : Int64)) - ((p0 &&& (9223372036854775807 : Int64)) / (1000000000000000000 : Int64)) * (1000000000000000000 : Int64))), .second, .val (.int ((p1 &&& (2147483647 : Int32)) % (20 : Int32))), .val (.int 0), .val (.int 1), .val (.int 1), .val (.int (p3 &&& (1 : Int32))), .val (.int ((((p3.toUInt32 >>> ((1 : Int32) &&& 31).toUInt32).toInt32) &&& (255 : Int32)).toUInt32.toUInt16.toUInt32.toInt32)), .unset, .unset, .unset, .unset, .unset]) rfl (XS.iload X0.here hx rfl (hb hby at_119) rfl (XS.bipush X0.here hx rfl (hb hby at_121) (XS.iadd X0.here hx rfl (hb hby at_123) rfl (XS.iload X0.here hx rfl (hb hby at_124) rfl k)))))))))) ?_
      show own_Fin p e below (s₁.setTop (mkF m 126 #[.val (.long p0), .second, .val (.int p1), .val (.int p2), .val (.int p3), .val (.long ((p0 &&& (9223372036854775807 : Int64)) - ((p0 &&& (9223372036854775807 : Int64)) / (1000000000000000000 : Int64)) * (1000000000000000000 : Int64))), .second, .val (.int ((p1 &&& (2147483647 : Int32)) % (20 : Int32))), .val (.int 0), .val (.int 1), .val (.int 1), .val (.int (p3 &&& (1 : Int32))), .val (.int ((((p3.toUInt32 >>> ((1 : Int32) &&& 31).toUInt32).toInt32) &&& (255 : Int32)).toUInt32.toUInt16.toUInt32.toInt32)), .unset, .unset, .unset, .unset, .unset] [(.int 0), (.int 19)])) _
      refine own_go (fun _ k => XS.ifYes X0.here hx rfl (pc0 := 126) (pc' := 133) rfl (hb hby at_126) rfl ((if0 _ _).trans (teq (by decide : (0 : Int32) = (0 : Int32))).1) (by decide) (by decide) (XS.iconst X0.here hx rfl (hb hby at_133) (XS.iadd X0.here hx rfl (hb hby at_134) rfl (XS.iload X0.here hx rfl (hb hby at_135) rfl (XS.iadd X0.here hx rfl (hb hby at_137) rfl (XS.istore X0.here hx rfl (hb hby at_138) rfl (l' := #[.val (.long p0), .second, .val (.int p1), .val (.int p2), .val (.int p3), .val (.long ((p0 &&& (9223372036854775807 : Int64)) - ((p0 &&& (9223372036854775807 : Int64)) / (1000000000000000000 : Int64)) * (1000000000000000000 : Int64))), .second, .val (.int ((p1 &&& (2147483647 : Int32)) % (20 : Int32))), .val (.int 0), .val (.int 1), .val (.int 1), .val (.int (p3 &&& (1 : Int32))), .val (.int ((((p3.toUInt32 >>> ((1 : Int32) &&& 31).toUInt32).toInt32) &&& (255 : Int32)).toUInt32.toUInt16.toUInt32.toInt32)), .val (.int 20), .unset, .unset, .unset, .unset]) rfl k)))))) ?_
      show own_Fin p e below (s₁.setTop (mkF m 140 #[.val (.long p0), .second, .val (.int p1), .val (.int p2), .val (.int p3), .val (.long ((p0 &&& (9223372036854775807 : Int64)) - ((p0 &&& (9223372036854775807 : Int64)) / (1000000000000000000 : Int64)) * (1000000000000000000 : Int64))), .second, .val (.int ((p1 &&& (2147483647 : Int32)) % (20 : Int32))), .val (.int 0), .val (.int 1), .val (.int 1), .val (.int (p3 &&& (1 : Int32))), .val (.int ((((p3.toUInt32 >>> ((1 : Int32) &&& 31).toUInt32).toInt32) &&& (255 : Int32)).toUInt32.toUInt16.toUInt32.toInt32)), .val (.int 20), .unset, .unset, .unset, .unset] [])) _
      exact main _ _ _ _ _ _ _ _ (own_hl221 p0 p1 p2 p3 hc24_217 hc38_218 hc65_219 hc91_220)
     ·refine own_go (fun _ k => XS.icmpYes X0.here hx rfl (pc0 := 91) (pc' := 102) rfl (hb hby at_91) rfl (feq hc91_220).2 (by decide) (by decide) (XS.iload X0.here hx rfl (hb hby at_102) rfl (XS.iconst X0.here hx rfl (hb hby at_104) (XS.iand X0.here hx rfl (hb hby at_105) rfl (XS.istore X0.here hx rfl (hb hby at_106) rfl (l' := #[.val (.long p0), .second, .val (.int p1), .val (.int p2), .val (.int p3), .val (.long ((p0 &&& (9223372036854775807 : Int64)) - ((p0 &&& (9223372036854775807 : Int64)) / (1000000000000000000 : Int64)) * (1000000000000000000 : Int64))), .second, .val (.int ((p1 &&& (2147483647 : Int32)) % (20 : Int32))), .val (.int 0), .val (.int 1), .val (.int 0), .val (.int (p3 &&& (1 : Int32))), .unset, .unset, .unset, .unset, .unset, .unset]) rfl (XS.iload X0.here hx rfl (hb hby at_108) rfl (XS.iconst X0.here hx rfl (hb hby at_110) (XS.iushr X0.here hx rfl (hb hby at_111) rfl (XS.sipush X0.here hx rfl (hb hby at_112) (XS.iand X0.here hx rfl (hb hby at_115) rfl k)))))))))) ?_
      show own_Fin p e below (s₁.setTop (mkF m 116 #[.val (.long p0), .second, .val (.int p1), .val (.int p2), .val (.int p3), .val (.long ((p0 &&& (9223372036854775807 : Int64)) - ((p0 &&& (9223372036854775807 : Int64)) / (1000000000000000000 : Int64)) * (1000000000000000000 : Int64))), .second, .val (.int ((p1 &&& (2147483647 : Int32)) % (20 : Int32))), .val (.int 0), .val (.int 1), .val (.int 0), .val (.int (p3 &&& (1 : Int32))), .unset, .unset, .unset, .unset, .unset, .unset] [(.int (((p3.toUInt32 >>> ((1 : Int32) &&& 31).toUInt32).toInt32) &&& (255 : Int32)))])) _
      refine own_go (fun _ k => XS.i2c X0.here hx rfl (hb hby at_116) rfl (XS.istore X0.here hx rfl (hb hby at_117) rfl (l' := #[.val (.long p0), .second, .val (.int p1), .val (.int p2), .val (.int p3), .val (.long ((p0 &&& (9223372036854775807 : Int64)) - ((p0 &&& (9223372036854775807 : Int64)) / (1000000000000000000 : Int64)) * (1000000000000000000 : Int64))), .second, .val (.int ((p1 &&& (2147483647 : Int32)) % (20 : Int32))), .val (.int 0), .val (.int 1), .val (.int 0), .val (.int (p3 &&& (1 : Int32))), .val (.int ((((p3.toUInt32 >>> ((1 : Int32) &&& 31).toUInt32).toInt32) &&& (255 : Int32)).toUInt32.toUInt16.toUInt32.toInt32)), .unset, .unset, .unset, .unset, .unset]) rfl (XS.iload X0.here hx rfl (hb hby at_119) rfl (XS.bipush X0.here hx rfl (hb hby at_121) (XS.iadd X0.here hx rfl (hb hby at_123) rfl (XS.iload X0.here hx rfl (hb hby at_124) rfl (XS.ifYes X0.here hx rfl (pc0 := 126) (pc' := 133) rfl (hb hby at_126) rfl ((if0 _ _).trans (teq (by decide : (0 : Int32) = (0 : Int32))).1) (by decide) (by decide) (XS.iconst X0.here hx rfl (hb hby at_133) (XS.iadd X0.here hx rfl (hb hby at_134) rfl (XS.iload X0.here hx rfl (hb hby at_135) rfl k)))))))))) ?_
      show own_Fin p e below (s₁.setTop (mkF m 137 #[.val (.long p0), .second, .val (.int p1), .val (.int p2), .val (.int p3), .val (.long ((p0 &&& (9223372036854775807 : Int64)) - ((p0 &&& (9223372036854775807 : Int64)) / (1000000000000000000 : Int64)) * (1000000000000000000 : Int64))), .second, .val (.int ((p1 &&& (2147483647 : Int32)) % (20 : Int32))), .val (.int 0), .val (.int 1), .val (.int 0), .val (.int (p3 &&& (1 : Int32))), .val (.int ((((p3.toUInt32 >>> ((1 : Int32) &&& 31).toUInt32).toInt32) &&& (255 : Int32)).toUInt32.toUInt16.toUInt32.toInt32)), .unset, .unset, .unset, .unset, .unset] [(.int 0), (.int 19)])) _
      refine own_go (fun _ k => XS.iadd X0.here hx rfl (hb hby at_137) rfl (XS.istore X0.here hx rfl (hb hby at_138) rfl (l' := #[.val (.long p0), .second, .val (.int p1), .val (.int p2), .val (.int p3), .val (.long ((p0 &&& (9223372036854775807 : Int64)) - ((p0 &&& (9223372036854775807 : Int64)) / (1000000000000000000 : Int64)) * (1000000000000000000 : Int64))), .second, .val (.int ((p1 &&& (2147483647 : Int32)) % (20 : Int32))), .val (.int 0), .val (.int 1), .val (.int 0), .val (.int (p3 &&& (1 : Int32))), .val (.int ((((p3.toUInt32 >>> ((1 : Int32) &&& 31).toUInt32).toInt32) &&& (255 : Int32)).toUInt32.toUInt16.toUInt32.toInt32)), .val (.int 19), .unset, .unset, .unset, .unset]) rfl k)) ?_
      show own_Fin p e below (s₁.setTop (mkF m 140 #[.val (.long p0), .second, .val (.int p1), .val (.int p2), .val (.int p3), .val (.long ((p0 &&& (9223372036854775807 : Int64)) - ((p0 &&& (9223372036854775807 : Int64)) / (1000000000000000000 : Int64)) * (1000000000000000000 : Int64))), .second, .val (.int ((p1 &&& (2147483647 : Int32)) % (20 : Int32))), .val (.int 0), .val (.int 1), .val (.int 0), .val (.int (p3 &&& (1 : Int32))), .val (.int ((((p3.toUInt32 >>> ((1 : Int32) &&& 31).toUInt32).toInt32) &&& (255 : Int32)).toUInt32.toUInt16.toUInt32.toInt32)), .val (.int 19), .unset, .unset, .unset, .unset] [])) _
      exact main _ _ _ _ _ _ _ _ (own_hl222 p0 p1 p2 p3 hc24_217 hc38_218 hc65_219 hc91_220)
    ·refine own_go (fun _ k => XS.ifYes X0.here hx rfl (pc0 := 65) (pc' := 71) rfl (hb hby at_65) rfl ((if0 _ _).trans (feq hc65_219).2) (by decide) (by decide) (XS.iload X0.here hx rfl (hb hby at_71) rfl (XS.ifYes X0.here hx rfl (pc0 := 73) (pc' := 84) rfl (hb hby at_73) rfl ((if0 _ _).trans (teq (by decide : (0 : Int32) = (0 : Int32))).1) (by decide) (by decide) (XS.iconst X0.here hx rfl (hb hby at_84) (XS.istore X0.here hx rfl (hb hby at_85) rfl (l' := #[.val (.long p0), .second, .val (.int p1), .val (.int p2), .val (.int p3), .val (.long ((p0 &&& (9223372036854775807 : Int64)) - ((p0 &&& (9223372036854775807 : Int64)) / (1000000000000000000 : Int64)) * (1000000000000000000 : Int64))), .second, .val (.int ((p1 &&& (2147483647 : Int32)) % (20 : Int32))), .val (.int 0), .val (.int (p2 &&& (1 : Int32))), .val (.int 0), .unset, .unset, .unset, .unset, .unset, .unset, .unset]) rfl (XS.iload X0.here hx rfl (hb hby at_87) rfl (XS.bipush X0.here hx rfl (hb hby at_89) k))))))) ?_
     show own_Fin p e below (s₁.setTop (mkF m 91 #[.val (.long p0), .second, .val (.int p1), .val (.int p2), .val (.int p3), .val (.long ((p0 &&& (9223372036854775807 : Int64)) - ((p0 &&& (9223372036854775807 : Int64)) / (1000000000000000000 : Int64)) * (1000000000000000000 : Int64))), .second, .val (.int ((p1 &&& (2147483647 : Int32)) % (20 : Int32))), .val (.int 0), .val (.int (p2 &&& (1 : Int32))), .val (.int 0), .unset, .unset, .unset, .unset, .unset, .unset, .unset] [(.int 18), (.int ((p1 &&& (2147483647 : Int32)) % (20 : Int32)))])) _
     by_cases hc91_223 : ((p1 &&& (2147483647 : Int32)) % (20 : Int32)) = (18 : Int32)
     ·refine own_go (fun _ k => XS.icmpNo X0.here hx rfl (hb hby at_91) rfl (teq hc91_223).2 (XS.iload X0.here hx rfl (hb hby at_94) rfl (XS.ifNo X0.here hx rfl (hb hby at_96) rfl ((if0 _ _).trans (teq (by decide : (0 : Int32) = (0 : Int32))).2) (XS.iconst X0.here hx rfl (hb hby at_99) (XS.istore X0.here hx rfl (hb hby at_100) rfl (l' := #[.val (.long p0), .second, .val (.int p1), .val (.int p2), .val (.int p3), .val (.long ((p0 &&& (9223372036854775807 : Int64)) - ((p0 &&& (9223372036854775807 : Int64)) / (1000000000000000000 : Int64)) * (1000000000000000000 : Int64))), .second, .val (.int ((p1 &&& (2147483647 : Int32)) % (20 : Int32))), .val (.int 0), .val (.int (p2 &&& (1 : Int32))), .val (.int 1), .unset, .unset, .unset, .unset, .unset, .unset, .unset]) rfl (XS.iload X0.here hx rfl (hb hby at_102) rfl (XS.iconst X0.here hx rfl (hb hby at_104) (XS.iand X0.here hx rfl (hb hby at_105) rfl (XS.istore X0.here hx rfl (hb hby at_106) rfl (l' := #[.val (.long p0), .second, .val (.int p1), .val (.int p2), .val (.int p3), .val (.long ((p0 &&& (9223372036854775807 : Int64)) - ((p0 &&& (9223372036854775807 : Int64)) / (1000000000000000000 : Int64)) * (1000000000000000000 : Int64))), .second, .val (.int ((p1 &&& (2147483647 : Int32)) % (20 : Int32))), .val (.int 0), .val (.int (p2 &&& (1 : Int32))), .val (.int 1), .val (.int (p3 &&& (1 : Int32))), .unset, .unset, .unset, .unset, .unset, .unset]) rfl (XS.iload X0.here hx rfl (hb hby at_108) rfl k)))))))))) ?_
      show own_Fin p e below (s₁.setTop (mkF m 110 #[.val (.long p0), .second, .val (.int p1), .val (.int p2), .val (.int p3), .val (.long ((p0 &&& (9223372036854775807 : Int64)) - ((p0 &&& (9223372036854775807 : Int64)) / (1000000000000000000 : Int64)) * (1000000000000000000 : Int64))), .second, .val (.int ((p1 &&& (2147483647 : Int32)) % (20 : Int32))), .val (.int 0), .val (.int (p2 &&& (1 : Int32))), .val (.int 1), .val (.int (p3 &&& (1 : Int32))), .unset, .unset, .unset, .unset, .unset, .unset] [(.int p3)])) _
      refine own_go (fun _ k => XS.iconst X0.here hx rfl (hb hby at_110) (XS.iushr X0.here hx rfl (hb hby at_111) rfl (XS.sipush X0.here hx rfl (hb hby at_112) (XS.iand X0.here hx rfl (hb hby at_115) rfl (XS.i2c X0.here hx rfl (hb hby at_116) rfl (XS.istore X0.here hx rfl (hb hby at_117) rfl (l' := #[.val (.long p0), .second, .val (.int p1), .val (.int p2), .val (.int p3), .val (.long ((p0 &&& (9223372036854775807 : Int64)) - ((p0 &&& (9223372036854775807 : Int64)) / (1000000000000000000 : Int64)) * (1000000000000000000 : Int64))), .second, .val (.int ((p1 &&& (2147483647 : Int32)) % (20 : Int32))), .val (.int 0), .val (.int (p2 &&& (1 : Int32))), .val (.int 1), .val (.int (p3 &&& (1 : Int32))), .val (.int ((((p3.toUInt32 >>> ((1 : Int32) &&& 31).toUInt32).toInt32) &&& (255 : Int32)).toUInt32.toUInt16.toUInt32.toInt32)), .unset, .unset, .unset, .unset, .unset]) rfl (XS.iload X0.here hx rfl (hb hby at_119) rfl (XS.bipush X0.here hx rfl (hb hby at_121) (XS.iadd X0.here hx rfl (hb hby at_123) rfl (XS.iload X0.here hx rfl (hb hby at_124) rfl k)))))))))) ?_
      show own_Fin p e below (s₁.setTop (mkF m 126 #[.val (.long p0), .second, .val (.int p1), .val (.int p2), .val (.int p3), .val (.long ((p0 &&& (9223372036854775807 : Int64)) - ((p0 &&& (9223372036854775807 : Int64)) / (1000000000000000000 : Int64)) * (1000000000000000000 : Int64))), .second, .val (.int ((p1 &&& (2147483647 : Int32)) % (20 : Int32))), .val (.int 0), .val (.int (p2 &&& (1 : Int32))), .val (.int 1), .val (.int (p3 &&& (1 : Int32))), .val (.int ((((p3.toUInt32 >>> ((1 : Int32) &&& 31).toUInt32).toInt32) &&& (255 : Int32)).toUInt32.toUInt16.toUInt32.toInt32)), .unset, .unset, .unset, .unset, .unset] [(.int 0), (.int ((p2 &&& (1 : Int32)) + (18 : Int32)))])) _
      refine own_go (fun _ k => XS.ifYes X0.here hx rfl (pc0 := 126) (pc' := 133) rfl (hb hby at_126) rfl ((if0 _ _).trans (teq (by decide : (0 : Int32) = (0 : Int32))).1) (by decide) (by decide) (XS.iconst X0.here hx rfl (hb hby at_133) (XS.iadd X0.here hx rfl (hb hby at_134) rfl (XS.iload X0.here hx rfl (hb hby at_135) rfl (XS.iadd X0.here hx rfl (hb hby at_137) rfl (XS.istore X0.here hx rfl (hb hby at_138) rfl (l' := #[.val (.long p0), .second, .val (.int p1), .val (.int p2), .val (.int p3), .val (.long ((p0 &&& (9223372036854775807 : Int64)) - ((p0 &&& (9223372036854775807 : Int64)) / (1000000000000000000 : Int64)) * (1000000000000000000 : Int64))), .second, .val (.int ((p1 &&& (2147483647 : Int32)) % (20 : Int32))), .val (.int 0), .val (.int (p2 &&& (1 : Int32))), .val (.int 1), .val (.int (p3 &&& (1 : Int32))), .val (.int ((((p3.toUInt32 >>> ((1 : Int32) &&& 31).toUInt32).toInt32) &&& (255 : Int32)).toUInt32.toUInt16.toUInt32.toInt32)), .val (.int ((((p2 &&& (1 : Int32)) + (18 : Int32)) + (0 : Int32)) + (1 : Int32))), .unset, .unset, .unset, .unset]) rfl k)))))) ?_
      show own_Fin p e below (s₁.setTop (mkF m 140 #[.val (.long p0), .second, .val (.int p1), .val (.int p2), .val (.int p3), .val (.long ((p0 &&& (9223372036854775807 : Int64)) - ((p0 &&& (9223372036854775807 : Int64)) / (1000000000000000000 : Int64)) * (1000000000000000000 : Int64))), .second, .val (.int ((p1 &&& (2147483647 : Int32)) % (20 : Int32))), .val (.int 0), .val (.int (p2 &&& (1 : Int32))), .val (.int 1), .val (.int (p3 &&& (1 : Int32))), .val (.int ((((p3.toUInt32 >>> ((1 : Int32) &&& 31).toUInt32).toInt32) &&& (255 : Int32)).toUInt32.toUInt16.toUInt32.toInt32)), .val (.int ((((p2 &&& (1 : Int32)) + (18 : Int32)) + (0 : Int32)) + (1 : Int32))), .unset, .unset, .unset, .unset] [])) _
      exact main _ _ _ _ _ _ _ _ (own_hl224 p0 p1 p2 p3 hc24_217 hc38_218 hc65_219 hc91_223)
     ·refine own_go (fun _ k => XS.icmpYes X0.here hx rfl (pc0 := 91) (pc' := 102) rfl (hb hby at_91) rfl (feq hc91_223).2 (by decide) (by decide) (XS.iload X0.here hx rfl (hb hby at_102) rfl (XS.iconst X0.here hx rfl (hb hby at_104) (XS.iand X0.here hx rfl (hb hby at_105) rfl (XS.istore X0.here hx rfl (hb hby at_106) rfl (l' := #[.val (.long p0), .second, .val (.int p1), .val (.int p2), .val (.int p3), .val (.long ((p0 &&& (9223372036854775807 : Int64)) - ((p0 &&& (9223372036854775807 : Int64)) / (1000000000000000000 : Int64)) * (1000000000000000000 : Int64))), .second, .val (.int ((p1 &&& (2147483647 : Int32)) % (20 : Int32))), .val (.int 0), .val (.int (p2 &&& (1 : Int32))), .val (.int 0), .val (.int (p3 &&& (1 : Int32))), .unset, .unset, .unset, .unset, .unset, .unset]) rfl (XS.iload X0.here hx rfl (hb hby at_108) rfl (XS.iconst X0.here hx rfl (hb hby at_110) (XS.iushr X0.here hx rfl (hb hby at_111) rfl (XS.sipush X0.here hx rfl (hb hby at_112) (XS.iand X0.here hx rfl (hb hby at_115) rfl k)))))))))) ?_
      show own_Fin p e below (s₁.setTop (mkF m 116 #[.val (.long p0), .second, .val (.int p1), .val (.int p2), .val (.int p3), .val (.long ((p0 &&& (9223372036854775807 : Int64)) - ((p0 &&& (9223372036854775807 : Int64)) / (1000000000000000000 : Int64)) * (1000000000000000000 : Int64))), .second, .val (.int ((p1 &&& (2147483647 : Int32)) % (20 : Int32))), .val (.int 0), .val (.int (p2 &&& (1 : Int32))), .val (.int 0), .val (.int (p3 &&& (1 : Int32))), .unset, .unset, .unset, .unset, .unset, .unset] [(.int (((p3.toUInt32 >>> ((1 : Int32) &&& 31).toUInt32).toInt32) &&& (255 : Int32)))])) _
      refine own_go (fun _ k => XS.i2c X0.here hx rfl (hb hby at_116) rfl (XS.istore X0.here hx rfl (hb hby at_117) rfl (l' := #[.val (.long p0), .second, .val (.int p1), .val (.int p2), .val (.int p3), .val (.long ((p0 &&& (9223372036854775807 : Int64)) - ((p0 &&& (9223372036854775807 : Int64)) / (1000000000000000000 : Int64)) * (1000000000000000000 : Int64))), .second, .val (.int ((p1 &&& (2147483647 : Int32)) % (20 : Int32))), .val (.int 0), .val (.int (p2 &&& (1 : Int32))), .val (.int 0), .val (.int (p3 &&& (1 : Int32))), .val (.int ((((p3.toUInt32 >>> ((1 : Int32) &&& 31).toUInt32).toInt32) &&& (255 : Int32)).toUInt32.toUInt16.toUInt32.toInt32)), .unset, .unset, .unset, .unset, .unset]) rfl (XS.iload X0.here hx rfl (hb hby at_119) rfl (XS.bipush X0.here hx rfl (hb hby at_121) (XS.iadd X0.here hx rfl (hb hby at_123) rfl (XS.iload X0.here hx rfl (hb hby at_124) rfl (XS.ifYes X0.here hx rfl (pc0 := 126) (pc' := 133) rfl (hb hby at_126) rfl ((if0 _ _).trans (teq (by decide : (0 : Int32) = (0 : Int32))).1) (by decide) (by decide) (XS.iconst X0.here hx rfl (hb hby at_133) (XS.iadd X0.here hx rfl (hb hby at_134) rfl (XS.iload X0.here hx rfl (hb hby at_135) rfl k)))))))))) ?_
      show own_Fin p e below (s₁.setTop (mkF m 137 #[.val (.long p0), .second, .val (.int p1), .val (.int p2), .val (.int p3), .val (.long ((p0 &&& (9223372036854775807 : Int64)) - ((p0 &&& (9223372036854775807 : Int64)) / (1000000000000000000 : Int64)) * (1000000000000000000 : Int64))), .second, .val (.int ((p1 &&& (2147483647 : Int32)) % (20 : Int32))), .val (.int 0), .val (.int (p2 &&& (1 : Int32))), .val (.int 0), .val (.int (p3 &&& (1 : Int32))), .val (.int ((((p3.toUInt32 >>> ((1 : Int32) &&& 31).toUInt32).toInt32) &&& (255 : Int32)).toUInt32.toUInt16.toUInt32.toInt32)), .unset, .unset, .unset, .unset, .unset] [(.int 0), (.int (((p2 &&& (1 : Int32)) + (18 : Int32)) + (0 : Int32)))])) _
      refine own_go (fun _ k => XS.iadd X0.here hx rfl (hb hby at_137) rfl (XS.istore X0.here hx rfl (hb hby at_138) rfl (l' := #[.val (.long p0), .second, .val (.int p1), .val (.int p2), .val (.int p3), .val (.long ((p0 &&& (9223372036854775807 : Int64)) - ((p0 &&& (9223372036854775807 : Int64)) / (1000000000000000000 : Int64)) * (1000000000000000000 : Int64))), .second, .val (.int ((p1 &&& (2147483647 : Int32)) % (20 : Int32))), .val (.int 0), .val (.int (p2 &&& (1 : Int32))), .val (.int 0), .val (.int (p3 &&& (1 : Int32))), .val (.int ((((p3.toUInt32 >>> ((1 : Int32) &&& 31).toUInt32).toInt32) &&& (255 : Int32)).toUInt32.toUInt16.toUInt32.toInt32)), .val (.int ((((p2 &&& (1 : Int32)) + (18 : Int32)) + (0 : Int32)) + (0 : Int32))), .unset, .unset, .unset, .unset]) rfl k)) ?_
      show own_Fin p e below (s₁.setTop (mkF m 140 #[.val (.long p0), .second, .val (.int p1), .val (.int p2), .val (.int p3), .val (.long ((p0 &&& (9223372036854775807 : Int64)) - ((p0 &&& (9223372036854775807 : Int64)) / (1000000000000000000 : Int64)) * (1000000000000000000 : Int64))), .second, .val (.int ((p1 &&& (2147483647 : Int32)) % (20 : Int32))), .val (.int 0), .val (.int (p2 &&& (1 : Int32))), .val (.int 0), .val (.int (p3 &&& (1 : Int32))), .val (.int ((((p3.toUInt32 >>> ((1 : Int32) &&& 31).toUInt32).toInt32) &&& (255 : Int32)).toUInt32.toUInt16.toUInt32.toInt32)), .val (.int ((((p2 &&& (1 : Int32)) + (18 : Int32)) + (0 : Int32)) + (0 : Int32))), .unset, .unset, .unset, .unset] [])) _
      exact main _ _ _ _ _ _ _ _ (own_hl231 p0 p1 p2 p3 hc24_217 hc38_218 hc65_219 hc91_223)
   ·refine own_go (fun _ k => XS.icmpNo X0.here hx rfl (hb hby at_38) rfl (flt hc38_218).2.2.1 (XS.lload X0.here hx rfl (hb hby at_41) rfl k)) ?_
    show own_Fin p e below (s₁.setTop (mkF m 43 #[.val (.long p0), .second, .val (.int p1), .val (.int p2), .val (.int p3), .val (.long ((p0 &&& (9223372036854775807 : Int64)) - ((p0 &&& (9223372036854775807 : Int64)) / (1000000000000000000 : Int64)) * (1000000000000000000 : Int64))), .second, .val (.int ((p1 &&& (2147483647 : Int32)) % (20 : Int32))), .val (.int 0), .unset, .unset, .unset, .unset, .unset, .unset, .unset, .unset, .unset] [(.long ((p0 &&& (9223372036854775807 : Int64)) - ((p0 &&& (9223372036854775807 : Int64)) / (1000000000000000000 : Int64)) * (1000000000000000000 : Int64)))])) _
    refine own_go (fun _ k => X0.ldc2Long hx hown (mvT hZ (ow hw 3)) (g := (mkF m 43 #[.val (.long p0), .second, .val (.int p1), .val (.int p2), .val (.int p3), .val (.long ((p0 &&& (9223372036854775807 : Int64)) - ((p0 &&& (9223372036854775807 : Int64)) / (1000000000000000000 : Int64)) * (1000000000000000000 : Int64))), .second, .val (.int ((p1 &&& (2147483647 : Int32)) % (20 : Int32))), .val (.int 0), .unset, .unset, .unset, .unset, .unset, .unset, .unset, .unset, .unset] [(.long ((p0 &&& (9223372036854775807 : Int64)) - ((p0 &&& (9223372036854775807 : Int64)) / (1000000000000000000 : Int64)) * (1000000000000000000 : Int64)))])) rfl (hb hby at_43) _ k) ?_
    show own_Fin p e below (s₁.setTop (mkF m 46 #[.val (.long p0), .second, .val (.int p1), .val (.int p2), .val (.int p3), .val (.long ((p0 &&& (9223372036854775807 : Int64)) - ((p0 &&& (9223372036854775807 : Int64)) / (1000000000000000000 : Int64)) * (1000000000000000000 : Int64))), .second, .val (.int ((p1 &&& (2147483647 : Int32)) % (20 : Int32))), .val (.int 0), .unset, .unset, .unset, .unset, .unset, .unset, .unset, .unset, .unset] [(.long (10 : Int64)), (.long ((p0 &&& (9223372036854775807 : Int64)) - ((p0 &&& (9223372036854775807 : Int64)) / (1000000000000000000 : Int64)) * (1000000000000000000 : Int64)))])) _
    refine own_go (fun _ k => XS.lrem X0.here hx rfl (hb hby at_46) rfl (by decide) (XS.lconst X0.here hx rfl (hb hby at_47) (XS.lcmp X0.here hx rfl (hb hby at_48) rfl k))) ?_
    show own_Fin p e below (s₁.setTop (mkF m 49 #[.val (.long p0), .second, .val (.int p1), .val (.int p2), .val (.int p3), .val (.long ((p0 &&& (9223372036854775807 : Int64)) - ((p0 &&& (9223372036854775807 : Int64)) / (1000000000000000000 : Int64)) * (1000000000000000000 : Int64))), .second, .val (.int ((p1 &&& (2147483647 : Int32)) % (20 : Int32))), .val (.int 0), .unset, .unset, .unset, .unset, .unset, .unset, .unset, .unset, .unset] [(.int (lcmpW (((p0 &&& (9223372036854775807 : Int64)) - ((p0 &&& (9223372036854775807 : Int64)) / (1000000000000000000 : Int64)) * (1000000000000000000 : Int64)) - (((p0 &&& (9223372036854775807 : Int64)) - ((p0 &&& (9223372036854775807 : Int64)) / (1000000000000000000 : Int64)) * (1000000000000000000 : Int64)) / (10 : Int64)) * (10 : Int64)) (0 : Int64)))])) _
    by_cases hc49_238 : (((p0 &&& (9223372036854775807 : Int64)) - ((p0 &&& (9223372036854775807 : Int64)) / (1000000000000000000 : Int64)) * (1000000000000000000 : Int64)) - (((p0 &&& (9223372036854775807 : Int64)) - ((p0 &&& (9223372036854775807 : Int64)) / (1000000000000000000 : Int64)) * (1000000000000000000 : Int64)) / (10 : Int64)) * (10 : Int64)) = (0 : Int64)
    ·refine own_go (fun _ k => XS.ifNo X0.here hx rfl (hb hby at_49) rfl ((if0 _ _).trans (teq ((lw_eq _ _).mpr hc49_238)).2) (XS.lload X0.here hx rfl (hb hby at_52) rfl (XS.lconst X0.here hx rfl (hb hby at_54) (XS.ladd X0.here hx rfl (hb hby at_55) rfl (XS.lstore X0.here hx rfl (hb hby at_56) rfl (l' := #[.val (.long p0), .second, .val (.int p1), .val (.int p2), .val (.int p3), .val (.long (((p0 &&& (9223372036854775807 : Int64)) - ((p0 &&& (9223372036854775807 : Int64)) / (1000000000000000000 : Int64)) * (1000000000000000000 : Int64)) + (1 : Int64))), .second, .val (.int ((p1 &&& (2147483647 : Int32)) % (20 : Int32))), .val (.int 0), .unset, .unset, .unset, .unset, .unset, .unset, .unset, .unset, .unset]) rfl (XS.iloadN X0.here hx rfl (hb hby at_58) rfl (XS.iconst X0.here hx rfl (hb hby at_59) (XS.iand X0.here hx rfl (hb hby at_60) rfl (XS.istore X0.here hx rfl (hb hby at_61) rfl (l' := #[.val (.long p0), .second, .val (.int p1), .val (.int p2), .val (.int p3), .val (.long (((p0 &&& (9223372036854775807 : Int64)) - ((p0 &&& (9223372036854775807 : Int64)) / (1000000000000000000 : Int64)) * (1000000000000000000 : Int64)) + (1 : Int64))), .second, .val (.int ((p1 &&& (2147483647 : Int32)) % (20 : Int32))), .val (.int 0), .val (.int (p2 &&& (1 : Int32))), .unset, .unset, .unset, .unset, .unset, .unset, .unset, .unset]) rfl (XS.iload X0.here hx rfl (hb hby at_63) rfl k)))))))))) ?_
     show own_Fin p e below (s₁.setTop (mkF m 65 #[.val (.long p0), .second, .val (.int p1), .val (.int p2), .val (.int p3), .val (.long (((p0 &&& (9223372036854775807 : Int64)) - ((p0 &&& (9223372036854775807 : Int64)) / (1000000000000000000 : Int64)) * (1000000000000000000 : Int64)) + (1 : Int64))), .second, .val (.int ((p1 &&& (2147483647 : Int32)) % (20 : Int32))), .val (.int 0), .val (.int (p2 &&& (1 : Int32))), .unset, .unset, .unset, .unset, .unset, .unset, .unset, .unset] [(.int ((p1 &&& (2147483647 : Int32)) % (20 : Int32)))])) _
     by_cases hc65_239 : ((p1 &&& (2147483647 : Int32)) % (20 : Int32)) = (0 : Int32)
     ·refine own_go (fun _ k => XS.ifNo X0.here hx rfl (hb hby at_65) rfl ((if0 _ _).trans (teq hc65_239).2) (XS.iconst X0.here hx rfl (hb hby at_68) (XS.istore X0.here hx rfl (hb hby at_69) rfl (l' := #[.val (.long p0), .second, .val (.int p1), .val (.int p2), .val (.int p3), .val (.long (((p0 &&& (9223372036854775807 : Int64)) - ((p0 &&& (9223372036854775807 : Int64)) / (1000000000000000000 : Int64)) * (1000000000000000000 : Int64)) + (1 : Int64))), .second, .val (.int ((p1 &&& (2147483647 : Int32)) % (20 : Int32))), .val (.int 0), .val (.int 1), .unset, .unset, .unset, .unset, .unset, .unset, .unset, .unset]) rfl (XS.iload X0.here hx rfl (hb hby at_71) rfl (XS.ifYes X0.here hx rfl (pc0 := 73) (pc' := 84) rfl (hb hby at_73) rfl ((if0 _ _).trans (teq (by decide : (0 : Int32) = (0 : Int32))).1) (by decide) (by decide) (XS.iconst X0.here hx rfl (hb hby at_84) (XS.istore X0.here hx rfl (hb hby at_85) rfl (l' := #[.val (.long p0), .second, .val (.int p1), .val (.int p2), .val (.int p3), .val (.long (((p0 &&& (9223372036854775807 : Int64)) - ((p0 &&& (9223372036854775807 : Int64)) / (1000000000000000000 : Int64)) * (1000000000000000000 : Int64)) + (1 : Int64))), .second, .val (.int ((p1 &&& (2147483647 : Int32)) % (20 : Int32))), .val (.int 0), .val (.int 1), .val (.int 0), .unset, .unset, .unset, .unset, .unset, .unset, .unset]) rfl (XS.iload X0.here hx rfl (hb hby at_87) rfl (XS.bipush X0.here hx rfl (hb hby at_89) k))))))))) ?_
      show own_Fin p e below (s₁.setTop (mkF m 91 #[.val (.long p0), .second, .val (.int p1), .val (.int p2), .val (.int p3), .val (.long (((p0 &&& (9223372036854775807 : Int64)) - ((p0 &&& (9223372036854775807 : Int64)) / (1000000000000000000 : Int64)) * (1000000000000000000 : Int64)) + (1 : Int64))), .second, .val (.int ((p1 &&& (2147483647 : Int32)) % (20 : Int32))), .val (.int 0), .val (.int 1), .val (.int 0), .unset, .unset, .unset, .unset, .unset, .unset, .unset] [(.int 18), (.int ((p1 &&& (2147483647 : Int32)) % (20 : Int32)))])) _
      by_cases hc91_240 : ((p1 &&& (2147483647 : Int32)) % (20 : Int32)) = (18 : Int32)
      ·refine own_go (fun _ k => XS.icmpNo X0.here hx rfl (hb hby at_91) rfl (teq hc91_240).2 (XS.iload X0.here hx rfl (hb hby at_94) rfl (XS.ifNo X0.here hx rfl (hb hby at_96) rfl ((if0 _ _).trans (teq (by decide : (0 : Int32) = (0 : Int32))).2) (XS.iconst X0.here hx rfl (hb hby at_99) (XS.istore X0.here hx rfl (hb hby at_100) rfl (l' := #[.val (.long p0), .second, .val (.int p1), .val (.int p2), .val (.int p3), .val (.long (((p0 &&& (9223372036854775807 : Int64)) - ((p0 &&& (9223372036854775807 : Int64)) / (1000000000000000000 : Int64)) * (1000000000000000000 : Int64)) + (1 : Int64))), .second, .val (.int ((p1 &&& (2147483647 : Int32)) % (20 : Int32))), .val (.int 0), .val (.int 1), .val (.int 1), .unset, .unset, .unset, .unset, .unset, .unset, .unset]) rfl (XS.iload X0.here hx rfl (hb hby at_102) rfl (XS.iconst X0.here hx rfl (hb hby at_104) (XS.iand X0.here hx rfl (hb hby at_105) rfl (XS.istore X0.here hx rfl (hb hby at_106) rfl (l' := #[.val (.long p0), .second, .val (.int p1), .val (.int p2), .val (.int p3), .val (.long (((p0 &&& (9223372036854775807 : Int64)) - ((p0 &&& (9223372036854775807 : Int64)) / (1000000000000000000 : Int64)) * (1000000000000000000 : Int64)) + (1 : Int64))), .second, .val (.int ((p1 &&& (2147483647 : Int32)) % (20 : Int32))), .val (.int 0), .val (.int 1), .val (.int 1), .val (.int (p3 &&& (1 : Int32))), .unset, .unset, .unset, .unset, .unset, .unset]) rfl (XS.iload X0.here hx rfl (hb hby at_108) rfl k)))))))))) ?_
       show own_Fin p e below (s₁.setTop (mkF m 110 #[.val (.long p0), .second, .val (.int p1), .val (.int p2), .val (.int p3), .val (.long (((p0 &&& (9223372036854775807 : Int64)) - ((p0 &&& (9223372036854775807 : Int64)) / (1000000000000000000 : Int64)) * (1000000000000000000 : Int64)) + (1 : Int64))), .second, .val (.int ((p1 &&& (2147483647 : Int32)) % (20 : Int32))), .val (.int 0), .val (.int 1), .val (.int 1), .val (.int (p3 &&& (1 : Int32))), .unset, .unset, .unset, .unset, .unset, .unset] [(.int p3)])) _
       refine own_go (fun _ k => XS.iconst X0.here hx rfl (hb hby at_110) (XS.iushr X0.here hx rfl (hb hby at_111) rfl (XS.sipush X0.here hx rfl (hb hby at_112) (XS.iand X0.here hx rfl (hb hby at_115) rfl (XS.i2c X0.here hx rfl (hb hby at_116) rfl (XS.istore X0.here hx rfl (hb hby at_117) rfl (l' := #[.val (.long p0), .second, .val (.int p1), .val (.int p2), .val (.int p3), .val (.long (((p0 &&& (9223372036854775807 : Int64)) - ((p0 &&& (9223372036854775807 : Int64)) / (1000000000000000000 : Int64)) * (1000000000000000000 : Int64)) + (1 : Int64))), .second, .val (.int ((p1 &&& (2147483647 : Int32)) % (20 : Int32))), .val (.int 0), .val (.int 1), .val (.int 1), .val (.int (p3 &&& (1 : Int32))), .val (.int ((((p3.toUInt32 >>> ((1 : Int32) &&& 31).toUInt32).toInt32) &&& (255 : Int32)).toUInt32.toUInt16.toUInt32.toInt32)), .unset, .unset, .unset, .unset, .unset]) rfl (XS.iload X0.here hx rfl (hb hby at_119) rfl (XS.bipush X0.here hx rfl (hb hby at_121) (XS.iadd X0.here hx rfl (hb hby at_123) rfl (XS.iload X0.here hx rfl (hb hby at_124) rfl k)))))))))) ?_
       show own_Fin p e below (s₁.setTop (mkF m 126 #[.val (.long p0), .second, .val (.int p1), .val (.int p2), .val (.int p3), .val (.long (((p0 &&& (9223372036854775807 : Int64)) - ((p0 &&& (9223372036854775807 : Int64)) / (1000000000000000000 : Int64)) * (1000000000000000000 : Int64)) + (1 : Int64))), .second, .val (.int ((p1 &&& (2147483647 : Int32)) % (20 : Int32))), .val (.int 0), .val (.int 1), .val (.int 1), .val (.int (p3 &&& (1 : Int32))), .val (.int ((((p3.toUInt32 >>> ((1 : Int32) &&& 31).toUInt32).toInt32) &&& (255 : Int32)).toUInt32.toUInt16.toUInt32.toInt32)), .unset, .unset, .unset, .unset, .unset] [(.int 0), (.int 19)])) _
       refine own_go (fun _ k => XS.ifYes X0.here hx rfl (pc0 := 126) (pc' := 133) rfl (hb hby at_126) rfl ((if0 _ _).trans (teq (by decide : (0 : Int32) = (0 : Int32))).1) (by decide) (by decide) (XS.iconst X0.here hx rfl (hb hby at_133) (XS.iadd X0.here hx rfl (hb hby at_134) rfl (XS.iload X0.here hx rfl (hb hby at_135) rfl (XS.iadd X0.here hx rfl (hb hby at_137) rfl (XS.istore X0.here hx rfl (hb hby at_138) rfl (l' := #[.val (.long p0), .second, .val (.int p1), .val (.int p2), .val (.int p3), .val (.long (((p0 &&& (9223372036854775807 : Int64)) - ((p0 &&& (9223372036854775807 : Int64)) / (1000000000000000000 : Int64)) * (1000000000000000000 : Int64)) + (1 : Int64))), .second, .val (.int ((p1 &&& (2147483647 : Int32)) % (20 : Int32))), .val (.int 0), .val (.int 1), .val (.int 1), .val (.int (p3 &&& (1 : Int32))), .val (.int ((((p3.toUInt32 >>> ((1 : Int32) &&& 31).toUInt32).toInt32) &&& (255 : Int32)).toUInt32.toUInt16.toUInt32.toInt32)), .val (.int 20), .unset, .unset, .unset, .unset]) rfl k)))))) ?_
       show own_Fin p e below (s₁.setTop (mkF m 140 #[.val (.long p0), .second, .val (.int p1), .val (.int p2), .val (.int p3), .val (.long (((p0 &&& (9223372036854775807 : Int64)) - ((p0 &&& (9223372036854775807 : Int64)) / (1000000000000000000 : Int64)) * (1000000000000000000 : Int64)) + (1 : Int64))), .second, .val (.int ((p1 &&& (2147483647 : Int32)) % (20 : Int32))), .val (.int 0), .val (.int 1), .val (.int 1), .val (.int (p3 &&& (1 : Int32))), .val (.int ((((p3.toUInt32 >>> ((1 : Int32) &&& 31).toUInt32).toInt32) &&& (255 : Int32)).toUInt32.toUInt16.toUInt32.toInt32)), .val (.int 20), .unset, .unset, .unset, .unset] [])) _
       exact main _ _ _ _ _ _ _ _ (own_hl241 p0 p1 p2 p3 hc24_217 hc38_218 hc49_238 hc65_239 hc91_240)
      ·refine own_go (fun _ k => XS.icmpYes X0.here hx rfl (pc0 := 91) (pc' := 102) rfl (hb hby at_91) rfl (feq hc91_240).2 (by decide) (by decide) (XS.iload X0.here hx rfl (hb hby at_102) rfl (XS.iconst X0.here hx rfl (hb hby at_104) (XS.iand X0.here hx rfl (hb hby at_105) rfl (XS.istore X0.here hx rfl (hb hby at_106) rfl (l' := #[.val (.long p0), .second, .val (.int p1), .val (.int p2), .val (.int p3), .val (.long (((p0 &&& (9223372036854775807 : Int64)) - ((p0 &&& (9223372036854775807 : Int64)) / (1000000000000000000 : Int64)) * (1000000000000000000 : Int64)) + (1 : Int64))), .second, .val (.int ((p1 &&& (2147483647 : Int32)) % (20 : Int32))), .val (.int 0), .val (.int 1), .val (.int 0), .val (.int (p3 &&& (1 : Int32))), .unset, .unset, .unset, .unset, .unset, .unset]) rfl (XS.iload X0.here hx rfl (hb hby at_108) rfl (XS.iconst X0.here hx rfl (hb hby at_110) (XS.iushr X0.here hx rfl (hb hby at_111) rfl (XS.sipush X0.here hx rfl (hb hby at_112) (XS.iand X0.here hx rfl (hb hby at_115) rfl k)))))))))) ?_
       show own_Fin p e below (s₁.setTop (mkF m 116 #[.val (.long p0), .second, .val (.int p1), .val (.int p2), .val (.int p3), .val (.long (((p0 &&& (9223372036854775807 : Int64)) - ((p0 &&& (9223372036854775807 : Int64)) / (1000000000000000000 : Int64)) * (1000000000000000000 : Int64)) + (1 : Int64))), .second, .val (.int ((p1 &&& (2147483647 : Int32)) % (20 : Int32))), .val (.int 0), .val (.int 1), .val (.int 0), .val (.int (p3 &&& (1 : Int32))), .unset, .unset, .unset, .unset, .unset, .unset] [(.int (((p3.toUInt32 >>> ((1 : Int32) &&& 31).toUInt32).toInt32) &&& (255 : Int32)))])) _
       refine own_go (fun _ k => XS.i2c X0.here hx rfl (hb hby at_116) rfl (XS.istore X0.here hx rfl (hb hby at_117) rfl (l' := #[.val (.long p0), .second, .val (.int p1), .val (.int p2), .val (.int p3), .val (.long (((p0 &&& (9223372036854775807 : Int64)) - ((p0 &&& (9223372036854775807 : Int64)) / (1000000000000000000 : Int64)) * (1000000000000000000 : Int64)) + (1 : Int64))), .second, .val (.int ((p1 &&& (2147483647 : Int32)) % (20 : Int32))), .val (.int 0), .val (.int 1), .val (.int 0), .val (.int (p3 &&& (1 : Int32))), .val (.int ((((p3.toUInt32 >>> ((1 : Int32) &&& 31).toUInt32).toInt32) &&& (255 : Int32)).toUInt32.toUInt16.toUInt32.toInt32)), .unset, .unset, .unset, .unset, .unset]) rfl (XS.iload X0.here hx rfl (hb hby at_119) rfl (XS.bipush X0.here hx rfl (hb hby at_121) (XS.iadd X0.here hx rfl (hb hby at_123) rfl (XS.iload X0.here hx rfl (hb hby at_124) rfl (XS.ifYes X0.here hx rfl (pc0 := 126) (pc' := 133) rfl (hb hby at_126) rfl ((if0 _ _).trans (teq (by decide : (0 : Int32) = (0 : Int32))).1) (by decide) (by decide) (XS.iconst X0.here hx rfl (hb hby at_133) (XS.iadd X0.here hx rfl (hb hby at_134) rfl (XS.iload X0.here hx rfl (hb hby at_135) rfl k)))))))))) ?_
       show own_Fin p e below (s₁.setTop (mkF m 137 #[.val (.long p0), .second, .val (.int p1), .val (.int p2), .val (.int p3), .val (.long (((p0 &&& (9223372036854775807 : Int64)) - ((p0 &&& (9223372036854775807 : Int64)) / (1000000000000000000 : Int64)) * (1000000000000000000 : Int64)) + (1 : Int64))), .second, .val (.int ((p1 &&& (2147483647 : Int32)) % (20 : Int32))), .val (.int 0), .val (.int 1), .val (.int 0), .val (.int (p3 &&& (1 : Int32))), .val (.int ((((p3.toUInt32 >>> ((1 : Int32) &&& 31).toUInt32).toInt32) &&& (255 : Int32)).toUInt32.toUInt16.toUInt32.toInt32)), .unset, .unset, .unset, .unset, .unset] [(.int 0), (.int 19)])) _
       refine own_go (fun _ k => XS.iadd X0.here hx rfl (hb hby at_137) rfl (XS.istore X0.here hx rfl (hb hby at_138) rfl (l' := #[.val (.long p0), .second, .val (.int p1), .val (.int p2), .val (.int p3), .val (.long (((p0 &&& (9223372036854775807 : Int64)) - ((p0 &&& (9223372036854775807 : Int64)) / (1000000000000000000 : Int64)) * (1000000000000000000 : Int64)) + (1 : Int64))), .second, .val (.int ((p1 &&& (2147483647 : Int32)) % (20 : Int32))), .val (.int 0), .val (.int 1), .val (.int 0), .val (.int (p3 &&& (1 : Int32))), .val (.int ((((p3.toUInt32 >>> ((1 : Int32) &&& 31).toUInt32).toInt32) &&& (255 : Int32)).toUInt32.toUInt16.toUInt32.toInt32)), .val (.int 19), .unset, .unset, .unset, .unset]) rfl k)) ?_
       show own_Fin p e below (s₁.setTop (mkF m 140 #[.val (.long p0), .second, .val (.int p1), .val (.int p2), .val (.int p3), .val (.long (((p0 &&& (9223372036854775807 : Int64)) - ((p0 &&& (9223372036854775807 : Int64)) / (1000000000000000000 : Int64)) * (1000000000000000000 : Int64)) + (1 : Int64))), .second, .val (.int ((p1 &&& (2147483647 : Int32)) % (20 : Int32))), .val (.int 0), .val (.int 1), .val (.int 0), .val (.int (p3 &&& (1 : Int32))), .val (.int ((((p3.toUInt32 >>> ((1 : Int32) &&& 31).toUInt32).toInt32) &&& (255 : Int32)).toUInt32.toUInt16.toUInt32.toInt32)), .val (.int 19), .unset, .unset, .unset, .unset] [])) _
       exact main _ _ _ _ _ _ _ _ (own_hl242 p0 p1 p2 p3 hc24_217 hc38_218 hc49_238 hc65_239 hc91_240)
     ·refine own_go (fun _ k => XS.ifYes X0.here hx rfl (pc0 := 65) (pc' := 71) rfl (hb hby at_65) rfl ((if0 _ _).trans (feq hc65_239).2) (by decide) (by decide) (XS.iload X0.here hx rfl (hb hby at_71) rfl (XS.ifYes X0.here hx rfl (pc0 := 73) (pc' := 84) rfl (hb hby at_73) rfl ((if0 _ _).trans (teq (by decide : (0 : Int32) = (0 : Int32))).1) (by decide) (by decide) (XS.iconst X0.here hx rfl (hb hby at_84) (XS.istore X0.here hx rfl (hb hby at_85) rfl (l' := #[.val (.long p0), .second, .val (.int p1), .val (.int p2), .val (.int p3), .val (.long (((p0 &&& (9223372036854775807 : Int64)) - ((p0 &&& (9223372036854775807 : Int64)) / (1000000000000000000 : Int64)) * (1000000000000000000 : Int64)) + (1 : Int64))), .second, .val (.int ((p1 &&& (2147483647 : Int32)) % (20 : Int32))), .val (.int 0), .val (.int (p2 &&& (1 : Int32))), .val (.int 0), .unset, .unset, .unset, .unset, .unset, .unset, .unset]) rfl (XS.iload X0.here hx rfl (hb hby at_87) rfl (XS.bipush X0.here hx rfl (hb hby at_89) k))))))) ?_
      show own_Fin p e below (s₁.setTop (mkF m 91 #[.val (.long p0), .second, .val (.int p1), .val (.int p2), .val (.int p3), .val (.long (((p0 &&& (9223372036854775807 : Int64)) - ((p0 &&& (9223372036854775807 : Int64)) / (1000000000000000000 : Int64)) * (1000000000000000000 : Int64)) + (1 : Int64))), .second, .val (.int ((p1 &&& (2147483647 : Int32)) % (20 : Int32))), .val (.int 0), .val (.int (p2 &&& (1 : Int32))), .val (.int 0), .unset, .unset, .unset, .unset, .unset, .unset, .unset] [(.int 18), (.int ((p1 &&& (2147483647 : Int32)) % (20 : Int32)))])) _
      by_cases hc91_243 : ((p1 &&& (2147483647 : Int32)) % (20 : Int32)) = (18 : Int32)
      ·refine own_go (fun _ k => XS.icmpNo X0.here hx rfl (hb hby at_91) rfl (teq hc91_243).2 (XS.iload X0.here hx rfl (hb hby at_94) rfl (XS.ifNo X0.here hx rfl (hb hby at_96) rfl ((if0 _ _).trans (teq (by decide : (0 : Int32) = (0 : Int32))).2) (XS.iconst X0.here hx rfl (hb hby at_99) (XS.istore X0.here hx rfl (hb hby at_100) rfl (l' := #[.val (.long p0), .second, .val (.int p1), .val (.int p2), .val (.int p3), .val (.long (((p0 &&& (9223372036854775807 : Int64)) - ((p0 &&& (9223372036854775807 : Int64)) / (1000000000000000000 : Int64)) * (1000000000000000000 : Int64)) + (1 : Int64))), .second, .val (.int ((p1 &&& (2147483647 : Int32)) % (20 : Int32))), .val (.int 0), .val (.int (p2 &&& (1 : Int32))), .val (.int 1), .unset, .unset, .unset, .unset, .unset, .unset, .unset]) rfl (XS.iload X0.here hx rfl (hb hby at_102) rfl (XS.iconst X0.here hx rfl (hb hby at_104) (XS.iand X0.here hx rfl (hb hby at_105) rfl (XS.istore X0.here hx rfl (hb hby at_106) rfl (l' := #[.val (.long p0), .second, .val (.int p1), .val (.int p2), .val (.int p3), .val (.long (((p0 &&& (9223372036854775807 : Int64)) - ((p0 &&& (9223372036854775807 : Int64)) / (1000000000000000000 : Int64)) * (1000000000000000000 : Int64)) + (1 : Int64))), .second, .val (.int ((p1 &&& (2147483647 : Int32)) % (20 : Int32))), .val (.int 0), .val (.int (p2 &&& (1 : Int32))), .val (.int 1), .val (.int (p3 &&& (1 : Int32))), .unset, .unset, .unset, .unset, .unset, .unset]) rfl (XS.iload X0.here hx rfl (hb hby at_108) rfl k)))))))))) ?_
       show own_Fin p e below (s₁.setTop (mkF m 110 #[.val (.long p0), .second, .val (.int p1), .val (.int p2), .val (.int p3), .val (.long (((p0 &&& (9223372036854775807 : Int64)) - ((p0 &&& (9223372036854775807 : Int64)) / (1000000000000000000 : Int64)) * (1000000000000000000 : Int64)) + (1 : Int64))), .second, .val (.int ((p1 &&& (2147483647 : Int32)) % (20 : Int32))), .val (.int 0), .val (.int (p2 &&& (1 : Int32))), .val (.int 1), .val (.int (p3 &&& (1 : Int32))), .unset, .unset, .unset, .unset, .unset, .unset] [(.int p3)])) _
       refine own_go (fun _ k => XS.iconst X0.here hx rfl (hb hby at_110) (XS.iushr X0.here hx rfl (hb hby at_111) rfl (XS.sipush X0.here hx rfl (hb hby at_112) (XS.iand X0.here hx rfl (hb hby at_115) rfl (XS.i2c X0.here hx rfl (hb hby at_116) rfl (XS.istore X0.here hx rfl (hb hby at_117) rfl (l' := #[.val (.long p0), .second, .val (.int p1), .val (.int p2), .val (.int p3), .val (.long (((p0 &&& (9223372036854775807 : Int64)) - ((p0 &&& (9223372036854775807 : Int64)) / (1000000000000000000 : Int64)) * (1000000000000000000 : Int64)) + (1 : Int64))), .second, .val (.int ((p1 &&& (2147483647 : Int32)) % (20 : Int32))), .val (.int 0), .val (.int (p2 &&& (1 : Int32))), .val (.int 1), .val (.int (p3 &&& (1 : Int32))), .val (.int ((((p3.toUInt32 >>> ((1 : Int32) &&& 31).toUInt32).toInt32) &&& (255 : Int32)).toUInt32.toUInt16.toUInt32.toInt32)), .unset, .unset, .unset, .unset, .unset]) rfl (XS.iload X0.here hx rfl (hb hby at_119) rfl (XS.bipush X0.here hx rfl (hb hby at_121) (XS.iadd X0.here hx rfl (hb hby at_123) rfl (XS.iload X0.here hx rfl (hb hby at_124) rfl k)))))))))) ?_
       show own_Fin p e below (s₁.setTop (mkF m 126 #[.val (.long p0), .second, .val (.int p1), .val (.int p2), .val (.int p3), .val (.long (((p0 &&& (9223372036854775807 : Int64)) - ((p0 &&& (9223372036854775807 : Int64)) / (1000000000000000000 : Int64)) * (1000000000000000000 : Int64)) + (1 : Int64))), .second, .val (.int ((p1 &&& (2147483647 : Int32)) % (20 : Int32))), .val (.int 0), .val (.int (p2 &&& (1 : Int32))), .val (.int 1), .val (.int (p3 &&& (1 : Int32))), .val (.int ((((p3.toUInt32 >>> ((1 : Int32) &&& 31).toUInt32).toInt32) &&& (255 : Int32)).toUInt32.toUInt16.toUInt32.toInt32)), .unset, .unset, .unset, .unset, .unset] [(.int 0), (.int ((p2 &&& (1 : Int32)) + (18 : Int32)))])) _
       refine own_go (fun _ k => XS.ifYes X0.here hx rfl (pc0 := 126) (pc' := 133) rfl (hb hby at_126) rfl ((if0 _ _).trans (teq (by decide : (0 : Int32) = (0 : Int32))).1) (by decide) (by decide) (XS.iconst X0.here hx rfl (hb hby at_133) (XS.iadd X0.here hx rfl (hb hby at_134) rfl (XS.iload X0.here hx rfl (hb hby at_135) rfl (XS.iadd X0.here hx rfl (hb hby at_137) rfl (XS.istore X0.here hx rfl (hb hby at_138) rfl (l' := #[.val (.long p0), .second, .val (.int p1), .val (.int p2), .val (.int p3), .val (.long (((p0 &&& (9223372036854775807 : Int64)) - ((p0 &&& (9223372036854775807 : Int64)) / (1000000000000000000 : Int64)) * (1000000000000000000 : Int64)) + (1 : Int64))), .second, .val (.int ((p1 &&& (2147483647 : Int32)) % (20 : Int32))), .val (.int 0), .val (.int (p2 &&& (1 : Int32))), .val (.int 1), .val (.int (p3 &&& (1 : Int32))), .val (.int ((((p3.toUInt32 >>> ((1 : Int32) &&& 31).toUInt32).toInt32) &&& (255 : Int32)).toUInt32.toUInt16.toUInt32.toInt32)), .val (.int ((((p2 &&& (1 : Int32)) + (18 : Int32)) + (0 : Int32)) + (1 : Int32))), .unset, .unset, .unset, .unset]) rfl k)))))) ?_
       show own_Fin p e below (s₁.setTop (mkF m 140 #[.val (.long p0), .second, .val (.int p1), .val (.int p2), .val (.int p3), .val (.long (((p0 &&& (9223372036854775807 : Int64)) - ((p0 &&& (9223372036854775807 : Int64)) / (1000000000000000000 : Int64)) * (1000000000000000000 : Int64)) + (1 : Int64))), .second, .val (.int ((p1 &&& (2147483647 : Int32)) % (20 : Int32))), .val (.int 0), .val (.int (p2 &&& (1 : Int32))), .val (.int 1), .val (.int (p3 &&& (1 : Int32))), .val (.int ((((p3.toUInt32 >>> ((1 : Int32) &&& 31).toUInt32).toInt32) &&& (255 : Int32)).toUInt32.toUInt16.toUInt32.toInt32)), .val (.int ((((p2 &&& (1 : Int32)) + (18 : Int32)) + (0 : Int32)) + (1 : Int32))), .unset, .unset, .unset, .unset] [])) _
       exact main _ _ _ _ _ _ _ _ (own_hl244 p0 p1 p2 p3 hc24_217 hc38_218 hc49_238 hc65_239 hc91_243)
      ·refine own_go (fun _ k => XS.icmpYes X0.here hx rfl (pc0 := 91) (pc' := 102) rfl (hb hby at_91) rfl (feq hc91_243).2 (by decide) (by decide) (XS.iload X0.here hx rfl (hb hby at_102) rfl (XS.iconst X0.here hx rfl (hb hby at_104) (XS.iand X0.here hx rfl (hb hby at_105) rfl (XS.istore X0.here hx rfl (hb hby at_106) rfl (l' := #[.val (.long p0), .second, .val (.int p1), .val (.int p2), .val (.int p3), .val (.long (((p0 &&& (9223372036854775807 : Int64)) - ((p0 &&& (9223372036854775807 : Int64)) / (1000000000000000000 : Int64)) * (1000000000000000000 : Int64)) + (1 : Int64))), .second, .val (.int ((p1 &&& (2147483647 : Int32)) % (20 : Int32))), .val (.int 0), .val (.int (p2 &&& (1 : Int32))), .val (.int 0), .val (.int (p3 &&& (1 : Int32))), .unset, .unset, .unset, .unset, .unset, .unset]) rfl (XS.iload X0.here hx rfl (hb hby at_108) rfl (XS.iconst X0.here hx rfl (hb hby at_110) (XS.iushr X0.here hx rfl (hb hby at_111) rfl (XS.sipush X0.here hx rfl (hb hby at_112) (XS.iand X0.here hx rfl (hb hby at_115) rfl k)))))))))) ?_
       show own_Fin p e below (s₁.setTop (mkF m 116 #[.val (.long p0), .second, .val (.int p1), .val (.int p2), .val (.int p3), .val (.long (((p0 &&& (9223372036854775807 : Int64)) - ((p0 &&& (9223372036854775807 : Int64)) / (1000000000000000000 : Int64)) * (1000000000000000000 : Int64)) + (1 : Int64))), .second, .val (.int ((p1 &&& (2147483647 : Int32)) % (20 : Int32))), .val (.int 0), .val (.int (p2 &&& (1 : Int32))), .val (.int 0), .val (.int (p3 &&& (1 : Int32))), .unset, .unset, .unset, .unset, .unset, .unset] [(.int (((p3.toUInt32 >>> ((1 : Int32) &&& 31).toUInt32).toInt32) &&& (255 : Int32)))])) _
       refine own_go (fun _ k => XS.i2c X0.here hx rfl (hb hby at_116) rfl (XS.istore X0.here hx rfl (hb hby at_117) rfl (l' := #[.val (.long p0), .second, .val (.int p1), .val (.int p2), .val (.int p3), .val (.long (((p0 &&& (9223372036854775807 : Int64)) - ((p0 &&& (9223372036854775807 : Int64)) / (1000000000000000000 : Int64)) * (1000000000000000000 : Int64)) + (1 : Int64))), .second, .val (.int ((p1 &&& (2147483647 : Int32)) % (20 : Int32))), .val (.int 0), .val (.int (p2 &&& (1 : Int32))), .val (.int 0), .val (.int (p3 &&& (1 : Int32))), .val (.int ((((p3.toUInt32 >>> ((1 : Int32) &&& 31).toUInt32).toInt32) &&& (255 : Int32)).toUInt32.toUInt16.toUInt32.toInt32)), .unset, .unset, .unset, .unset, .unset]) rfl (XS.iload X0.here hx rfl (hb hby at_119) rfl (XS.bipush X0.here hx rfl (hb hby at_121) (XS.iadd X0.here hx rfl (hb hby at_123) rfl (XS.iload X0.here hx rfl (hb hby at_124) rfl (XS.ifYes X0.here hx rfl (pc0 := 126) (pc' := 133) rfl (hb hby at_126) rfl ((if0 _ _).trans (teq (by decide : (0 : Int32) = (0 : Int32))).1) (by decide) (by decide) (XS.iconst X0.here hx rfl (hb hby at_133) (XS.iadd X0.here hx rfl (hb hby at_134) rfl (XS.iload X0.here hx rfl (hb hby at_135) rfl k)))))))))) ?_
       show own_Fin p e below (s₁.setTop (mkF m 137 #[.val (.long p0), .second, .val (.int p1), .val (.int p2), .val (.int p3), .val (.long (((p0 &&& (9223372036854775807 : Int64)) - ((p0 &&& (9223372036854775807 : Int64)) / (1000000000000000000 : Int64)) * (1000000000000000000 : Int64)) + (1 : Int64))), .second, .val (.int ((p1 &&& (2147483647 : Int32)) % (20 : Int32))), .val (.int 0), .val (.int (p2 &&& (1 : Int32))), .val (.int 0), .val (.int (p3 &&& (1 : Int32))), .val (.int ((((p3.toUInt32 >>> ((1 : Int32) &&& 31).toUInt32).toInt32) &&& (255 : Int32)).toUInt32.toUInt16.toUInt32.toInt32)), .unset, .unset, .unset, .unset, .unset] [(.int 0), (.int (((p2 &&& (1 : Int32)) + (18 : Int32)) + (0 : Int32)))])) _
       refine own_go (fun _ k => XS.iadd X0.here hx rfl (hb hby at_137) rfl (XS.istore X0.here hx rfl (hb hby at_138) rfl (l' := #[.val (.long p0), .second, .val (.int p1), .val (.int p2), .val (.int p3), .val (.long (((p0 &&& (9223372036854775807 : Int64)) - ((p0 &&& (9223372036854775807 : Int64)) / (1000000000000000000 : Int64)) * (1000000000000000000 : Int64)) + (1 : Int64))), .second, .val (.int ((p1 &&& (2147483647 : Int32)) % (20 : Int32))), .val (.int 0), .val (.int (p2 &&& (1 : Int32))), .val (.int 0), .val (.int (p3 &&& (1 : Int32))), .val (.int ((((p3.toUInt32 >>> ((1 : Int32) &&& 31).toUInt32).toInt32) &&& (255 : Int32)).toUInt32.toUInt16.toUInt32.toInt32)), .val (.int ((((p2 &&& (1 : Int32)) + (18 : Int32)) + (0 : Int32)) + (0 : Int32))), .unset, .unset, .unset, .unset]) rfl k)) ?_
       show own_Fin p e below (s₁.setTop (mkF m 140 #[.val (.long p0), .second, .val (.int p1), .val (.int p2), .val (.int p3), .val (.long (((p0 &&& (9223372036854775807 : Int64)) - ((p0 &&& (9223372036854775807 : Int64)) / (1000000000000000000 : Int64)) * (1000000000000000000 : Int64)) + (1 : Int64))), .second, .val (.int ((p1 &&& (2147483647 : Int32)) % (20 : Int32))), .val (.int 0), .val (.int (p2 &&& (1 : Int32))), .val (.int 0), .val (.int (p3 &&& (1 : Int32))), .val (.int ((((p3.toUInt32 >>> ((1 : Int32) &&& 31).toUInt32).toInt32) &&& (255 : Int32)).toUInt32.toUInt16.toUInt32.toInt32)), .val (.int ((((p2 &&& (1 : Int32)) + (18 : Int32)) + (0 : Int32)) + (0 : Int32))), .unset, .unset, .unset, .unset] [])) _
       exact main _ _ _ _ _ _ _ _ (own_hl251 p0 p1 p2 p3 hc24_217 hc38_218 hc49_238 hc65_239 hc91_243)
    ·refine own_go (fun _ k => XS.ifYes X0.here hx rfl (pc0 := 49) (pc' := 58) rfl (hb hby at_49) rfl ((if0 _ _).trans (feq (fun q => hc49_238 ((lw_eq _ _).mp q))).2) (by decide) (by decide) (XS.iloadN X0.here hx rfl (hb hby at_58) rfl (XS.iconst X0.here hx rfl (hb hby at_59) (XS.iand X0.here hx rfl (hb hby at_60) rfl (XS.istore X0.here hx rfl (hb hby at_61) rfl (l' := #[.val (.long p0), .second, .val (.int p1), .val (.int p2), .val (.int p3), .val (.long ((p0 &&& (9223372036854775807 : Int64)) - ((p0 &&& (9223372036854775807 : Int64)) / (1000000000000000000 : Int64)) * (1000000000000000000 : Int64))), .second, .val (.int ((p1 &&& (2147483647 : Int32)) % (20 : Int32))), .val (.int 0), .val (.int (p2 &&& (1 : Int32))), .unset, .unset, .unset, .unset, .unset, .unset, .unset, .unset]) rfl (XS.iload X0.here hx rfl (hb hby at_63) rfl k)))))) ?_
     show own_Fin p e below (s₁.setTop (mkF m 65 #[.val (.long p0), .second, .val (.int p1), .val (.int p2), .val (.int p3), .val (.long ((p0 &&& (9223372036854775807 : Int64)) - ((p0 &&& (9223372036854775807 : Int64)) / (1000000000000000000 : Int64)) * (1000000000000000000 : Int64))), .second, .val (.int ((p1 &&& (2147483647 : Int32)) % (20 : Int32))), .val (.int 0), .val (.int (p2 &&& (1 : Int32))), .unset, .unset, .unset, .unset, .unset, .unset, .unset, .unset] [(.int ((p1 &&& (2147483647 : Int32)) % (20 : Int32)))])) _
     by_cases hc65_258 : ((p1 &&& (2147483647 : Int32)) % (20 : Int32)) = (0 : Int32)
     ·refine own_go (fun _ k => XS.ifNo X0.here hx rfl (hb hby at_65) rfl ((if0 _ _).trans (teq hc65_258).2) (XS.iconst X0.here hx rfl (hb hby at_68) (XS.istore X0.here hx rfl (hb hby at_69) rfl (l' := #[.val (.long p0), .second, .val (.int p1), .val (.int p2), .val (.int p3), .val (.long ((p0 &&& (9223372036854775807 : Int64)) - ((p0 &&& (9223372036854775807 : Int64)) / (1000000000000000000 : Int64)) * (1000000000000000000 : Int64))), .second, .val (.int ((p1 &&& (2147483647 : Int32)) % (20 : Int32))), .val (.int 0), .val (.int 1), .unset, .unset, .unset, .unset, .unset, .unset, .unset, .unset]) rfl (XS.iload X0.here hx rfl (hb hby at_71) rfl (XS.ifYes X0.here hx rfl (pc0 := 73) (pc' := 84) rfl (hb hby at_73) rfl ((if0 _ _).trans (teq (by decide : (0 : Int32) = (0 : Int32))).1) (by decide) (by decide) (XS.iconst X0.here hx rfl (hb hby at_84) (XS.istore X0.here hx rfl (hb hby at_85) rfl (l' := #[.val (.long p0), .second, .val (.int p1), .val (.int p2), .val (.int p3), .val (.long ((p0 &&& (9223372036854775807 : Int64)) - ((p0 &&& (9223372036854775807 : Int64)) / (1000000000000000000 : Int64)) * (1000000000000000000 : Int64))), .second, .val (.int ((p1 &&& (2147483647 : Int32)) % (20 : Int32))), .val (.int 0), .val (.int 1), .val (.int 0), .unset, .unset, .unset, .unset, .unset, .unset, .unset]) rfl (XS.iload X0.here hx rfl (hb hby at_87) rfl (XS.bipush X0.here hx rfl (hb hby at_89) k))))))))) ?_
      show own_Fin p e below (s₁.setTop (mkF m 91 #[.val (.long p0), .second, .val (.int p1), .val (.int p2), .val (.int p3), .val (.long ((p0 &&& (9223372036854775807 : Int64)) - ((p0 &&& (9223372036854775807 : Int64)) / (1000000000000000000 : Int64)) * (1000000000000000000 : Int64))), .second, .val (.int ((p1 &&& (2147483647 : Int32)) % (20 : Int32))), .val (.int 0), .val (.int 1), .val (.int 0), .unset, .unset, .unset, .unset, .unset, .unset, .unset] [(.int 18), (.int ((p1 &&& (2147483647 : Int32)) % (20 : Int32)))])) _
      by_cases hc91_259 : ((p1 &&& (2147483647 : Int32)) % (20 : Int32)) = (18 : Int32)
      ·refine own_go (fun _ k => XS.icmpNo X0.here hx rfl (hb hby at_91) rfl (teq hc91_259).2 (XS.iload X0.here hx rfl (hb hby at_94) rfl (XS.ifNo X0.here hx rfl (hb hby at_96) rfl ((if0 _ _).trans (teq (by decide : (0 : Int32) = (0 : Int32))).2) (XS.iconst X0.here hx rfl (hb hby at_99) (XS.istore X0.here hx rfl (hb hby at_100) rfl (l' := #[.val (.long p0), .second, .val (.int p1), .val (.int p2), .val (.int p3), .val (.long ((p0 &&& (9223372036854775807 : Int64)) - ((p0 &&& (9223372036854775807 : Int64)) / (1000000000000000000 : Int64)) * (1000000000000000000 : Int64))), .second, .val (.int ((p1 &&& (2147483647 : Int32)) % (20 : Int32))), .val (.int 0), .val (.int 1), .val (.int 1), .unset, .unset, .unset, .unset, .unset, .unset, .unset]) rfl (XS.iload X0.here hx rfl (hb hby at_102) rfl (XS.iconst X0.here hx rfl (hb hby at_104) (XS.iand X0.here hx rfl (hb hby at_105) rfl (XS.istore X0.here hx rfl (hb hby at_106) rfl (l' := #[.val (.long p0), .second, .val (.int p1), .val (.int p2), .val (.int p3), .val (.long ((p0 &&& (9223372036854775807 : Int64)) - ((p0 &&& (9223372036854775807 : Int64)) / (1000000000000000000 : Int64)) * (1000000000000000000 : Int64))), .second, .val (.int ((p1 &&& (2147483647 : Int32)) % (20 : Int32))), .val (.int 0), .val (.int 1), .val (.int 1), .val (.int (p3 &&& (1 : Int32))), .unset, .unset, .unset, .unset, .unset, .unset]) rfl (XS.iload X0.here hx rfl (hb hby at_108) rfl k)))))))))) ?_
       show own_Fin p e below (s₁.setTop (mkF m 110 #[.val (.long p0), .second, .val (.int p1), .val (.int p2), .val (.int p3), .val (.long ((p0 &&& (9223372036854775807 : Int64)) - ((p0 &&& (9223372036854775807 : Int64)) / (1000000000000000000 : Int64)) * (1000000000000000000 : Int64))), .second, .val (.int ((p1 &&& (2147483647 : Int32)) % (20 : Int32))), .val (.int 0), .val (.int 1), .val (.int 1), .val (.int (p3 &&& (1 : Int32))), .unset, .unset, .unset, .unset, .unset, .unset] [(.int p3)])) _
       refine own_go (fun _ k => XS.iconst X0.here hx rfl (hb hby at_110) (XS.iushr X0.here hx rfl (hb hby at_111) rfl (XS.sipush X0.here hx rfl (hb hby at_112) (XS.iand X0.here hx rfl (hb hby at_115) rfl (XS.i2c X0.here hx rfl (hb hby at_116) rfl (XS.istore X0.here hx rfl (hb hby at_117) rfl (l' := #[.val (.long p0), .second, .val (.int p1), .val (.int p2), .val (.int p3), .val (.long ((p0 &&& (9223372036854775807 : Int64)) - ((p0 &&& (9223372036854775807 : Int64)) / (1000000000000000000 : Int64)) * (1000000000000000000 : Int64))), .second, .val (.int ((p1 &&& (2147483647 : Int32)) % (20 : Int32))), .val (.int 0), .val (.int 1), .val (.int 1), .val (.int (p3 &&& (1 : Int32))), .val (.int ((((p3.toUInt32 >>> ((1 : Int32) &&& 31).toUInt32).toInt32) &&& (255 : Int32)).toUInt32.toUInt16.toUInt32.toInt32)), .unset, .unset, .unset, .unset, .unset]) rfl (XS.iload X0.here hx rfl (hb hby at_119) rfl (XS.bipush X0.here hx rfl (hb hby at_121) (XS.iadd X0.here hx rfl (hb hby at_123) rfl (XS.iload X0.here hx rfl (hb hby at_124) rfl k)))))))))) ?_
       show own_Fin p e below (s₁.setTop (mkF m 126 #[.val (.long p0), .second, .val (.int p1), .val (.int p2), .val (.int p3), .val (.long ((p0 &&& (9223372036854775807 : Int64)) - ((p0 &&& (9223372036854775807 : Int64)) / (1000000000000000000 : Int64)) * (1000000000000000000 : Int64))), .second, .val (.int ((p1 &&& (2147483647 : Int32)) % (20 : Int32))), .val (.int 0), .val (.int 1), .val (.int 1), .val (.int (p3 &&& (1 : Int32))), .val (.int ((((p3.toUInt32 >>> ((1 : Int32) &&& 31).toUInt32).toInt32) &&& (255 : Int32)).toUInt32.toUInt16.toUInt32.toInt32)), .unset, .unset, .unset, .unset, .unset] [(.int 0), (.int 19)])) _
       refine own_go (fun _ k => XS.ifYes X0.here hx rfl (pc0 := 126) (pc' := 133) rfl (hb hby at_126) rfl ((if0 _ _).trans (teq (by decide : (0 : Int32) = (0 : Int32))).1) (by decide) (by decide) (XS.iconst X0.here hx rfl (hb hby at_133) (XS.iadd X0.here hx rfl (hb hby at_134) rfl (XS.iload X0.here hx rfl (hb hby at_135) rfl (XS.iadd X0.here hx rfl (hb hby at_137) rfl (XS.istore X0.here hx rfl (hb hby at_138) rfl (l' := #[.val (.long p0), .second, .val (.int p1), .val (.int p2), .val (.int p3), .val (.long ((p0 &&& (9223372036854775807 : Int64)) - ((p0 &&& (9223372036854775807 : Int64)) / (1000000000000000000 : Int64)) * (1000000000000000000 : Int64))), .second, .val (.int ((p1 &&& (2147483647 : Int32)) % (20 : Int32))), .val (.int 0), .val (.int 1), .val (.int 1), .val (.int (p3 &&& (1 : Int32))), .val (.int ((((p3.toUInt32 >>> ((1 : Int32) &&& 31).toUInt32).toInt32) &&& (255 : Int32)).toUInt32.toUInt16.toUInt32.toInt32)), .val (.int 20), .unset, .unset, .unset, .unset]) rfl k)))))) ?_
       show own_Fin p e below (s₁.setTop (mkF m 140 #[.val (.long p0), .second, .val (.int p1), .val (.int p2), .val (.int p3), .val (.long ((p0 &&& (9223372036854775807 : Int64)) - ((p0 &&& (9223372036854775807 : Int64)) / (1000000000000000000 : Int64)) * (1000000000000000000 : Int64))), .second, .val (.int ((p1 &&& (2147483647 : Int32)) % (20 : Int32))), .val (.int 0), .val (.int 1), .val (.int 1), .val (.int (p3 &&& (1 : Int32))), .val (.int ((((p3.toUInt32 >>> ((1 : Int32) &&& 31).toUInt32).toInt32) &&& (255 : Int32)).toUInt32.toUInt16.toUInt32.toInt32)), .val (.int 20), .unset, .unset, .unset, .unset] [])) _
       exact main _ _ _ _ _ _ _ _ (own_hl260 p0 p1 p2 p3 hc24_217 hc38_218 hc49_238 hc65_258 hc91_259)
      ·refine own_go (fun _ k => XS.icmpYes X0.here hx rfl (pc0 := 91) (pc' := 102) rfl (hb hby at_91) rfl (feq hc91_259).2 (by decide) (by decide) (XS.iload X0.here hx rfl (hb hby at_102) rfl (XS.iconst X0.here hx rfl (hb hby at_104) (XS.iand X0.here hx rfl (hb hby at_105) rfl (XS.istore X0.here hx rfl (hb hby at_106) rfl (l' := #[.val (.long p0), .second, .val (.int p1), .val (.int p2), .val (.int p3), .val (.long ((p0 &&& (9223372036854775807 : Int64)) - ((p0 &&& (9223372036854775807 : Int64)) / (1000000000000000000 : Int64)) * (1000000000000000000 : Int64))), .second, .val (.int ((p1 &&& (2147483647 : Int32)) % (20 : Int32))), .val (.int 0), .val (.int 1), .val (.int 0), .val (.int (p3 &&& (1 : Int32))), .unset, .unset, .unset, .unset, .unset, .unset]) rfl (XS.iload X0.here hx rfl (hb hby at_108) rfl (XS.iconst X0.here hx rfl (hb hby at_110) (XS.iushr X0.here hx rfl (hb hby at_111) rfl (XS.sipush X0.here hx rfl (hb hby at_112) (XS.iand X0.here hx rfl (hb hby at_115) rfl k)))))))))) ?_
       show own_Fin p e below (s₁.setTop (mkF m 116 #[.val (.long p0), .second, .val (.int p1), .val (.int p2), .val (.int p3), .val (.long ((p0 &&& (9223372036854775807 : Int64)) - ((p0 &&& (9223372036854775807 : Int64)) / (1000000000000000000 : Int64)) * (1000000000000000000 : Int64))), .second, .val (.int ((p1 &&& (2147483647 : Int32)) % (20 : Int32))), .val (.int 0), .val (.int 1), .val (.int 0), .val (.int (p3 &&& (1 : Int32))), .unset, .unset, .unset, .unset, .unset, .unset] [(.int (((p3.toUInt32 >>> ((1 : Int32) &&& 31).toUInt32).toInt32) &&& (255 : Int32)))])) _
       refine own_go (fun _ k => XS.i2c X0.here hx rfl (hb hby at_116) rfl (XS.istore X0.here hx rfl (hb hby at_117) rfl (l' := #[.val (.long p0), .second, .val (.int p1), .val (.int p2), .val (.int p3), .val (.long ((p0 &&& (9223372036854775807 : Int64)) - ((p0 &&& (9223372036854775807 : Int64)) / (1000000000000000000 : Int64)) * (1000000000000000000 : Int64))), .second, .val (.int ((p1 &&& (2147483647 : Int32)) % (20 : Int32))), .val (.int 0), .val (.int 1), .val (.int 0), .val (.int (p3 &&& (1 : Int32))), .val (.int ((((p3.toUInt32 >>> ((1 : Int32) &&& 31).toUInt32).toInt32) &&& (255 : Int32)).toUInt32.toUInt16.toUInt32.toInt32)), .unset, .unset, .unset, .unset, .unset]) rfl (XS.iload X0.here hx rfl (hb hby at_119) rfl (XS.bipush X0.here hx rfl (hb hby at_121) (XS.iadd X0.here hx rfl (hb hby at_123) rfl (XS.iload X0.here hx rfl (hb hby at_124) rfl (XS.ifYes X0.here hx rfl (pc0 := 126) (pc' := 133) rfl (hb hby at_126) rfl ((if0 _ _).trans (teq (by decide : (0 : Int32) = (0 : Int32))).1) (by decide) (by decide) (XS.iconst X0.here hx rfl (hb hby at_133) (XS.iadd X0.here hx rfl (hb hby at_134) rfl (XS.iload X0.here hx rfl (hb hby at_135) rfl k)))))))))) ?_
       show own_Fin p e below (s₁.setTop (mkF m 137 #[.val (.long p0), .second, .val (.int p1), .val (.int p2), .val (.int p3), .val (.long ((p0 &&& (9223372036854775807 : Int64)) - ((p0 &&& (9223372036854775807 : Int64)) / (1000000000000000000 : Int64)) * (1000000000000000000 : Int64))), .second, .val (.int ((p1 &&& (2147483647 : Int32)) % (20 : Int32))), .val (.int 0), .val (.int 1), .val (.int 0), .val (.int (p3 &&& (1 : Int32))), .val (.int ((((p3.toUInt32 >>> ((1 : Int32) &&& 31).toUInt32).toInt32) &&& (255 : Int32)).toUInt32.toUInt16.toUInt32.toInt32)), .unset, .unset, .unset, .unset, .unset] [(.int 0), (.int 19)])) _
       refine own_go (fun _ k => XS.iadd X0.here hx rfl (hb hby at_137) rfl (XS.istore X0.here hx rfl (hb hby at_138) rfl (l' := #[.val (.long p0), .second, .val (.int p1), .val (.int p2), .val (.int p3), .val (.long ((p0 &&& (9223372036854775807 : Int64)) - ((p0 &&& (9223372036854775807 : Int64)) / (1000000000000000000 : Int64)) * (1000000000000000000 : Int64))), .second, .val (.int ((p1 &&& (2147483647 : Int32)) % (20 : Int32))), .val (.int 0), .val (.int 1), .val (.int 0), .val (.int (p3 &&& (1 : Int32))), .val (.int ((((p3.toUInt32 >>> ((1 : Int32) &&& 31).toUInt32).toInt32) &&& (255 : Int32)).toUInt32.toUInt16.toUInt32.toInt32)), .val (.int 19), .unset, .unset, .unset, .unset]) rfl k)) ?_
       show own_Fin p e below (s₁.setTop (mkF m 140 #[.val (.long p0), .second, .val (.int p1), .val (.int p2), .val (.int p3), .val (.long ((p0 &&& (9223372036854775807 : Int64)) - ((p0 &&& (9223372036854775807 : Int64)) / (1000000000000000000 : Int64)) * (1000000000000000000 : Int64))), .second, .val (.int ((p1 &&& (2147483647 : Int32)) % (20 : Int32))), .val (.int 0), .val (.int 1), .val (.int 0), .val (.int (p3 &&& (1 : Int32))), .val (.int ((((p3.toUInt32 >>> ((1 : Int32) &&& 31).toUInt32).toInt32) &&& (255 : Int32)).toUInt32.toUInt16.toUInt32.toInt32)), .val (.int 19), .unset, .unset, .unset, .unset] [])) _
       exact main _ _ _ _ _ _ _ _ (own_hl261 p0 p1 p2 p3 hc24_217 hc38_218 hc49_238 hc65_258 hc91_259)
     ·refine own_go (fun _ k => XS.ifYes X0.here hx rfl (pc0 := 65) (pc' := 71) rfl (hb hby at_65) rfl ((if0 _ _).trans (feq hc65_258).2) (by decide) (by decide) (XS.iload X0.here hx rfl (hb hby at_71) rfl (XS.ifYes X0.here hx rfl (pc0 := 73) (pc' := 84) rfl (hb hby at_73) rfl ((if0 _ _).trans (teq (by decide : (0 : Int32) = (0 : Int32))).1) (by decide) (by decide) (XS.iconst X0.here hx rfl (hb hby at_84) (XS.istore X0.here hx rfl (hb hby at_85) rfl (l' := #[.val (.long p0), .second, .val (.int p1), .val (.int p2), .val (.int p3), .val (.long ((p0 &&& (9223372036854775807 : Int64)) - ((p0 &&& (9223372036854775807 : Int64)) / (1000000000000000000 : Int64)) * (1000000000000000000 : Int64))), .second, .val (.int ((p1 &&& (2147483647 : Int32)) % (20 : Int32))), .val (.int 0), .val (.int (p2 &&& (1 : Int32))), .val (.int 0), .unset, .unset, .unset, .unset, .unset, .unset, .unset]) rfl (XS.iload X0.here hx rfl (hb hby at_87) rfl (XS.bipush X0.here hx rfl (hb hby at_89) k))))))) ?_
      show own_Fin p e below (s₁.setTop (mkF m 91 #[.val (.long p0), .second, .val (.int p1), .val (.int p2), .val (.int p3), .val (.long ((p0 &&& (9223372036854775807 : Int64)) - ((p0 &&& (9223372036854775807 : Int64)) / (1000000000000000000 : Int64)) * (1000000000000000000 : Int64))), .second, .val (.int ((p1 &&& (2147483647 : Int32)) % (20 : Int32))), .val (.int 0), .val (.int (p2 &&& (1 : Int32))), .val (.int 0), .unset, .unset, .unset, .unset, .unset, .unset, .unset] [(.int 18), (.int ((p1 &&& (2147483647 : Int32)) % (20 : Int32)))])) _
      by_cases hc91_262 : ((p1 &&& (2147483647 : Int32)) % (20 : Int32)) = (18 : Int32)
      ·refine own_go (fun _ k => XS.icmpNo X0.here hx rfl (hb hby at_91) rfl (teq hc91_262).2 (XS.iload X0.here hx rfl (hb hby at_94) rfl (XS.ifNo X0.here hx rfl (hb hby at_96) rfl ((if0 _ _).trans (teq (by decide : (0 : Int32) = (0 : Int32))).2) (XS.iconst X0.here hx rfl (hb hby at_99) (XS.istore X0.here hx rfl (hb hby at_100) rfl (l' := #[.val (.long p0), .second, .val (.int p1), .val (.int p2), .val (.int p3), .val (.long ((p0 &&& (9223372036854775807 : Int64)) - ((p0 &&& (9223372036854775807 : Int64)) / (1000000000000000000 : Int64)) * (1000000000000000000 : Int64))), .second, .val (.int ((p1 &&& (2147483647 : Int32)) % (20 : Int32))), .val (.int 0), .val (.int (p2 &&& (1 : Int32))), .val (.int 1), .unset, .unset, .unset, .unset, .unset, .unset, .unset]) rfl (XS.iload X0.here hx rfl (hb hby at_102) rfl (XS.iconst X0.here hx rfl (hb hby at_104) (XS.iand X0.here hx rfl (hb hby at_105) rfl (XS.istore X0.here hx rfl (hb hby at_106) rfl (l' := #[.val (.long p0), .second, .val (.int p1), .val (.int p2), .val (.int p3), .val (.long ((p0 &&& (9223372036854775807 : Int64)) - ((p0 &&& (9223372036854775807 : Int64)) / (1000000000000000000 : Int64)) * (1000000000000000000 : Int64))), .second, .val (.int ((p1 &&& (2147483647 : Int32)) % (20 : Int32))), .val (.int 0), .val (.int (p2 &&& (1 : Int32))), .val (.int 1), .val (.int (p3 &&& (1 : Int32))), .unset, .unset, .unset, .unset, .unset, .unset]) rfl (XS.iload X0.here hx rfl (hb hby at_108) rfl k)))))))))) ?_
       show own_Fin p e below (s₁.setTop (mkF m 110 #[.val (.long p0), .second, .val (.int p1), .val (.int p2), .val (.int p3), .val (.long ((p0 &&& (9223372036854775807 : Int64)) - ((p0 &&& (9223372036854775807 : Int64)) / (1000000000000000000 : Int64)) * (1000000000000000000 : Int64))), .second, .val (.int ((p1 &&& (2147483647 : Int32)) % (20 : Int32))), .val (.int 0), .val (.int (p2 &&& (1 : Int32))), .val (.int 1), .val (.int (p3 &&& (1 : Int32))), .unset, .unset, .unset, .unset, .unset, .unset] [(.int p3)])) _
       refine own_go (fun _ k => XS.iconst X0.here hx rfl (hb hby at_110) (XS.iushr X0.here hx rfl (hb hby at_111) rfl (XS.sipush X0.here hx rfl (hb hby at_112) (XS.iand X0.here hx rfl (hb hby at_115) rfl (XS.i2c X0.here hx rfl (hb hby at_116) rfl (XS.istore X0.here hx rfl (hb hby at_117) rfl (l' := #[.val (.long p0), .second, .val (.int p1), .val (.int p2), .val (.int p3), .val (.long ((p0 &&& (9223372036854775807 : Int64)) - ((p0 &&& (9223372036854775807 : Int64)) / (1000000000000000000 : Int64)) * (1000000000000000000 : Int64))), .second, .val (.int ((p1 &&& (2147483647 : Int32)) % (20 : Int32))), .val (.int 0), .val (.int (p2 &&& (1 : Int32))), .val (.int 1), .val (.int (p3 &&& (1 : Int32))), .val (.int ((((p3.toUInt32 >>> ((1 : Int32) &&& 31).toUInt32).toInt32) &&& (255 : Int32)).toUInt32.toUInt16.toUInt32.toInt32)), .unset, .unset, .unset, .unset, .unset]) rfl (XS.iload X0.here hx rfl (hb hby at_119) rfl (XS.bipush X0.here hx rfl (hb hby at_121) (XS.iadd X0.here hx rfl (hb hby at_123) rfl (XS.iload X0.here hx rfl (hb hby at_124) rfl k)))))))))) ?_
       show own_Fin p e below (s₁.setTop (mkF m 126 #[.val (.long p0), .second, .val (.int p1), .val (.int p2), .val (.int p3), .val (.long ((p0 &&& (9223372036854775807 : Int64)) - ((p0 &&& (9223372036854775807 : Int64)) / (1000000000000000000 : Int64)) * (1000000000000000000 : Int64))), .second, .val (.int ((p1 &&& (2147483647 : Int32)) % (20 : Int32))), .val (.int 0), .val (.int (p2 &&& (1 : Int32))), .val (.int 1), .val (.int (p3 &&& (1 : Int32))), .val (.int ((((p3.toUInt32 >>> ((1 : Int32) &&& 31).toUInt32).toInt32) &&& (255 : Int32)).toUInt32.toUInt16.toUInt32.toInt32)), .unset, .unset, .unset, .unset, .unset] [(.int 0), (.int ((p2 &&& (1 : Int32)) + (18 : Int32)))])) _
       refine own_go (fun _ k => XS.ifYes X0.here hx rfl (pc0 := 126) (pc' := 133) rfl (hb hby at_126) rfl ((if0 _ _).trans (teq (by decide : (0 : Int32) = (0 : Int32))).1) (by decide) (by decide) (XS.iconst X0.here hx rfl (hb hby at_133) (XS.iadd X0.here hx rfl (hb hby at_134) rfl (XS.iload X0.here hx rfl (hb hby at_135) rfl (XS.iadd X0.here hx rfl (hb hby at_137) rfl (XS.istore X0.here hx rfl (hb hby at_138) rfl (l' := #[.val (.long p0), .second, .val (.int p1), .val (.int p2), .val (.int p3), .val (.long ((p0 &&& (9223372036854775807 : Int64)) - ((p0 &&& (9223372036854775807 : Int64)) / (1000000000000000000 : Int64)) * (1000000000000000000 : Int64))), .second, .val (.int ((p1 &&& (2147483647 : Int32)) % (20 : Int32))), .val (.int 0), .val (.int (p2 &&& (1 : Int32))), .val (.int 1), .val (.int (p3 &&& (1 : Int32))), .val (.int ((((p3.toUInt32 >>> ((1 : Int32) &&& 31).toUInt32).toInt32) &&& (255 : Int32)).toUInt32.toUInt16.toUInt32.toInt32)), .val (.int ((((p2 &&& (1 : Int32)) + (18 : Int32)) + (0 : Int32)) + (1 : Int32))), .unset, .unset, .unset, .unset]) rfl k)))))) ?_
       show own_Fin p e below (s₁.setTop (mkF m 140 #[.val (.long p0), .second, .val (.int p1), .val (.int p2), .val (.int p3), .val (.long ((p0 &&& (9223372036854775807 : Int64)) - ((p0 &&& (9223372036854775807 : Int64)) / (1000000000000000000 : Int64)) * (1000000000000000000 : Int64))), .second, .val (.int ((p1 &&& (2147483647 : Int32)) % (20 : Int32))), .val (.int 0), .val (.int (p2 &&& (1 : Int32))), .val (.int 1), .val (.int (p3 &&& (1 : Int32))), .val (.int ((((p3.toUInt32 >>> ((1 : Int32) &&& 31).toUInt32).toInt32) &&& (255 : Int32)).toUInt32.toUInt16.toUInt32.toInt32)), .val (.int ((((p2 &&& (1 : Int32)) + (18 : Int32)) + (0 : Int32)) + (1 : Int32))), .unset, .unset, .unset, .unset] [])) _
       exact main _ _ _ _ _ _ _ _ (own_hl263 p0 p1 p2 p3 hc24_217 hc38_218 hc49_238 hc65_258 hc91_262)
      ·refine own_go (fun _ k => XS.icmpYes X0.here hx rfl (pc0 := 91) (pc' := 102) rfl (hb hby at_91) rfl (feq hc91_262).2 (by decide) (by decide) (XS.iload X0.here hx rfl (hb hby at_102) rfl (XS.iconst X0.here hx rfl (hb hby at_104) (XS.iand X0.here hx rfl (hb hby at_105) rfl (XS.istore X0.here hx rfl (hb hby at_106) rfl (l' := #[.val (.long p0), .second, .val (.int p1), .val (.int p2), .val (.int p3), .val (.long ((p0 &&& (9223372036854775807 : Int64)) - ((p0 &&& (9223372036854775807 : Int64)) / (1000000000000000000 : Int64)) * (1000000000000000000 : Int64))), .second, .val (.int ((p1 &&& (2147483647 : Int32)) % (20 : Int32))), .val (.int 0), .val (.int (p2 &&& (1 : Int32))), .val (.int 0), .val (.int (p3 &&& (1 : Int32))), .unset, .unset, .unset, .unset, .unset, .unset]) rfl (XS.iload X0.here hx rfl (hb hby at_108) rfl (XS.iconst X0.here hx rfl (hb hby at_110) (XS.iushr X0.here hx rfl (hb hby at_111) rfl (XS.sipush X0.here hx rfl (hb hby at_112) (XS.iand X0.here hx rfl (hb hby at_115) rfl k)))))))))) ?_
       show own_Fin p e below (s₁.setTop (mkF m 116 #[.val (.long p0), .second, .val (.int p1), .val (.int p2), .val (.int p3), .val (.long ((p0 &&& (9223372036854775807 : Int64)) - ((p0 &&& (9223372036854775807 : Int64)) / (1000000000000000000 : Int64)) * (1000000000000000000 : Int64))), .second, .val (.int ((p1 &&& (2147483647 : Int32)) % (20 : Int32))), .val (.int 0), .val (.int (p2 &&& (1 : Int32))), .val (.int 0), .val (.int (p3 &&& (1 : Int32))), .unset, .unset, .unset, .unset, .unset, .unset] [(.int (((p3.toUInt32 >>> ((1 : Int32) &&& 31).toUInt32).toInt32) &&& (255 : Int32)))])) _
       refine own_go (fun _ k => XS.i2c X0.here hx rfl (hb hby at_116) rfl (XS.istore X0.here hx rfl (hb hby at_117) rfl (l' := #[.val (.long p0), .second, .val (.int p1), .val (.int p2), .val (.int p3), .val (.long ((p0 &&& (9223372036854775807 : Int64)) - ((p0 &&& (9223372036854775807 : Int64)) / (1000000000000000000 : Int64)) * (1000000000000000000 : Int64))), .second, .val (.int ((p1 &&& (2147483647 : Int32)) % (20 : Int32))), .val (.int 0), .val (.int (p2 &&& (1 : Int32))), .val (.int 0), .val (.int (p3 &&& (1 : Int32))), .val (.int ((((p3.toUInt32 >>> ((1 : Int32) &&& 31).toUInt32).toInt32) &&& (255 : Int32)).toUInt32.toUInt16.toUInt32.toInt32)), .unset, .unset, .unset, .unset, .unset]) rfl (XS.iload X0.here hx rfl (hb hby at_119) rfl (XS.bipush X0.here hx rfl (hb hby at_121) (XS.iadd X0.here hx rfl (hb hby at_123) rfl (XS.iload X0.here hx rfl (hb hby at_124) rfl (XS.ifYes X0.here hx rfl (pc0 := 126) (pc' := 133) rfl (hb hby at_126) rfl ((if0 _ _).trans (teq (by decide : (0 : Int32) = (0 : Int32))).1) (by decide) (by decide) (XS.iconst X0.here hx rfl (hb hby at_133) (XS.iadd X0.here hx rfl (hb hby at_134) rfl (XS.iload X0.here hx rfl (hb hby at_135) rfl k)))))))))) ?_
       show own_Fin p e below (s₁.setTop (mkF m 137 #[.val (.long p0), .second, .val (.int p1), .val (.int p2), .val (.int p3), .val (.long ((p0 &&& (9223372036854775807 : Int64)) - ((p0 &&& (9223372036854775807 : Int64)) / (1000000000000000000 : Int64)) * (1000000000000000000 : Int64))), .second, .val (.int ((p1 &&& (2147483647 : Int32)) % (20 : Int32))), .val (.int 0), .val (.int (p2 &&& (1 : Int32))), .val (.int 0), .val (.int (p3 &&& (1 : Int32))), .val (.int ((((p3.toUInt32 >>> ((1 : Int32) &&& 31).toUInt32).toInt32) &&& (255 : Int32)).toUInt32.toUInt16.toUInt32.toInt32)), .unset, .unset, .unset, .unset, .unset] [(.int 0), (.int (((p2 &&& (1 : Int32)) + (18 : Int32)) + (0 : Int32)))])) _
       refine own_go (fun _ k => XS.iadd X0.here hx rfl (hb hby at_137) rfl (XS.istore X0.here hx rfl (hb hby at_138) rfl (l' := #[.val (.long p0), .second, .val (.int p1), .val (.int p2), .val (.int p3), .val (.long ((p0 &&& (9223372036854775807 : Int64)) - ((p0 &&& (9223372036854775807 : Int64)) / (1000000000000000000 : Int64)) * (1000000000000000000 : Int64))), .second, .val (.int ((p1 &&& (2147483647 : Int32)) % (20 : Int32))), .val (.int 0), .val (.int (p2 &&& (1 : Int32))), .val (.int 0), .val (.int (p3 &&& (1 : Int32))), .val (.int ((((p3.toUInt32 >>> ((1 : Int32) &&& 31).toUInt32).toInt32) &&& (255 : Int32)).toUInt32.toUInt16.toUInt32.toInt32)), .val (.int ((((p2 &&& (1 : Int32)) + (18 : Int32)) + (0 : Int32)) + (0 : Int32))), .unset, .unset, .unset, .unset]) rfl k)) ?_
       show own_Fin p e below (s₁.setTop (mkF m 140 #[.val (.long p0), .second, .val (.int p1), .val (.int p2), .val (.int p3), .val (.long ((p0 &&& (9223372036854775807 : Int64)) - ((p0 &&& (9223372036854775807 : Int64)) / (1000000000000000000 : Int64)) * (1000000000000000000 : Int64))), .second, .val (.int ((p1 &&& (2147483647 : Int32)) % (20 : Int32))), .val (.int 0), .val (.int (p2 &&& (1 : Int32))), .val (.int 0), .val (.int (p3 &&& (1 : Int32))), .val (.int ((((p3.toUInt32 >>> ((1 : Int32) &&& 31).toUInt32).toInt32) &&& (255 : Int32)).toUInt32.toUInt16.toUInt32.toInt32)), .val (.int ((((p2 &&& (1 : Int32)) + (18 : Int32)) + (0 : Int32)) + (0 : Int32))), .unset, .unset, .unset, .unset] [])) _
       exact main _ _ _ _ _ _ _ _ (own_hl270 p0 p1 p2 p3 hc24_217 hc38_218 hc49_238 hc65_258 hc91_262)
  ·refine own_go (fun _ k => XS.icmpNo X0.here hx rfl (hb hby at_24) rfl (flt hc24_217).2.2.1 (XS.iconst X0.here hx rfl (hb hby at_27) (XS.goto X0.here hx rfl (pc0 := 28) (pc' := 32) rfl (hb hby at_28) (by decide) (by decide) (XS.istore X0.here hx rfl (hb hby at_32) rfl (l' := #[.val (.long p0), .second, .val (.int p1), .val (.int p2), .val (.int p3), .val (.long ((p0 &&& (9223372036854775807 : Int64)) - ((p0 &&& (9223372036854775807 : Int64)) / (1000000000000000000 : Int64)) * (1000000000000000000 : Int64))), .second, .val (.int ((p1 &&& (2147483647 : Int32)) % (20 : Int32))), .val (.int 1), .unset, .unset, .unset, .unset, .unset, .unset, .unset, .unset, .unset]) rfl (XS.iload X0.here hx rfl (hb hby at_34) rfl (XS.bipush X0.here hx rfl (hb hby at_36) k)))))) ?_
   show own_Fin p e below (s₁.setTop (mkF m 38 #[.val (.long p0), .second, .val (.int p1), .val (.int p2), .val (.int p3), .val (.long ((p0 &&& (9223372036854775807 : Int64)) - ((p0 &&& (9223372036854775807 : Int64)) / (1000000000000000000 : Int64)) * (1000000000000000000 : Int64))), .second, .val (.int ((p1 &&& (2147483647 : Int32)) % (20 : Int32))), .val (.int 1), .unset, .unset, .unset, .unset, .unset, .unset, .unset, .unset, .unset] [(.int 17), (.int ((p1 &&& (2147483647 : Int32)) % (20 : Int32)))])) _
   by_cases hc38_277 : (17 : Int32) < ((p1 &&& (2147483647 : Int32)) % (20 : Int32))
   ·refine own_go (fun _ k => XS.icmpYes X0.here hx rfl (pc0 := 38) (pc' := 58) rfl (hb hby at_38) rfl (tlt hc38_277).2.2.1 (by decide) (by decide) (XS.iloadN X0.here hx rfl (hb hby at_58) rfl (XS.iconst X0.here hx rfl (hb hby at_59) (XS.iand X0.here hx rfl (hb hby at_60) rfl (XS.istore X0.here hx rfl (hb hby at_61) rfl (l' := #[.val (.long p0), .second, .val (.int p1), .val (.int p2), .val (.int p3), .val (.long ((p0 &&& (9223372036854775807 : Int64)) - ((p0 &&& (9223372036854775807 : Int64)) / (1000000000000000000 : Int64)) * (1000000000000000000 : Int64))), .second, .val (.int ((p1 &&& (2147483647 : Int32)) % (20 : Int32))), .val (.int 1), .val (.int (p2 &&& (1 : Int32))), .unset, .unset, .unset, .unset, .unset, .unset, .unset, .unset]) rfl (XS.iload X0.here hx rfl (hb hby at_63) rfl k)))))) ?_
    show own_Fin p e below (s₁.setTop (mkF m 65 #[.val (.long p0), .second, .val (.int p1), .val (.int p2), .val (.int p3), .val (.long ((p0 &&& (9223372036854775807 : Int64)) - ((p0 &&& (9223372036854775807 : Int64)) / (1000000000000000000 : Int64)) * (1000000000000000000 : Int64))), .second, .val (.int ((p1 &&& (2147483647 : Int32)) % (20 : Int32))), .val (.int 1), .val (.int (p2 &&& (1 : Int32))), .unset, .unset, .unset, .unset, .unset, .unset, .unset, .unset] [(.int ((p1 &&& (2147483647 : Int32)) % (20 : Int32)))])) _
    by_cases hc65_278 : ((p1 &&& (2147483647 : Int32)) % (20 : Int32)) = (0 : Int32)
    ·refine own_go (fun _ k => XS.ifNo X0.here hx rfl (hb hby at_65) rfl ((if0 _ _).trans (teq hc65_278).2) (XS.iconst X0.here hx rfl (hb hby at_68) (XS.istore X0.here hx rfl (hb hby at_69) rfl (l' := #[.val (.long p0), .second, .val (.int p1), .val (.int p2), .val (.int p3), .val (.long ((p0 &&& (9223372036854775807 : Int64)) - ((p0 &&& (9223372036854775807 : Int64)) / (1000000000000000000 : Int64)) * (1000000000000000000 : Int64))), .second, .val (.int ((p1 &&& (2147483647 : Int32)) % (20 : Int32))), .val (.int 1), .val (.int 1), .unset, .unset, .unset, .unset, .unset, .unset, .unset, .unset]) rfl (XS.iload X0.here hx rfl (hb hby at_71) rfl (XS.ifNo X0.here hx rfl (hb hby at_73) rfl ((if0 _ _).trans (feq (by decide : ¬ ((1 : Int32) = (0 : Int32)))).1) (XS.iloadN X0.here hx rfl (hb hby at_76) rfl (XS.iconst X0.here hx rfl (hb hby at_77) (XS.iushr X0.here hx rfl (hb hby at_78) rfl (XS.iconst X0.here hx rfl (hb hby at_79) (iremM X0 hx rfl (hb hby at_80) rfl (by decide) k)))))))))) ?_
     show own_Fin p e below (s₁.setTop (mkF m 81 #[.val (.long p0), .second, .val (.int p1), .val (.int p2), .val (.int p3), .val (.long ((p0 &&& (9223372036854775807 : Int64)) - ((p0 &&& (9223372036854775807 : Int64)) / (1000000000000000000 : Int64)) * (1000000000000000000 : Int64))), .second, .val (.int ((p1 &&& (2147483647 : Int32)) % (20 : Int32))), .val (.int 1), .val (.int 1), .unset, .unset, .unset, .unset, .unset, .unset, .unset, .unset] [(.int (((p2.toUInt32 >>> ((1 : Int32) &&& 31).toUInt32).toInt32) % (3 : Int32)))])) _
     refine own_go (fun _ k => XS.goto X0.here hx rfl (pc0 := 81) (pc' := 85) rfl (hb hby at_81) (by decide) (by decide) (XS.istore X0.here hx rfl (hb hby at_85) rfl (l' := #[.val (.long p0), .second, .val (.int p1), .val (.int p2), .val (.int p3), .val (.long ((p0 &&& (9223372036854775807 : Int64)) - ((p0 &&& (9223372036854775807 : Int64)) / (1000000000000000000 : Int64)) * (1000000000000000000 : Int64))), .second, .val (.int ((p1 &&& (2147483647 : Int32)) % (20 : Int32))), .val (.int 1), .val (.int 1), .val (.int (((p2.toUInt32 >>> ((1 : Int32) &&& 31).toUInt32).toInt32) % (3 : Int32))), .unset, .unset, .unset, .unset, .unset, .unset, .unset]) rfl (XS.iload X0.here hx rfl (hb hby at_87) rfl (XS.bipush X0.here hx rfl (hb hby at_89) k)))) ?_
     show own_Fin p e below (s₁.setTop (mkF m 91 #[.val (.long p0), .second, .val (.int p1), .val (.int p2), .val (.int p3), .val (.long ((p0 &&& (9223372036854775807 : Int64)) - ((p0 &&& (9223372036854775807 : Int64)) / (1000000000000000000 : Int64)) * (1000000000000000000 : Int64))), .second, .val (.int ((p1 &&& (2147483647 : Int32)) % (20 : Int32))), .val (.int 1), .val (.int 1), .val (.int (((p2.toUInt32 >>> ((1 : Int32) &&& 31).toUInt32).toInt32) % (3 : Int32))), .unset, .unset, .unset, .unset, .unset, .unset, .unset] [(.int 18), (.int ((p1 &&& (2147483647 : Int32)) % (20 : Int32)))])) _
     by_cases hc91_279 : ((p1 &&& (2147483647 : Int32)) % (20 : Int32)) = (18 : Int32)
     ·refine own_go (fun _ k => XS.icmpNo X0.here hx rfl (hb hby at_91) rfl (teq hc91_279).2 (XS.iload X0.here hx rfl (hb hby at_94) rfl k)) ?_
      show own_Fin p e below (s₁.setTop (mkF m 96 #[.val (.long p0), .second, .val (.int p1), .val (.int p2), .val (.int p3), .val (.long ((p0 &&& (9223372036854775807 : Int64)) - ((p0 &&& (9223372036854775807 : Int64)) / (1000000000000000000 : Int64)) * (1000000000000000000 : Int64))), .second, .val (.int ((p1 &&& (2147483647 : Int32)) % (20 : Int32))), .val (.int 1), .val (.int 1), .val (.int (((p2.toUInt32 >>> ((1 : Int32) &&& 31).toUInt32).toInt32) % (3 : Int32))), .unset, .unset, .unset, .unset, .unset, .unset, .unset] [(.int (((p2.toUInt32 >>> ((1 : Int32) &&& 31).toUInt32).toInt32) % (3 : Int32)))])) _
      by_cases hc96_280 : (((p2.toUInt32 >>> ((1 : Int32) &&& 31).toUInt32).toInt32) % (3 : Int32)) = (0 : Int32)
      ·refine own_go (fun _ k => XS.ifNo X0.here hx rfl (hb hby at_96) rfl ((if0 _ _).trans (teq hc96_280).2) (XS.iconst X0.here hx rfl (hb hby at_99) (XS.istore X0.here hx rfl (hb hby at_100) rfl (l' := #[.val (.long p0), .second, .val (.int p1), .val (.int p2), .val (.int p3), .val (.long ((p0 &&& (9223372036854775807 : Int64)) - ((p0 &&& (9223372036854775807 : Int64)) / (1000000000000000000 : Int64)) * (1000000000000000000 : Int64))), .second, .val (.int ((p1 &&& (2147483647 : Int32)) % (20 : Int32))), .val (.int 1), .val (.int 1), .val (.int 1), .unset, .unset, .unset, .unset, .unset, .unset, .unset]) rfl (XS.iload X0.here hx rfl (hb hby at_102) rfl (XS.iconst X0.here hx rfl (hb hby at_104) (XS.iand X0.here hx rfl (hb hby at_105) rfl (XS.istore X0.here hx rfl (hb hby at_106) rfl (l' := #[.val (.long p0), .second, .val (.int p1), .val (.int p2), .val (.int p3), .val (.long ((p0 &&& (9223372036854775807 : Int64)) - ((p0 &&& (9223372036854775807 : Int64)) / (1000000000000000000 : Int64)) * (1000000000000000000 : Int64))), .second, .val (.int ((p1 &&& (2147483647 : Int32)) % (20 : Int32))), .val (.int 1), .val (.int 1), .val (.int 1), .val (.int (p3 &&& (1 : Int32))), .unset, .unset, .unset, .unset, .unset, .unset]) rfl (XS.iload X0.here hx rfl (hb hby at_108) rfl (XS.iconst X0.here hx rfl (hb hby at_110) (XS.iushr X0.here hx rfl (hb hby at_111) rfl k)))))))))) ?_
       show own_Fin p e below (s₁.setTop (mkF m 112 #[.val (.long p0), .second, .val (.int p1), .val (.int p2), .val (.int p3), .val (.long ((p0 &&& (9223372036854775807 : Int64)) - ((p0 &&& (9223372036854775807 : Int64)) / (1000000000000000000 : Int64)) * (1000000000000000000 : Int64))), .second, .val (.int ((p1 &&& (2147483647 : Int32)) % (20 : Int32))), .val (.int 1), .val (.int 1), .val (.int 1), .val (.int (p3 &&& (1 : Int32))), .unset, .unset, .unset, .unset, .unset, .unset] [(.int ((p3.toUInt32 >>> ((1 : Int32) &&& 31).toUInt32).toInt32))])) _
       refine own_go (fun _ k => XS.sipush X0.here hx rfl (hb hby at_112) (XS.iand X0.here hx rfl (hb hby at_115) rfl (XS.i2c X0.here hx rfl (hb hby at_116) rfl (XS.istore X0.here hx rfl (hb hby at_117) rfl (l' := #[.val (.long p0), .second, .val (.int p1), .val (.int p2), .val (.int p3), .val (.long ((p0 &&& (9223372036854775807 : Int64)) - ((p0 &&& (9223372036854775807 : Int64)) / (1000000000000000000 : Int64)) * (1000000000000000000 : Int64))), .second, .val (.int ((p1 &&& (2147483647 : Int32)) % (20 : Int32))), .val (.int 1), .val (.int 1), .val (.int 1), .val (.int (p3 &&& (1 : Int32))), .val (.int ((((p3.toUInt32 >>> ((1 : Int32) &&& 31).toUInt32).toInt32) &&& (255 : Int32)).toUInt32.toUInt16.toUInt32.toInt32)), .unset, .unset, .unset, .unset, .unset]) rfl (XS.iload X0.here hx rfl (hb hby at_119) rfl (XS.bipush X0.here hx rfl (hb hby at_121) (XS.iadd X0.here hx rfl (hb hby at_123) rfl (XS.iload X0.here hx rfl (hb hby at_124) rfl (XS.ifNo X0.here hx rfl (hb hby at_126) rfl ((if0 _ _).trans (feq (by decide : ¬ ((1 : Int32) = (0 : Int32)))).1) (XS.iconst X0.here hx rfl (hb hby at_129) k)))))))))) ?_
       show own_Fin p e below (s₁.setTop (mkF m 130 #[.val (.long p0), .second, .val (.int p1), .val (.int p2), .val (.int p3), .val (.long ((p0 &&& (9223372036854775807 : Int64)) - ((p0 &&& (9223372036854775807 : Int64)) / (1000000000000000000 : Int64)) * (1000000000000000000 : Int64))), .second, .val (.int ((p1 &&& (2147483647 : Int32)) % (20 : Int32))), .val (.int 1), .val (.int 1), .val (.int 1), .val (.int (p3 &&& (1 : Int32))), .val (.int ((((p3.toUInt32 >>> ((1 : Int32) &&& 31).toUInt32).toInt32) &&& (255 : Int32)).toUInt32.toUInt16.toUInt32.toInt32)), .unset, .unset, .unset, .unset, .unset] [(.int 1), (.int 19)])) _
       refine own_go (fun _ k => XS.goto X0.here hx rfl (pc0 := 130) (pc' := 134) rfl (hb hby at_130) (by decide) (by decide) (XS.iadd X0.here hx rfl (hb hby at_134) rfl (XS.iload X0.here hx rfl (hb hby at_135) rfl (XS.iadd X0.here hx rfl (hb hby at_137) rfl (XS.istore X0.here hx rfl (hb hby at_138) rfl (l' := #[.val (.long p0), .second, .val (.int p1), .val (.int p2), .val (.int p3), .val (.long ((p0 &&& (9223372036854775807 : Int64)) - ((p0 &&& (9223372036854775807 : Int64)) / (1000000000000000000 : Int64)) * (1000000000000000000 : Int64))), .second, .val (.int ((p1 &&& (2147483647 : Int32)) % (20 : Int32))), .val (.int 1), .val (.int 1), .val (.int 1), .val (.int (p3 &&& (1 : Int32))), .val (.int ((((p3.toUInt32 >>> ((1 : Int32) &&& 31).toUInt32).toInt32) &&& (255 : Int32)).toUInt32.toUInt16.toUInt32.toInt32)), .val (.int 21), .unset, .unset, .unset, .unset]) rfl k))))) ?_
       show own_Fin p e below (s₁.setTop (mkF m 140 #[.val (.long p0), .second, .val (.int p1), .val (.int p2), .val (.int p3), .val (.long ((p0 &&& (9223372036854775807 : Int64)) - ((p0 &&& (9223372036854775807 : Int64)) / (1000000000000000000 : Int64)) * (1000000000000000000 : Int64))), .second, .val (.int ((p1 &&& (2147483647 : Int32)) % (20 : Int32))), .val (.int 1), .val (.int 1), .val (.int 1), .val (.int (p3 &&& (1 : Int32))), .val (.int ((((p3.toUInt32 >>> ((1 : Int32) &&& 31).toUInt32).toInt32) &&& (255 : Int32)).toUInt32.toUInt16.toUInt32.toInt32)), .val (.int 21), .unset, .unset, .unset, .unset] [])) _
       exact main _ _ _ _ _ _ _ _ (own_hl281 p0 p1 p2 p3 hc24_217 hc38_277 hc65_278 hc91_279 hc96_280)
      ·refine own_go (fun _ k => XS.ifYes X0.here hx rfl (pc0 := 96) (pc' := 102) rfl (hb hby at_96) rfl ((if0 _ _).trans (feq hc96_280).2) (by decide) (by decide) (XS.iload X0.here hx rfl (hb hby at_102) rfl (XS.iconst X0.here hx rfl (hb hby at_104) (XS.iand X0.here hx rfl (hb hby at_105) rfl (XS.istore X0.here hx rfl (hb hby at_106) rfl (l' := #[.val (.long p0), .second, .val (.int p1), .val (.int p2), .val (.int p3), .val (.long ((p0 &&& (9223372036854775807 : Int64)) - ((p0 &&& (9223372036854775807 : Int64)) / (1000000000000000000 : Int64)) * (1000000000000000000 : Int64))), .second, .val (.int ((p1 &&& (2147483647 : Int32)) % (20 : Int32))), .val (.int 1), .val (.int 1), .val (.int (((p2.toUInt32 >>> ((1 : Int32) &&& 31).toUInt32).toInt32) % (3 : Int32))), .val (.int (p3 &&& (1 : Int32))), .unset, .unset, .unset, .unset, .unset, .unset]) rfl (XS.iload X0.here hx rfl (hb hby at_108) rfl (XS.iconst X0.here hx rfl (hb hby at_110) (XS.iushr X0.here hx rfl (hb hby at_111) rfl (XS.sipush X0.here hx rfl (hb hby at_112) (XS.iand X0.here hx rfl (hb hby at_115) rfl k)))))))))) ?_
       show own_Fin p e below (s₁.setTop (mkF m 116 #[.val (.long p0), .second, .val (.int p1), .val (.int p2), .val (.int p3), .val (.long ((p0 &&& (9223372036854775807 : Int64)) - ((p0 &&& (9223372036854775807 : Int64)) / (1000000000000000000 : Int64)) * (1000000000000000000 : Int64))), .second, .val (.int ((p1 &&& (2147483647 : Int32)) % (20 : Int32))), .val (.int 1), .val (.int 1), .val (.int (((p2.toUInt32 >>> ((1 : Int32) &&& 31).toUInt32).toInt32) % (3 : Int32))), .val (.int (p3 &&& (1 : Int32))), .unset, .unset, .unset, .unset, .unset, .unset] [(.int (((p3.toUInt32 >>> ((1 : Int32) &&& 31).toUInt32).toInt32) &&& (255 : Int32)))])) _
       refine own_go (fun _ k => XS.i2c X0.here hx rfl (hb hby at_116) rfl (XS.istore X0.here hx rfl (hb hby at_117) rfl (l' := #[.val (.long p0), .second, .val (.int p1), .val (.int p2), .val (.int p3), .val (.long ((p0 &&& (9223372036854775807 : Int64)) - ((p0 &&& (9223372036854775807 : Int64)) / (1000000000000000000 : Int64)) * (1000000000000000000 : Int64))), .second, .val (.int ((p1 &&& (2147483647 : Int32)) % (20 : Int32))), .val (.int 1), .val (.int 1), .val (.int (((p2.toUInt32 >>> ((1 : Int32) &&& 31).toUInt32).toInt32) % (3 : Int32))), .val (.int (p3 &&& (1 : Int32))), .val (.int ((((p3.toUInt32 >>> ((1 : Int32) &&& 31).toUInt32).toInt32) &&& (255 : Int32)).toUInt32.toUInt16.toUInt32.toInt32)), .unset, .unset, .unset, .unset, .unset]) rfl (XS.iload X0.here hx rfl (hb hby at_119) rfl (XS.bipush X0.here hx rfl (hb hby at_121) (XS.iadd X0.here hx rfl (hb hby at_123) rfl (XS.iload X0.here hx rfl (hb hby at_124) rfl (XS.ifNo X0.here hx rfl (hb hby at_126) rfl ((if0 _ _).trans (feq (by decide : ¬ ((1 : Int32) = (0 : Int32)))).1) (XS.iconst X0.here hx rfl (hb hby at_129) (XS.goto X0.here hx rfl (pc0 := 130) (pc' := 134) rfl (hb hby at_130) (by decide) (by decide) (XS.iadd X0.here hx rfl (hb hby at_134) rfl k)))))))))) ?_
       show own_Fin p e below (s₁.setTop (mkF m 135 #[.val (.long p0), .second, .val (.int p1), .val (.int p2), .val (.int p3), .val (.long ((p0 &&& (9223372036854775807 : Int64)) - ((p0 &&& (9223372036854775807 : Int64)) / (1000000000000000000 : Int64)) * (1000000000000000000 : Int64))), .second, .val (.int ((p1 &&& (2147483647 : Int32)) % (20 : Int32))), .val (.int 1), .val (.int 1), .val (.int (((p2.toUInt32 >>> ((1 : Int32) &&& 31).toUInt32).toInt32) % (3 : Int32))), .val (.int (p3 &&& (1 : Int32))), .val (.int ((((p3.toUInt32 >>> ((1 : Int32) &&& 31).toUInt32).toInt32) &&& (255 : Int32)).toUInt32.toUInt16.toUInt32.toInt32)), .unset, .unset, .unset, .unset, .unset] [(.int 20)])) _
       refine own_go (fun _ k => XS.iload X0.here hx rfl (hb hby at_135) rfl (XS.iadd X0.here hx rfl (hb hby at_137) rfl (XS.istore X0.here hx rfl (hb hby at_138) rfl (l' := #[.val (.long p0), .second, .val (.int p1), .val (.int p2), .val (.int p3), .val (.long ((p0 &&& (9223372036854775807 : Int64)) - ((p0 &&& (9223372036854775807 : Int64)) / (1000000000000000000 : Int64)) * (1000000000000000000 : Int64))), .second, .val (.int ((p1 &&& (2147483647 : Int32)) % (20 : Int32))), .val (.int 1), .val (.int 1), .val (.int (((p2.toUInt32 >>> ((1 : Int32) &&& 31).toUInt32).toInt32) % (3 : Int32))), .val (.int (p3 &&& (1 : Int32))), .val (.int ((((p3.toUInt32 >>> ((1 : Int32) &&& 31).toUInt32).toInt32) &&& (255 : Int32)).toUInt32.toUInt16.toUInt32.toInt32)), .val (.int ((20 : Int32) + (((p2.toUInt32 >>> ((1 : Int32) &&& 31).toUInt32).toInt32) % (3 : Int32)))), .unset, .unset, .unset, .unset]) rfl k))) ?_
       show own_Fin p e below (s₁.setTop (mkF m 140 #[.val (.long p0), .second, .val (.int p1), .val (.int p2), .val (.int p3), .val (.long ((p0 &&& (9223372036854775807 : Int64)) - ((p0 &&& (9223372036854775807 : Int64)) / (1000000000000000000 : Int64)) * (1000000000000000000 : Int64))), .second, .val (.int ((p1 &&& (2147483647 : Int32)) % (20 : Int32))), .val (.int 1), .val (.int 1), .val (.int (((p2.toUInt32 >>> ((1 : Int32) &&& 31).toUInt32).toInt32) % (3 : Int32))), .val (.int (p3 &&& (1 : Int32))), .val (.int ((((p3.toUInt32 >>> ((1 : Int32) &&& 31).toUInt32).toInt32) &&& (255 : Int32)).toUInt32.toUInt16.toUInt32.toInt32)), .val (.int ((20 : Int32) + (((p2.toUInt32 >>> ((1 : Int32) &&& 31).toUInt32).toInt32) % (3 : Int32)))), .unset, .unset, .unset, .unset] [])) _
       exact main _ _ _ _ _ _ _ _ (own_hl282 p0 p1 p2 p3 hc24_217 hc38_277 hc65_278 hc91_279 hc96_280)
     ·refine own_go (fun _ k => XS.icmpYes X0.here hx rfl (pc0 := 91) (pc' := 102) rfl (hb hby at_91) rfl (feq hc91_279).2 (by decide) (by decide) (XS.iload X0.here hx rfl (hb hby at_102) rfl (XS.iconst X0.here hx rfl (hb hby at_104) (XS.iand X0.here hx rfl (hb hby at_105) rfl (XS.istore X0.here hx rfl (hb hby at_106) rfl (l' := #[.val (.long p0), .second, .val (.int p1), .val (.int p2), .val (.int p3), .val (.long ((p0 &&& (9223372036854775807 : Int64)) - ((p0 &&& (9223372036854775807 : Int64)) / (1000000000000000000 : Int64)) * (1000000000000000000 : Int64))), .second, .val (.int ((p1 &&& (2147483647 : Int32)) % (20 : Int32))), .val (.int 1), .val (.int 1), .val (.int (((p2.toUInt32 >>> ((1 : Int32) &&& 31).toUInt32).toInt32) % (3 : Int32))), .val (.int (p3 &&& (1 : Int32))), .unset, .unset, .unset, .unset, .unset, .unset]) rfl (XS.iload X0.here hx rfl (hb hby at_108) rfl (XS.iconst X0.here hx rfl (hb hby at_110) (XS.iushr X0.here hx rfl (hb hby at_111) rfl (XS.sipush X0.here hx rfl (hb hby at_112) (XS.iand X0.here hx rfl (hb hby at_115) rfl k)))))))))) ?_
      show own_Fin p e below (s₁.setTop (mkF m 116 #[.val (.long p0), .second, .val (.int p1), .val (.int p2), .val (.int p3), .val (.long ((p0 &&& (9223372036854775807 : Int64)) - ((p0 &&& (9223372036854775807 : Int64)) / (1000000000000000000 : Int64)) * (1000000000000000000 : Int64))), .second, .val (.int ((p1 &&& (2147483647 : Int32)) % (20 : Int32))), .val (.int 1), .val (.int 1), .val (.int (((p2.toUInt32 >>> ((1 : Int32) &&& 31).toUInt32).toInt32) % (3 : Int32))), .val (.int (p3 &&& (1 : Int32))), .unset, .unset, .unset, .unset, .unset, .unset] [(.int (((p3.toUInt32 >>> ((1 : Int32) &&& 31).toUInt32).toInt32) &&& (255 : Int32)))])) _
      refine own_go (fun _ k => XS.i2c X0.here hx rfl (hb hby at_116) rfl (XS.istore X0.here hx rfl (hb hby at_117) rfl (l' := #[.val (.long p0), .second, .val (.int p1), .val (.int p2), .val (.int p3), .val (.long ((p0 &&& (9223372036854775807 : Int64)) - ((p0 &&& (9223372036854775807 : Int64)) / (1000000000000000000 : Int64)) * (1000000000000000000 : Int64))), .second, .val (.int ((p1 &&& (2147483647 : Int32)) % (20 : Int32))), .val (.int 1), .val (.int 1), .val (.int (((p2.toUInt32 >>> ((1 : Int32) &&& 31).toUInt32).toInt32) % (3 : Int32))), .val (.int (p3 &&& (1 : Int32))), .val (.int ((((p3.toUInt32 >>> ((1 : Int32) &&& 31).toUInt32).toInt32) &&& (255 : Int32)).toUInt32.toUInt16.toUInt32.toInt32)), .unset, .unset, .unset, .unset, .unset]) rfl (XS.iload X0.here hx rfl (hb hby at_119) rfl (XS.bipush X0.here hx rfl (hb hby at_121) (XS.iadd X0.here hx rfl (hb hby at_123) rfl (XS.iload X0.here hx rfl (hb hby at_124) rfl (XS.ifNo X0.here hx rfl (hb hby at_126) rfl ((if0 _ _).trans (feq (by decide : ¬ ((1 : Int32) = (0 : Int32)))).1) (XS.iconst X0.here hx rfl (hb hby at_129) (XS.goto X0.here hx rfl (pc0 := 130) (pc' := 134) rfl (hb hby at_130) (by decide) (by decide) (XS.iadd X0.here hx rfl (hb hby at_134) rfl k)))))))))) ?_
      show own_Fin p e below (s₁.setTop (mkF m 135 #[.val (.long p0), .second, .val (.int p1), .val (.int p2), .val (.int p3), .val (.long ((p0 &&& (9223372036854775807 : Int64)) - ((p0 &&& (9223372036854775807 : Int64)) / (1000000000000000000 : Int64)) * (1000000000000000000 : Int64))), .second, .val (.int ((p1 &&& (2147483647 : Int32)) % (20 : Int32))), .val (.int 1), .val (.int 1), .val (.int (((p2.toUInt32 >>> ((1 : Int32) &&& 31).toUInt32).toInt32) % (3 : Int32))), .val (.int (p3 &&& (1 : Int32))), .val (.int ((((p3.toUInt32 >>> ((1 : Int32) &&& 31).toUInt32).toInt32) &&& (255 : Int32)).toUInt32.toUInt16.toUInt32.toInt32)), .unset, .unset, .unset, .unset, .unset] [(.int 20)])) _
      refine own_go (fun _ k => XS.iload X0.here hx rfl (hb hby at_135) rfl (XS.iadd X0.here hx rfl (hb hby at_137) rfl (XS.istore X0.here hx rfl (hb hby at_138) rfl (l' := #[.val (.long p0), .second, .val (.int p1), .val (.int p2), .val (.int p3), .val (.long ((p0 &&& (9223372036854775807 : Int64)) - ((p0 &&& (9223372036854775807 : Int64)) / (1000000000000000000 : Int64)) * (1000000000000000000 : Int64))), .second, .val (.int ((p1 &&& (2147483647 : Int32)) % (20 : Int32))), .val (.int 1), .val (.int 1), .val (.int (((p2.toUInt32 >>> ((1 : Int32) &&& 31).toUInt32).toInt32) % (3 : Int32))), .val (.int (p3 &&& (1 : Int32))), .val (.int ((((p3.toUInt32 >>> ((1 : Int32) &&& 31).toUInt32).toInt32) &&& (255 : Int32)).toUInt32.toUInt16.toUInt32.toInt32)), .val (.int ((20 : Int32) + (((p2.toUInt32 >>> ((1 : Int32) &&& 31).toUInt32).toInt32) % (3 : Int32)))), .unset, .unset, .unset, .unset]) rfl k))) ?_
      show own_Fin p e below (s₁.setTop (mkF m 140 #[.val (.long p0), .second, .val (.int p1), .val (.int p2), .val (.int p3), .val (.long ((p0 &&& (9223372036854775807 : Int64)) - ((p0 &&& (9223372036854775807 : Int64)) / (1000000000000000000 : Int64)) * (1000000000000000000 : Int64))), .second, .val (.int ((p1 &&& (2147483647 : Int32)) % (20 : Int32))), .val (.int 1), .val (.int 1), .val (.int (((p2.toUInt32 >>> ((1 : Int32) &&& 31).toUInt32).toInt32) % (3 : Int32))), .val (.int (p3 &&& (1 : Int32))), .val (.int ((((p3.toUInt32 >>> ((1 : Int32) &&& 31).toUInt32).toInt32) &&& (255 : Int32)).toUInt32.toUInt16.toUInt32.toInt32)), .val (.int ((20 : Int32) + (((p2.toUInt32 >>> ((1 : Int32) &&& 31).toUInt32).toInt32) % (3 : Int32)))), .unset, .unset, .unset, .unset] [])) _
      exact main _ _ _ _ _ _ _ _ (own_hl285 p0 p1 p2 p3 hc24_217 hc38_277 hc65_278 hc91_279)
    ·refine own_go (fun _ k => XS.ifYes X0.here hx rfl (pc0 := 65) (pc' := 71) rfl (hb hby at_65) rfl ((if0 _ _).trans (feq hc65_278).2) (by decide) (by decide) (XS.iload X0.here hx rfl (hb hby at_71) rfl (XS.ifNo X0.here hx rfl (hb hby at_73) rfl ((if0 _ _).trans (feq (by decide : ¬ ((1 : Int32) = (0 : Int32)))).1) (XS.iloadN X0.here hx rfl (hb hby at_76) rfl (XS.iconst X0.here hx rfl (hb hby at_77) (XS.iushr X0.here hx rfl (hb hby at_78) rfl (XS.iconst X0.here hx rfl (hb hby at_79) (iremM X0 hx rfl (hb hby at_80) rfl (by decide) (XS.goto X0.here hx rfl (pc0 := 81) (pc' := 85) rfl (hb hby at_81) (by decide) (by decide) (XS.istore X0.here hx rfl (hb hby at_85) rfl (l' := #[.val (.long p0), .second, .val (.int p1), .val (.int p2), .val (.int p3), .val (.long ((p0 &&& (9223372036854775807 : Int64)) - ((p0 &&& (9223372036854775807 : Int64)) / (1000000000000000000 : Int64)) * (1000000000000000000 : Int64))), .second, .val (.int ((p1 &&& (2147483647 : Int32)) % (20 : Int32))), .val (.int 1), .val (.int (p2 &&& (1 : Int32))), .val (.int (((p2.toUInt32 >>> ((1 : Int32) &&& 31).toUInt32).toInt32) % (3 : Int32))), .unset, .unset, .unset, .unset, .unset, .unset, .unset]) rfl k)))))))))) ?_
     show own_Fin p e below (s₁.setTop (mkF m 87 #[.val (.long p0), .second, .val (.int p1), .val (.int p2), .val (.int p3), .val (.long ((p0 &&& (9223372036854775807 : Int64)) - ((p0 &&& (9223372036854775807 : Int64)) / (1000000000000000000 : Int64)) * (1000000000000000000 : Int64))), .second, .val (.int ((p1 &&& (2147483647 : Int32)) % (20 : Int32))), .val (.int 1), .val (.int (p2 &&& (1 : Int32))), .val (.int (((p2.toUInt32 >>> ((1 : Int32) &&& 31).toUInt32).toInt32) % (3 : Int32))), .unset, .unset, .unset, .unset, .unset, .unset, .unset] [])) _
     refine own_go (fun _ k => XS.iload X0.here hx rfl (hb hby at_87) rfl (XS.bipush X0.here hx rfl (hb hby at_89) k)) ?_
     show own_Fin p e below (s₁.setTop (mkF m 91 #[.val (.long p0), .second, .val (.int p1), .val (.int p2), .val (.int p3), .val (.long ((p0 &&& (9223372036854775807 : Int64)) - ((p0 &&& (9223372036854775807 : Int64)) / (1000000000000000000 : Int64)) * (1000000000000000000 : Int64))), .second, .val (.int ((p1 &&& (2147483647 : Int32)) % (20 : Int32))), .val (.int 1), .val (.int (p2 &&& (1 : Int32))), .val (.int (((p2.toUInt32 >>> ((1 : Int32) &&& 31).toUInt32).toInt32) % (3 : Int32))), .unset, .unset, .unset, .unset, .unset, .unset, .unset] [(.int 18), (.int ((p1 &&& (2147483647 : Int32)) % (20 : Int32)))])) _
     by_cases hc91_288 : ((p1 &&& (2147483647 : Int32)) % (20 : Int32)) = (18 : Int32)
     ·refine own_go (fun _ k => XS.icmpNo X0.here hx rfl (hb hby at_91) rfl (teq hc91_288).2 (XS.iload X0.here hx rfl (hb hby at_94) rfl k)) ?_
      show own_Fin p e below (s₁.setTop (mkF m 96 #[.val (.long p0), .second, .val (.int p1), .val (.int p2), .val (.int p3), .val (.long ((p0 &&& (9223372036854775807 : Int64)) - ((p0 &&& (9223372036854775807 : Int64)) / (1000000000000000000 : Int64)) * (1000000000000000000 : Int64))), .second, .val (.int ((p1 &&& (2147483647 : Int32)) % (20 : Int32))), .val (.int 1), .val (.int (p2 &&& (1 : Int32))), .val (.int (((p2.toUInt32 >>> ((1 : Int32) &&& 31).toUInt32).toInt32) % (3 : Int32))), .unset, .unset, .unset, .unset, .unset, .unset, .unset] [(.int (((p2.toUInt32 >>> ((1 : Int32) &&& 31).toUInt32).toInt32) % (3 : Int32)))])) _
      by_cases hc96_289 : (((p2.toUInt32 >>> ((1 : Int32) &&& 31).toUInt32).toInt32) % (3 : Int32)) = (0 : Int32)
      ·refine own_go (fun _ k => XS.ifNo X0.here hx rfl (hb hby at_96) rfl ((if0 _ _).trans (teq hc96_289).2) (XS.iconst X0.here hx rfl (hb hby at_99) (XS.istore X0.here hx rfl (hb hby at_100) rfl (l' := #[.val (.long p0), .second, .val (.int p1), .val (.int p2), .val (.int p3), .val (.long ((p0 &&& (9223372036854775807 : Int64)) - ((p0 &&& (9223372036854775807 : Int64)) / (1000000000000000000 : Int64)) * (1000000000000000000 : Int64))), .second, .val (.int ((p1 &&& (2147483647 : Int32)) % (20 : Int32))), .val (.int 1), .val (.int (p2 &&& (1 : Int32))), .val (.int 1), .unset, .unset, .unset, .unset, .unset, .unset, .unset]) rfl (XS.iload X0.here hx rfl (hb hby at_102) rfl (XS.iconst X0.here hx rfl (hb hby at_104) (XS.iand X0.here hx rfl (hb hby at_105) rfl (XS.istore X0.here hx rfl (hb hby at_106) rfl (l' := #[.val (.long p0), .second, .val (.int p1), .val (.int p2), .val (.int p3), .val (.long ((p0 &&& (9223372036854775807 : Int64)) - ((p0 &&& (9223372036854775807 : Int64)) / (1000000000000000000 : Int64)) * (1000000000000000000 : Int64))), .second, .val (.int ((p1 &&& (2147483647 : Int32)) % (20 : Int32))), .val (.int 1), .val (.int (p2 &&& (1 : Int32))), .val (.int 1), .val (.int (p3 &&& (1 : Int32))), .unset, .unset, .unset, .unset, .unset, .unset]) rfl (XS.iload X0.here hx rfl (hb hby at_108) rfl (XS.iconst X0.here hx rfl (hb hby at_110) (XS.iushr X0.here hx rfl (hb hby at_111) rfl k)))))))))) ?_
       show own_Fin p e below (s₁.setTop (mkF m 112 #[.val (.long p0), .second, .val (.int p1), .val (.int p2), .val (.int p3), .val (.long ((p0 &&& (9223372036854775807 : Int64)) - ((p0 &&& (9223372036854775807 : Int64)) / (1000000000000000000 : Int64)) * (1000000000000000000 : Int64))), .second, .val (.int ((p1 &&& (2147483647 : Int32)) % (20 : Int32))), .val (.int 1), .val (.int (p2 &&& (1 : Int32))), .val (.int 1), .val (.int (p3 &&& (1 : Int32))), .unset, .unset, .unset, .unset, .unset, .unset] [(.int ((p3.toUInt32 >>> ((1 : Int32) &&& 31).toUInt32).toInt32))])) _
       refine own_go (fun _ k => XS.sipush X0.here hx rfl (hb hby at_112) (XS.iand X0.here hx rfl (hb hby at_115) rfl (XS.i2c X0.here hx rfl (hb hby at_116) rfl (XS.istore X0.here hx rfl (hb hby at_117) rfl (l' := #[.val (.long p0), .second, .val (.int p1), .val (.int p2), .val (.int p3), .val (.long ((p0 &&& (9223372036854775807 : Int64)) - ((p0 &&& (9223372036854775807 : Int64)) / (1000000000000000000 : Int64)) * (1000000000000000000 : Int64))), .second, .val (.int ((p1 &&& (2147483647 : Int32)) % (20 : Int32))), .val (.int 1), .val (.int (p2 &&& (1 : Int32))), .val (.int 1), .val (.int (p3 &&& (1 : Int32))), .val (.int ((((p3.toUInt32 >>> ((1 : Int32) &&& 31).toUInt32).toInt32) &&& (255 : Int32)).toUInt32.toUInt16.toUInt32.toInt32)), .unset, .unset, .unset, .unset, .unset]) rfl (XS.iload X0.here hx rfl (hb hby at_119) rfl (XS.bipush X0.here hx rfl (hb hby at_121) (XS.iadd X0.here hx rfl (hb hby at_123) rfl (XS.iload X0.here hx rfl (hb hby at_124) rfl (XS.ifNo X0.here hx rfl (hb hby at_126) rfl ((if0 _ _).trans (feq (by decide : ¬ ((1 : Int32) = (0 : Int32)))).1) (XS.iconst X0.here hx rfl (hb hby at_129) k)))))))))) ?_
       show own_Fin p e below (s₁.setTop (mkF m 130 #[.val (.long p0), .second, .val (.int p1), .val (.int p2), .val (.int p3), .val (.long ((p0 &&& (9223372036854775807 : Int64)) - ((p0 &&& (9223372036854775807 : Int64)) / (1000000000000000000 : Int64)) * (1000000000000000000 : Int64))), .second, .val (.int ((p1 &&& (2147483647 : Int32)) % (20 : Int32))), .val (.int 1), .val (.int (p2 &&& (1 : Int32))), .val (.int 1), .val (.int (p3 &&& (1 : Int32))), .val (.int ((((p3.toUInt32 >>> ((1 : Int32) &&& 31).toUInt32).toInt32) &&& (255 : Int32)).toUInt32.toUInt16.toUInt32.toInt32)), .unset, .unset, .unset, .unset, .unset] [(.int 1), (.int ((p2 &&& (1 : Int32)) + (18 : Int32)))])) _
       refine own_go (fun _ k => XS.goto X0.here hx rfl (pc0 := 130) (pc' := 134) rfl (hb hby at_130) (by decide) (by decide) (XS.iadd X0.here hx rfl (hb hby at_134) rfl (XS.iload X0.here hx rfl (hb hby at_135) rfl (XS.iadd X0.here hx rfl (hb hby at_137) rfl (XS.istore X0.here hx rfl (hb hby at_138) rfl (l' := #[.val (.long p0), .second, .val (.int p1), .val (.int p2), .val (.int p3), .val (.long ((p0 &&& (9223372036854775807 : Int64)) - ((p0 &&& (9223372036854775807 : Int64)) / (1000000000000000000 : Int64)) * (1000000000000000000 : Int64))), .second, .val (.int ((p1 &&& (2147483647 : Int32)) % (20 : Int32))), .val (.int 1), .val (.int (p2 &&& (1 : Int32))), .val (.int 1), .val (.int (p3 &&& (1 : Int32))), .val (.int ((((p3.toUInt32 >>> ((1 : Int32) &&& 31).toUInt32).toInt32) &&& (255 : Int32)).toUInt32.toUInt16.toUInt32.toInt32)), .val (.int ((((p2 &&& (1 : Int32)) + (18 : Int32)) + (1 : Int32)) + (1 : Int32))), .unset, .unset, .unset, .unset]) rfl k))))) ?_
       show own_Fin p e below (s₁.setTop (mkF m 140 #[.val (.long p0), .second, .val (.int p1), .val (.int p2), .val (.int p3), .val (.long ((p0 &&& (9223372036854775807 : Int64)) - ((p0 &&& (9223372036854775807 : Int64)) / (1000000000000000000 : Int64)) * (1000000000000000000 : Int64))), .second, .val (.int ((p1 &&& (2147483647 : Int32)) % (20 : Int32))), .val (.int 1), .val (.int (p2 &&& (1 : Int32))), .val (.int 1), .val (.int (p3 &&& (1 : Int32))), .val (.int ((((p3.toUInt32 >>> ((1 : Int32) &&& 31).toUInt32).toInt32) &&& (255 : Int32)).toUInt32.toUInt16.toUInt32.toInt32)), .val (.int ((((p2 &&& (1 : Int32)) + (18 : Int32)) + (1 : Int32)) + (1 : Int32))), .unset, .unset, .unset, .unset] [])) _
       exact main _ _ _ _ _ _ _ _ (own_hl290 p0 p1 p2 p3 hc24_217 hc38_277 hc65_278 hc91_288 hc96_289)
      ·refine own_go (fun _ k => XS.ifYes X0.here hx rfl (pc0 := 96) (pc' := 102) rfl (hb hby at_96) rfl ((if0 _ _).trans (feq hc96_289).2) (by decide) (by decide) (XS.iload X0.here hx rfl (hb hby at_102) rfl (XS.iconst X0.here hx rfl (hb hby at_104) (XS.iand X0.here hx rfl (hb hby at_105) rfl (XS.istore X0.here hx rfl (hb hby at_106) rfl (l' := #[.val (.long p0), .second, .val (.int p1), .val (.int p2), .val (.int p3), .val (.long ((p0 &&& (9223372036854775807 : Int64)) - ((p0 &&& (9223372036854775807 : Int64)) / (1000000000000000000 : Int64)) * (1000000000000000000 : Int64))), .second, .val (.int ((p1 &&& (2147483647 : Int32)) % (20 : Int32))), .val (.int 1), .val (.int (p2 &&& (1 : Int32))), .val (.int (((p2.toUInt32 >>> ((1 : Int32) &&& 31).toUInt32).toInt32) % (3 : Int32))), .val (.int (p3 &&& (1 : Int32))), .unset, .unset, .unset, .unset, .unset, .unset]) rfl (XS.iload X0.here hx rfl (hb hby at_108) rfl (XS.iconst X0.here hx rfl (hb hby at_110) (XS.iushr X0.here hx rfl (hb hby at_111) rfl (XS.sipush X0.here hx rfl (hb hby at_112) (XS.iand X0.here hx rfl (hb hby at_115) rfl k)))))))))) ?_
       show own_Fin p e below (s₁.setTop (mkF m 116 #[.val (.long p0), .second, .val (.int p1), .val (.int p2), .val (.int p3), .val (.long ((p0 &&& (9223372036854775807 : Int64)) - ((p0 &&& (9223372036854775807 : Int64)) / (1000000000000000000 : Int64)) * (1000000000000000000 : Int64))), .second, .val (.int ((p1 &&& (2147483647 : Int32)) % (20 : Int32))), .val (.int 1), .val (.int (p2 &&& (1 : Int32))), .val (.int (((p2.toUInt32 >>> ((1 : Int32) &&& 31).toUInt32).toInt32) % (3 : Int32))), .val (.int (p3 &&& (1 : Int32))), .unset, .unset, .unset, .unset, .unset, .unset] [(.int (((p3.toUInt32 >>> ((1 : Int32) &&& 31).toUInt32).toInt32) &&& (255 : Int32)))])) _
       refine own_go (fun _ k => XS.i2c X0.here hx rfl (hb hby at_116) rfl (XS.istore X0.here hx rfl (hb hby at_117) rfl (l' := #[.val (.long p0), .second, .val (.int p1), .val (.int p2), .val (.int p3), .val (.long ((p0 &&& (9223372036854775807 : Int64)) - ((p0 &&& (9223372036854775807 : Int64)) / (1000000000000000000 : Int64)) * (1000000000000000000 : Int64))), .second, .val (.int ((p1 &&& (2147483647 : Int32)) % (20 : Int32))), .val (.int 1), .val (.int (p2 &&& (1 : Int32))), .val (.int (((p2.toUInt32 >>> ((1 : Int32) &&& 31).toUInt32).toInt32) % (3 : Int32))), .val (.int (p3 &&& (1 : Int32))), .val (.int ((((p3.toUInt32 >>> ((1 : Int32) &&& 31).toUInt32).toInt32) &&& (255 : Int32)).toUInt32.toUInt16.toUInt32.toInt32)), .unset, .unset, .unset, .unset, .unset]) rfl (XS.iload X0.here hx rfl (hb hby at_119) rfl (XS.bipush X0.here hx rfl (hb hby at_121) (XS.iadd X0.here hx rfl (hb hby at_123) rfl (XS.iload X0.here hx rfl (hb hby at_124) rfl (XS.ifNo X0.here hx rfl (hb hby at_126) rfl ((if0 _ _).trans (feq (by decide : ¬ ((1 : Int32) = (0 : Int32)))).1) (XS.iconst X0.here hx rfl (hb hby at_129) (XS.goto X0.here hx rfl (pc0 := 130) (pc' := 134) rfl (hb hby at_130) (by decide) (by decide) (XS.iadd X0.here hx rfl (hb hby at_134) rfl k)))))))))) ?_
       show own_Fin p e below (s₁.setTop (mkF m 135 #[.val (.long p0), .second, .val (.int p1), .val (.int p2), .val (.int p3), .val (.long ((p0 &&& (9223372036854775807 : Int64)) - ((p0 &&& (9223372036854775807 : Int64)) / (1000000000000000000 : Int64)) * (1000000000000000000 : Int64))), .second, .val (.int ((p1 &&& (2147483647 : Int32)) % (20 : Int32))), .val (.int 1), .val (.int (p2 &&& (1 : Int32))), .val (.int (((p2.toUInt32 >>> ((1 : Int32) &&& 31).toUInt32).toInt32) % (3 : Int32))), .val (.int (p3 &&& (1 : Int32))), .val (.int ((((p3.toUInt32 >>> ((1 : Int32) &&& 31).toUInt32).toInt32) &&& (255 : Int32)).toUInt32.toUInt16.toUInt32.toInt32)), .unset, .unset, .unset, .unset, .unset] [(.int (((p2 &&& (1 : Int32)) + (18 : Int32)) + (1 : Int32)))])) _
       refine own_go (fun _ k => XS.iload X0.here hx rfl (hb hby at_135) rfl (XS.iadd X0.here hx rfl (hb hby at_137) rfl (XS.istore X0.here hx rfl (hb hby at_138) rfl (l' := #[.val (.long p0), .second, .val (.int p1), .val (.int p2), .val (.int p3), .val (.long ((p0 &&& (9223372036854775807 : Int64)) - ((p0 &&& (9223372036854775807 : Int64)) / (1000000000000000000 : Int64)) * (1000000000000000000 : Int64))), .second, .val (.int ((p1 &&& (2147483647 : Int32)) % (20 : Int32))), .val (.int 1), .val (.int (p2 &&& (1 : Int32))), .val (.int (((p2.toUInt32 >>> ((1 : Int32) &&& 31).toUInt32).toInt32) % (3 : Int32))), .val (.int (p3 &&& (1 : Int32))), .val (.int ((((p3.toUInt32 >>> ((1 : Int32) &&& 31).toUInt32).toInt32) &&& (255 : Int32)).toUInt32.toUInt16.toUInt32.toInt32)), .val (.int ((((p2 &&& (1 : Int32)) + (18 : Int32)) + (1 : Int32)) + (((p2.toUInt32 >>> ((1 : Int32) &&& 31).toUInt32).toInt32) % (3 : Int32)))), .unset, .unset, .unset, .unset]) rfl k))) ?_
       show own_Fin p e below (s₁.setTop (mkF m 140 #[.val (.long p0), .second, .val (.int p1), .val (.int p2), .val (.int p3), .val (.long ((p0 &&& (9223372036854775807 : Int64)) - ((p0 &&& (9223372036854775807 : Int64)) / (1000000000000000000 : Int64)) * (1000000000000000000 : Int64))), .second, .val (.int ((p1 &&& (2147483647 : Int32)) % (20 : Int32))), .val (.int 1), .val (.int (p2 &&& (1 : Int32))), .val (.int (((p2.toUInt32 >>> ((1 : Int32) &&& 31).toUInt32).toInt32) % (3 : Int32))), .val (.int (p3 &&& (1 : Int32))), .val (.int ((((p3.toUInt32 >>> ((1 : Int32) &&& 31).toUInt32).toInt32) &&& (255 : Int32)).toUInt32.toUInt16.toUInt32.toInt32)), .val (.int ((((p2 &&& (1 : Int32)) + (18 : Int32)) + (1 : Int32)) + (((p2.toUInt32 >>> ((1 : Int32) &&& 31).toUInt32).toInt32) % (3 : Int32)))), .unset, .unset, .unset, .unset] [])) _
       exact main _ _ _ _ _ _ _ _ (own_hl297 p0 p1 p2 p3 hc24_217 hc38_277 hc65_278 hc91_288 hc96_289)
     ·refine own_go (fun _ k => XS.icmpYes X0.here hx rfl (pc0 := 91) (pc' := 102) rfl (hb hby at_91) rfl (feq hc91_288).2 (by decide) (by decide) (XS.iload X0.here hx rfl (hb hby at_102) rfl (XS.iconst X0.here hx rfl (hb hby at_104) (XS.iand X0.here hx rfl (hb hby at_105) rfl (XS.istore X0.here hx rfl (hb hby at_106) rfl (l' := #[.val (.long p0), .second, .val (.int p1), .val (.int p2), .val (.int p3), .val (.long ((p0 &&& (9223372036854775807 : Int64)) - ((p0 &&& (9223372036854775807 : Int64)) / (1000000000000000000 : Int64)) * (1000000000000000000 : Int64))), .second, .val (.int ((p1 &&& (2147483647 : Int32)) % (20 : Int32))), .val (.int 1), .val (.int (p2 &&& (1 : Int32))), .val (.int (((p2.toUInt32 >>> ((1 : Int32) &&& 31).toUInt32).toInt32) % (3 : Int32))), .val (.int (p3 &&& (1 : Int32))), .unset, .unset, .unset, .unset, .unset, .unset]) rfl (XS.iload X0.here hx rfl (hb hby at_108) rfl (XS.iconst X0.here hx rfl (hb hby at_110) (XS.iushr X0.here hx rfl (hb hby at_111) rfl (XS.sipush X0.here hx rfl (hb hby at_112) (XS.iand X0.here hx rfl (hb hby at_115) rfl k)))))))))) ?_
      show own_Fin p e below (s₁.setTop (mkF m 116 #[.val (.long p0), .second, .val (.int p1), .val (.int p2), .val (.int p3), .val (.long ((p0 &&& (9223372036854775807 : Int64)) - ((p0 &&& (9223372036854775807 : Int64)) / (1000000000000000000 : Int64)) * (1000000000000000000 : Int64))), .second, .val (.int ((p1 &&& (2147483647 : Int32)) % (20 : Int32))), .val (.int 1), .val (.int (p2 &&& (1 : Int32))), .val (.int (((p2.toUInt32 >>> ((1 : Int32) &&& 31).toUInt32).toInt32) % (3 : Int32))), .val (.int (p3 &&& (1 : Int32))), .unset, .unset, .unset, .unset, .unset, .unset] [(.int (((p3.toUInt32 >>> ((1 : Int32) &&& 31).toUInt32).toInt32) &&& (255 : Int32)))])) _
      refine own_go (fun _ k => XS.i2c X0.here hx rfl (hb hby at_116) rfl (XS.istore X0.here hx rfl (hb hby at_117) rfl (l' := #[.val (.long p0), .second, .val (.int p1), .val (.int p2), .val (.int p3), .val (.long ((p0 &&& (9223372036854775807 : Int64)) - ((p0 &&& (9223372036854775807 : Int64)) / (1000000000000000000 : Int64)) * (1000000000000000000 : Int64))), .second, .val (.int ((p1 &&& (2147483647 : Int32)) % (20 : Int32))), .val (.int 1), .val (.int (p2 &&& (1 : Int32))), .val (.int (((p2.toUInt32 >>> ((1 : Int32) &&& 31).toUInt32).toInt32) % (3 : Int32))), .val (.int (p3 &&& (1 : Int32))), .val (.int ((((p3.toUInt32 >>> ((1 : Int32) &&& 31).toUInt32).toInt32) &&& (255 : Int32)).toUInt32.toUInt16.toUInt32.toInt32)), .unset, .unset, .unset, .unset, .unset]) rfl (XS.iload X0.here hx rfl (hb hby at_119) rfl (XS.bipush X0.here hx rfl (hb hby at_121) (XS.iadd X0.here hx rfl (hb hby at_123) rfl (XS.iload X0.here hx rfl (hb hby at_124) rfl (XS.ifNo X0.here hx rfl (hb hby at_126) rfl ((if0 _ _).trans (feq (by decide : ¬ ((1 : Int32) = (0 : Int32)))).1) (XS.iconst X0.here hx rfl (hb hby at_129) (XS.goto X0.here hx rfl (pc0 := 130) (pc' := 134) rfl (hb hby at_130) (by decide) (by decide) (XS.iadd X0.here hx rfl (hb hby at_134) rfl k)))))))))) ?_
      show own_Fin p e below (s₁.setTop (mkF m 135 #[.val (.long p0), .second, .val (.int p1), .val (.int p2), .val (.int p3), .val (.long ((p0 &&& (9223372036854775807 : Int64)) - ((p0 &&& (9223372036854775807 : Int64)) / (1000000000000000000 : Int64)) * (1000000000000000000 : Int64))), .second, .val (.int ((p1 &&& (2147483647 : Int32)) % (20 : Int32))), .val (.int 1), .val (.int (p2 &&& (1 : Int32))), .val (.int (((p2.toUInt32 >>> ((1 : Int32) &&& 31).toUInt32).toInt32) % (3 : Int32))), .val (.int (p3 &&& (1 : Int32))), .val (.int ((((p3.toUInt32 >>> ((1 : Int32) &&& 31).toUInt32).toInt32) &&& (255 : Int32)).toUInt32.toUInt16.toUInt32.toInt32)), .unset, .unset, .unset, .unset, .unset] [(.int (((p2 &&& (1 : Int32)) + (18 : Int32)) + (1 : Int32)))])) _
      refine own_go (fun _ k => XS.iload X0.here hx rfl (hb hby at_135) rfl (XS.iadd X0.here hx rfl (hb hby at_137) rfl (XS.istore X0.here hx rfl (hb hby at_138) rfl (l' := #[.val (.long p0), .second, .val (.int p1), .val (.int p2), .val (.int p3), .val (.long ((p0 &&& (9223372036854775807 : Int64)) - ((p0 &&& (9223372036854775807 : Int64)) / (1000000000000000000 : Int64)) * (1000000000000000000 : Int64))), .second, .val (.int ((p1 &&& (2147483647 : Int32)) % (20 : Int32))), .val (.int 1), .val (.int (p2 &&& (1 : Int32))), .val (.int (((p2.toUInt32 >>> ((1 : Int32) &&& 31).toUInt32).toInt32) % (3 : Int32))), .val (.int (p3 &&& (1 : Int32))), .val (.int ((((p3.toUInt32 >>> ((1 : Int32) &&& 31).toUInt32).toInt32) &&& (255 : Int32)).toUInt32.toUInt16.toUInt32.toInt32)), .val (.int ((((p2 &&& (1 : Int32)) + (18 : Int32)) + (1 : Int32)) + (((p2.toUInt32 >>> ((1 : Int32) &&& 31).toUInt32).toInt32) % (3 : Int32)))), .unset, .unset, .unset, .unset]) rfl k))) ?_
      show own_Fin p e below (s₁.setTop (mkF m 140 #[.val (.long p0), .second, .val (.int p1), .val (.int p2), .val (.int p3), .val (.long ((p0 &&& (9223372036854775807 : Int64)) - ((p0 &&& (9223372036854775807 : Int64)) / (1000000000000000000 : Int64)) * (1000000000000000000 : Int64))), .second, .val (.int ((p1 &&& (2147483647 : Int32)) % (20 : Int32))), .val (.int 1), .val (.int (p2 &&& (1 : Int32))), .val (.int (((p2.toUInt32 >>> ((1 : Int32) &&& 31).toUInt32).toInt32) % (3 : Int32))), .val (.int (p3 &&& (1 : Int32))), .val (.int ((((p3.toUInt32 >>> ((1 : Int32) &&& 31).toUInt32).toInt32) &&& (255 : Int32)).toUInt32.toUInt16.toUInt32.toInt32)), .val (.int ((((p2 &&& (1 : Int32)) + (18 : Int32)) + (1 : Int32)) + (((p2.toUInt32 >>> ((1 : Int32) &&& 31).toUInt32).toInt32) % (3 : Int32)))), .unset, .unset, .unset, .unset] [])) _
      exact main _ _ _ _ _ _ _ _ (own_hl304 p0 p1 p2 p3 hc24_217 hc38_277 hc65_278 hc91_288)
   ·refine own_go (fun _ k => XS.icmpNo X0.here hx rfl (hb hby at_38) rfl (flt hc38_277).2.2.1 (XS.lload X0.here hx rfl (hb hby at_41) rfl k)) ?_
    show own_Fin p e below (s₁.setTop (mkF m 43 #[.val (.long p0), .second, .val (.int p1), .val (.int p2), .val (.int p3), .val (.long ((p0 &&& (9223372036854775807 : Int64)) - ((p0 &&& (9223372036854775807 : Int64)) / (1000000000000000000 : Int64)) * (1000000000000000000 : Int64))), .second, .val (.int ((p1 &&& (2147483647 : Int32)) % (20 : Int32))), .val (.int 1), .unset, .unset, .unset, .unset, .unset, .unset, .unset, .unset, .unset] [(.long ((p0 &&& (9223372036854775807 : Int64)) - ((p0 &&& (9223372036854775807 : Int64)) / (1000000000000000000 : Int64)) * (1000000000000000000 : Int64)))])) _
    refine own_go (fun _ k => X0.ldc2Long hx hown (mvT hZ (ow hw 3)) (g := (mkF m 43 #[.val (.long p0), .second, .val (.int p1), .val (.int p2), .val (.int p3), .val (.long ((p0 &&& (9223372036854775807 : Int64)) - ((p0 &&& (9223372036854775807 : Int64)) / (1000000000000000000 : Int64)) * (1000000000000000000 : Int64))), .second, .val (.int ((p1 &&& (2147483647 : Int32)) % (20 : Int32))), .val (.int 1), .unset, .unset, .unset, .unset, .unset, .unset, .unset, .unset, .unset] [(.long ((p0 &&& (9223372036854775807 : Int64)) - ((p0 &&& (9223372036854775807 : Int64)) / (1000000000000000000 : Int64)) * (1000000000000000000 : Int64)))])) rfl (hb hby at_43) _ k) ?_
    show own_Fin p e below (s₁.setTop (mkF m 46 #[.val (.long p0), .second, .val (.int p1), .val (.int p2), .val (.int p3), .val (.long ((p0 &&& (9223372036854775807 : Int64)) - ((p0 &&& (9223372036854775807 : Int64)) / (1000000000000000000 : Int64)) * (1000000000000000000 : Int64))), .second, .val (.int ((p1 &&& (2147483647 : Int32)) % (20 : Int32))), .val (.int 1), .unset, .unset, .unset, .unset, .unset, .unset, .unset, .unset, .unset] [(.long (10 : Int64)), (.long ((p0 &&& (9223372036854775807 : Int64)) - ((p0 &&& (9223372036854775807 : Int64)) / (1000000000000000000 : Int64)) * (1000000000000000000 : Int64)))])) _
    refine own_go (fun _ k => XS.lrem X0.here hx rfl (hb hby at_46) rfl (by decide) (XS.lconst X0.here hx rfl (hb hby at_47) (XS.lcmp X0.here hx rfl (hb hby at_48) rfl k))) ?_
    show own_Fin p e below (s₁.setTop (mkF m 49 #[.val (.long p0), .second, .val (.int p1), .val (.int p2), .val (.int p3), .val (.long ((p0 &&& (9223372036854775807 : Int64)) - ((p0 &&& (9223372036854775807 : Int64)) / (1000000000000000000 : Int64)) * (1000000000000000000 : Int64))), .second, .val (.int ((p1 &&& (2147483647 : Int32)) % (20 : Int32))), .val (.int 1), .unset, .unset, .unset, .unset, .unset, .unset, .unset, .unset, .unset] [(.int (lcmpW (((p0 &&& (9223372036854775807 : Int64)) - ((p0 &&& (9223372036854775807 : Int64)) / (1000000000000000000 : Int64)) * (1000000000000000000 : Int64)) - (((p0 &&& (9223372036854775807 : Int64)) - ((p0 &&& (9223372036854775807 : Int64)) / (1000000000000000000 : Int64)) * (1000000000000000000 : Int64)) / (10 : Int64)) * (10 : Int64)) (0 : Int64)))])) _
    by_cases hc49_311 : (((p0 &&& (9223372036854775807 : Int64)) - ((p0 &&& (9223372036854775807 : Int64)) / (1000000000000000000 : Int64)) * (1000000000000000000 : Int64)) - (((p0 &&& (9223372036854775807 : Int64)) - ((p0 &&& (9223372036854775807 : Int64)) / (1000000000000000000 : Int64)) * (1000000000000000000 : Int64)) / (10 : Int64)) * (10 : Int64)) = (0 : Int64)
    ·refine own_go (fun _ k => XS.ifNo X0.here hx rfl (hb hby at_49) rfl ((if0 _ _).trans (teq ((lw_eq _ _).mpr hc49_311)).2) (XS.lload X0.here hx rfl (hb hby at_52) rfl (XS.lconst X0.here hx rfl (hb hby at_54) (XS.ladd X0.here hx rfl (hb hby at_55) rfl (XS.lstore X0.here hx rfl (hb hby at_56) rfl (l' := #[.val (.long p0), .second, .val (.int p1), .val (.int p2), .val (.int p3), .val (.long (((p0 &&& (9223372036854775807 : Int64)) - ((p0 &&& (9223372036854775807 : Int64)) / (1000000000000000000 : Int64)) * (1000000000000000000 : Int64)) + (1 : Int64))), .second, .val (.int ((p1 &&& (2147483647 : Int32)) % (20 : Int32))), .val (.int 1), .unset, .unset, .unset, .unset, .unset, .unset, .unset, .unset, .unset]) rfl (XS.iloadN X0.here hx rfl (hb hby at_58) rfl (XS.iconst X0.here hx rfl (hb hby at_59) (XS.iand X0.here hx rfl (hb hby at_60) rfl (XS.istore X0.here hx rfl (hb hby at_61) rfl (l' := #[.val (.long p0), .second, .val (.int p1), .val (.int p2), .val (.int p3), .val (.long (((p0 &&& (9223372036854775807 : Int64)) - ((p0 &&& (9223372036854775807 : Int64)) / (1000000000000000000 : Int64)) * (1000000000000000000 : Int64)) + (1 : Int64))), .second, .val (.int ((p1 &&& (2147483647 : Int32)) % (20 : Int32))), .val (.int 1), .val (.int (p2 &&& (1 : Int32))), .unset, .unset, .unset, .unset, .unset, .unset, .unset, .unset]) rfl (XS.iload X0.here hx rfl (hb hby at_63) rfl k)))))))))) ?_
     show own_Fin p e below (s₁.setTop (mkF m 65 #[.val (.long p0), .second, .val (.int p1), .val (.int p2), .val (.int p3), .val (.long (((p0 &&& (9223372036854775807 : Int64)) - ((p0 &&& (9223372036854775807 : Int64)) / (1000000000000000000 : Int64)) * (1000000000000000000 : Int64)) + (1 : Int64))), .second, .val (.int ((p1 &&& (2147483647 : Int32)) % (20 : Int32))), .val (.int 1), .val (.int (p2 &&& (1 : Int32))), .unset, .unset, .unset, .unset, .unset, .unset, .unset, .unset] [(.int ((p1 &&& (2147483647 : Int32)) % (20 : Int32)))])) _
     by_cases hc65_312 : ((p1 &&& (2147483647 : Int32)) % (20 : Int32)) = (0 : Int32)
     ·refine own_go (fun _ k => XS.ifNo X0.here hx rfl (hb hby at_65) rfl ((if0 _ _).trans (teq hc65_312).2) (XS.iconst X0.here hx rfl (hb hby at_68) (XS.istore X0.here hx rfl (hb hby at_69) rfl (l' := #[.val (.long p0), .second, .val (.int p1), .val (.int p2), .val (.int p3), .val (.long (((p0 &&& (9223372036854775807 : Int64)) - ((p0 &&& (9223372036854775807 : Int64)) / (1000000000000000000 : Int64)) * (1000000000000000000 : Int64)) + (1 : Int64))), .second, .val (.int ((p1 &&& (2147483647 : Int32)) % (20 : Int32))), .val (.int 1), .val (.int 1), .unset, .unset, .unset, .unset, .unset, .unset, .unset, .unset]) rfl (XS.iload X0.here hx rfl (hb hby at_71) rfl (XS.ifNo X0.here hx rfl (hb hby at_73) rfl ((if0 _ _).trans (feq (by decide : ¬ ((1 : Int32) = (0 : Int32)))).1) (XS.iloadN X0.here hx rfl (hb hby at_76) rfl (XS.iconst X0.here hx rfl (hb hby at_77) (XS.iushr X0.here hx rfl (hb hby at_78) rfl (XS.iconst X0.here hx rfl (hb hby at_79) (iremM X0 hx rfl (hb hby at_80) rfl (by decide) k)))))))))) ?_
      show own_Fin p e below (s₁.setTop (mkF m 81 #[.val (.long p0), .second, .val (.int p1), .val (.int p2), .val (.int p3), .val (.long (((p0 &&& (9223372036854775807 : Int64)) - ((p0 &&& (9223372036854775807 : Int64)) / (1000000000000000000 : Int64)) * (1000000000000000000 : Int64)) + (1 : Int64))), .second, .val (.int ((p1 &&& (2147483647 : Int32)) % (20 : Int32))), .val (.int 1), .val (.int 1), .unset, .unset, .unset, .unset, .unset, .unset, .unset, .unset] [(.int (((p2.toUInt32 >>> ((1 : Int32) &&& 31).toUInt32).toInt32) % (3 : Int32)))])) _
      refine own_go (fun _ k => XS.goto X0.here hx rfl (pc0 := 81) (pc' := 85) rfl (hb hby at_81) (by decide) (by decide) (XS.istore X0.here hx rfl (hb hby at_85) rfl (l' := #[.val (.long p0), .second, .val (.int p1), .val (.int p2), .val (.int p3), .val (.long (((p0 &&& (9223372036854775807 : Int64)) - ((p0 &&& (9223372036854775807 : Int64)) / (1000000000000000000 : Int64)) * (1000000000000000000 : Int64)) + (1 : Int64))), .second, .val (.int ((p1 &&& (2147483647 : Int32)) % (20 : Int32))), .val (.int 1), .val (.int 1), .val (.int (((p2.toUInt32 >>> ((1 : Int32) &&& 31).toUInt32).toInt32) % (3 : Int32))), .unset, .unset, .unset, .unset, .unset, .unset, .unset]) rfl (XS.iload X0.here hx rfl (hb hby at_87) rfl (XS.bipush X0.here hx rfl (hb hby at_89) k)))) ?_
      show own_Fin p e below (s₁.setTop (mkF m 91 #[.val (.long p0), .second, .val (.int p1), .val (.int p2), .val (.int p3), .val (.long (((p0 &&& (9223372036854775807 : Int64)) - ((p0 &&& (9223372036854775807 : Int64)) / (1000000000000000000 : Int64)) * (1000000000000000000 : Int64)) + (1 : Int64))), .second, .val (.int ((p1 &&& (2147483647 : Int32)) % (20 : Int32))), .val (.int 1), .val (.int 1), .val (.int (((p2.toUInt32 >>> ((1 : Int32) &&& 31).toUInt32).toInt32) % (3 : Int32))), .unset, .unset, .unset, .unset, .unset, .unset, .unset] [(.int 18), (.int ((p1 &&& (2147483647 : Int32)) % (20 : Int32)))])) _
      by_cases hc91_313 : ((p1 &&& (2147483647 : Int32)) % (20 : Int32)) = (18 : Int32)
      ·refine own_go (fun _ k => XS.icmpNo X0.here hx rfl (hb hby at_91) rfl (teq hc91_313).2 (XS.iload X0.here hx rfl (hb hby at_94) rfl k)) ?_
       show own_Fin p e below (s₁.setTop (mkF m 96 #[.val (.long p0), .second, .val (.int p1), .val (.int p2), .val (.int p3), .val (.long (((p0 &&& (9223372036854775807 : Int64)) - ((p0 &&& (9223372036854775807 : Int64)) / (1000000000000000000 : Int64)) * (1000000000000000000 : Int64)) + (1 : Int64))), .second, .val (.int ((p1 &&& (2147483647 : Int32)) % (20 : Int32))), .val (.int 1), .val (.int 1), .val (.int (((p2.toUInt32 >>> ((1 : Int32) &&& 31).toUInt32).toInt32) % (3 : Int32))), .unset, .unset, .unset, .unset, .unset, .unset, .unset] [(.int (((p2.toUInt32 >>> ((1 : Int32) &&& 31).toUInt32).toInt32) % (3 : Int32)))])) _
       by_cases hc96_314 : (((p2.toUInt32 >>> ((1 : Int32) &&& 31).toUInt32).toInt32) % (3 : Int32)) = (0 : Int32)
       ·refine own_go (fun _ k => XS.ifNo X0.here hx rfl (hb hby at_96) rfl ((if0 _ _).trans (teq hc96_314).2) (XS.iconst X0.here hx rfl (hb hby at_99) (XS.istore X0.here hx rfl (hb hby at_100) rfl (l' := #[.val (.long p0), .second, .val (.int p1), .val (.int p2), .val (.int p3), .val (.long (((p0 &&& (9223372036854775807 : Int64)) - ((p0 &&& (9223372036854775807 : Int64)) / (1000000000000000000 : Int64)) * (1000000000000000000 : Int64)) + (1 : Int64))), .second, .val (.int ((p1 &&& (2147483647 : Int32)) % (20 : Int32))), .val (.int 1), .val (.int 1), .val (.int 1), .unset, .unset, .unset, .unset, .unset, .unset, .unset]) rfl (XS.iload X0.here hx rfl (hb hby at_102) rfl (XS.iconst X0.here hx rfl (hb hby at_104) (XS.iand X0.here hx rfl (hb hby at_105) rfl (XS.istore X0.here hx rfl (hb hby at_106) rfl (l' := #[.val (.long p0), .second, .val (.int p1), .val (.int p2), .val (.int p3), .val (.long (((p0 &&& (9223372036854775807 : Int64)) - ((p0 &&& (9223372036854775807 : Int64)) / (1000000000000000000 : Int64)) * (1000000000000000000 : Int64)) + (1 : Int64))), .second, .val (.int ((p1 &&& (2147483647 : Int32)) % (20 : Int32))), .val (.int 1), .val (.int 1), .val (.int 1), .val (.int (p3 &&& (1 : Int32))), .unset, .unset, .unset, .unset, .unset, .unset]) rfl (XS.iload X0.here hx rfl (hb hby at_108) rfl (XS.iconst X0.here hx rfl (hb hby at_110) (XS.iushr X0.here hx rfl (hb hby at_111) rfl k)))))))))) ?_
        show own_Fin p e below (s₁.setTop (mkF m 112 #[.val (.long p0), .second, .val (.int p1), .val (.int p2), .val (.int p3), .val (.long (((p0 &&& (9223372036854775807 : Int64)) - ((p0 &&& (9223372036854775807 : Int64)) / (1000000000000000000 : Int64)) * (1000000000000000000 : Int64)) + (1 : Int64))), .second, .val (.int ((p1 &&& (2147483647 : Int32)) % (20 : Int32))), .val (.int 1), .val (.int 1), .val (.int 1), .val (.int (p3 &&& (1 : Int32))), .unset, .unset, .unset, .unset, .unset, .unset] [(.int ((p3.toUInt32 >>> ((1 : Int32) &&& 31).toUInt32).toInt32))])) _
        refine own_go (fun _ k => XS.sipush X0.here hx rfl (hb hby at_112) (XS.iand X0.here hx rfl (hb hby at_115) rfl (XS.i2c X0.here hx rfl (hb hby at_116) rfl (XS.istore X0.here hx rfl (hb hby at_117) rfl (l' := #[.val (.long p0), .second, .val (.int p1), .val (.int p2), .val (.int p3), .val (.long (((p0 &&& (9223372036854775807 : Int64)) - ((p0 &&& (9223372036854775807 : Int64)) / (1000000000000000000 : Int64)) * (1000000000000000000 : Int64)) + (1 : Int64))), .second, .val (.int ((p1 &&& (2147483647 : Int32)) % (20 : Int32))), .val (.int 1), .val (.int 1), .val (.int 1), .val (.int (p3 &&& (1 : Int32))), .val (.int ((((p3.toUInt32 >>> ((1 : Int32) &&& 31).toUInt32).toInt32) &&& (255 : Int32)).toUInt32.toUInt16.toUInt32.toInt32)), .unset, .unset, .unset, .unset, .unset]) rfl (XS.iload X0.here hx rfl (hb hby at_119) rfl (XS.bipush X0.here hx rfl (hb hby at_121) (XS.iadd X0.here hx rfl (hb hby at_123) rfl (XS.iload X0.here hx rfl (hb hby at_124) rfl (XS.ifNo X0.here hx rfl (hb hby at_126) rfl ((if0 _ _).trans (feq (by decide : ¬ ((1 : Int32) = (0 : Int32)))).1) (XS.iconst X0.here hx rfl (hb hby at_129) k)))))))))) ?_
        show own_Fin p e below (s₁.setTop (mkF m 130 #[.val (.long p0), .second, .val (.int p1), .val (.int p2), .val (.int p3), .val (.long (((p0 &&& (9223372036854775807 : Int64)) - ((p0 &&& (9223372036854775807 : Int64)) / (1000000000000000000 : Int64)) * (1000000000000000000 : Int64)) + (1 : Int64))), .second, .val (.int ((p1 &&& (2147483647 : Int32)) % (20 : Int32))), .val (.int 1), .val (.int 1), .val (.int 1), .val (.int (p3 &&& (1 : Int32))), .val (.int ((((p3.toUInt32 >>> ((1 : Int32) &&& 31).toUInt32).toInt32) &&& (255 : Int32)).toUInt32.toUInt16.toUInt32.toInt32)), .unset, .unset, .unset, .unset, .unset] [(.int 1), (.int 19)])) _
        refine own_go (fun _ k => XS.goto X0.here hx rfl (pc0 := 130) (pc' := 134) rfl (hb hby at_130) (by decide) (by decide) (XS.iadd X0.here hx rfl (hb hby at_134) rfl (XS.iload X0.here hx rfl (hb hby at_135) rfl (XS.iadd X0.here hx rfl (hb hby at_137) rfl (XS.istore X0.here hx rfl (hb hby at_138) rfl (l' := #[.val (.long p0), .second, .val (.int p1), .val (.int p2), .val (.int p3), .val (.long (((p0 &&& (9223372036854775807 : Int64)) - ((p0 &&& (9223372036854775807 : Int64)) / (1000000000000000000 : Int64)) * (1000000000000000000 : Int64)) + (1 : Int64))), .second, .val (.int ((p1 &&& (2147483647 : Int32)) % (20 : Int32))), .val (.int 1), .val (.int 1), .val (.int 1), .val (.int (p3 &&& (1 : Int32))), .val (.int ((((p3.toUInt32 >>> ((1 : Int32) &&& 31).toUInt32).toInt32) &&& (255 : Int32)).toUInt32.toUInt16.toUInt32.toInt32)), .val (.int 21), .unset, .unset, .unset, .unset]) rfl k))))) ?_
        show own_Fin p e below (s₁.setTop (mkF m 140 #[.val (.long p0), .second, .val (.int p1), .val (.int p2), .val (.int p3), .val (.long (((p0 &&& (9223372036854775807 : Int64)) - ((p0 &&& (9223372036854775807 : Int64)) / (1000000000000000000 : Int64)) * (1000000000000000000 : Int64)) + (1 : Int64))), .second, .val (.int ((p1 &&& (2147483647 : Int32)) % (20 : Int32))), .val (.int 1), .val (.int 1), .val (.int 1), .val (.int (p3 &&& (1 : Int32))), .val (.int ((((p3.toUInt32 >>> ((1 : Int32) &&& 31).toUInt32).toInt32) &&& (255 : Int32)).toUInt32.toUInt16.toUInt32.toInt32)), .val (.int 21), .unset, .unset, .unset, .unset] [])) _
        exact main _ _ _ _ _ _ _ _ (own_hl315 p0 p1 p2 p3 hc24_217 hc38_277 hc49_311 hc65_312 hc91_313 hc96_314)
       ·refine own_go (fun _ k => XS.ifYes X0.here hx rfl (pc0 := 96) (pc' := 102) rfl (hb hby at_96) rfl ((if0 _ _).trans (feq hc96_314).2) (by decide) (by decide) (XS.iload X0.here hx rfl (hb hby at_102) rfl (XS.iconst X0.here hx rfl (hb hby at_104) (XS.iand X0.here hx rfl (hb hby at_105) rfl (XS.istore X0.here hx rfl (hb hby at_106) rfl (l' := #[.val (.long p0), .second, .val (.int p1), .val (.int p2), .val (.int p3), .val (.long (((p0 &&& (9223372036854775807 : Int64)) - ((p0 &&& (9223372036854775807 : Int64)) / (1000000000000000000 : Int64)) * (1000000000000000000 : Int64)) + (1 : Int64))), .second, .val (.int ((p1 &&& (2147483647 : Int32)) % (20 : Int32))), .val (.int 1), .val (.int 1), .val (.int (((p2.toUInt32 >>> ((1 : Int32) &&& 31).toUInt32).toInt32) % (3 : Int32))), .val (.int (p3 &&& (1 : Int32))), .unset, .unset, .unset, .unset, .unset, .unset]) rfl (XS.iload X0.here hx rfl (hb hby at_108) rfl (XS.iconst X0.here hx rfl (hb hby at_110) (XS.iushr X0.here hx rfl (hb hby at_111) rfl (XS.sipush X0.here hx rfl (hb hby at_112) (XS.iand X0.here hx rfl (hb hby at_115) rfl k)))))))))) ?_
        show own_Fin p e below (s₁.setTop (mkF m 116 #[.val (.long p0), .second, .val (.int p1), .val (.int p2), .val (.int p3), .val (.long (((p0 &&& (9223372036854775807 : Int64)) - ((p0 &&& (9223372036854775807 : Int64)) / (1000000000000000000 : Int64)) * (1000000000000000000 : Int64)) + (1 : Int64))), .second, .val (.int ((p1 &&& (2147483647 : Int32)) % (20 : Int32))), .val (.int 1), .val (.int 1), .val (.int (((p2.toUInt32 >>> ((1 : Int32) &&& 31).toUInt32).toInt32) % (3 : Int32))), .val (.int (p3 &&& (1 : Int32))), .unset, .unset, .unset, .unset, .unset, .unset] [(.int (((p3.toUInt32 >>> ((1 : Int32) &&& 31).toUInt32).toInt32) &&& (255 : Int32)))])) _
        refine own_go (fun _ k => XS.i2c X0.here hx rfl (hb hby at_116) rfl (XS.istore X0.here hx rfl (hb hby at_117) rfl (l' := #[.val (.long p0), .second, .val (.int p1), .val (.int p2), .val (.int p3), .val (.long (((p0 &&& (9223372036854775807 : Int64)) - ((p0 &&& (9223372036854775807 : Int64)) / (1000000000000000000 : Int64)) * (1000000000000000000 : Int64)) + (1 : Int64))), .second, .val (.int ((p1 &&& (2147483647 : Int32)) % (20 : Int32))), .val (.int 1), .val (.int 1), .val (.int (((p2.toUInt32 >>> ((1 : Int32) &&& 31).toUInt32).toInt32) % (3 : Int32))), .val (.int (p3 &&& (1 : Int32))), .val (.int ((((p3.toUInt32 >>> ((1 : Int32) &&& 31).toUInt32).toInt32) &&& (255 : Int32)).toUInt32.toUInt16.toUInt32.toInt32)), .unset, .unset, .unset, .unset, .unset]) rfl (XS.iload X0.here hx rfl (hb hby at_119) rfl (XS.bipush X0.here hx rfl (hb hby at_121) (XS.iadd X0.here hx rfl (hb hby at_123) rfl (XS.iload X0.here hx rfl (hb hby at_124) rfl (XS.ifNo X0.here hx rfl (hb hby at_126) rfl ((if0 _ _).trans (feq (by decide : ¬ ((1 : Int32) = (0 : Int32)))).1) (XS.iconst X0.here hx rfl (hb hby at_129) (XS.goto X0.here hx rfl (pc0 := 130) (pc' := 134) rfl (hb hby at_130) (by decide) (by decide) (XS.iadd X0.here hx rfl (hb hby at_134) rfl k)))))))))) ?_
        show own_Fin p e below (s₁.setTop (mkF m 135 #[.val (.long p0), .second, .val (.int p1), .val (.int p2), .val (.int p3), .val (.long (((p0 &&& (9223372036854775807 : Int64)) - ((p0 &&& (9223372036854775807 : Int64)) / (1000000000000000000 : Int64)) * (1000000000000000000 : Int64)) + (1 : Int64))), .second, .val (.int ((p1 &&& (2147483647 : Int32)) % (20 : Int32))), .val (.int 1), .val (.int 1), .val (.int (((p2.toUInt32 >>> ((1 : Int32) &&& 31).toUInt32).toInt32) % (3 : Int32))), .val (.int (p3 &&& (1 : Int32))), .val (.int ((((p3.toUInt32 >>> ((1 : Int32) &&& 31).toUInt32).toInt32) &&& (255 : Int32)).toUInt32.toUInt16.toUInt32.toInt32)), .unset, .unset, .unset, .unset, .unset] [(.int 20)])) _
        refine own_go (fun _ k => XS.iload X0.here hx rfl (hb hby at_135) rfl (XS.iadd X0.here hx rfl (hb hby at_137) rfl (XS.istore X0.here hx rfl (hb hby at_138) rfl (l' := #[.val (.long p0), .second, .val (.int p1), .val (.int p2), .val (.int p3), .val (.long (((p0 &&& (9223372036854775807 : Int64)) - ((p0 &&& (9223372036854775807 : Int64)) / (1000000000000000000 : Int64)) * (1000000000000000000 : Int64)) + (1 : Int64))), .second, .val (.int ((p1 &&& (2147483647 : Int32)) % (20 : Int32))), .val (.int 1), .val (.int 1), .val (.int (((p2.toUInt32 >>> ((1 : Int32) &&& 31).toUInt32).toInt32) % (3 : Int32))), .val (.int (p3 &&& (1 : Int32))), .val (.int ((((p3.toUInt32 >>> ((1 : Int32) &&& 31).toUInt32).toInt32) &&& (255 : Int32)).toUInt32.toUInt16.toUInt32.toInt32)), .val (.int ((20 : Int32) + (((p2.toUInt32 >>> ((1 : Int32) &&& 31).toUInt32).toInt32) % (3 : Int32)))), .unset, .unset, .unset, .unset]) rfl k))) ?_
        show own_Fin p e below (s₁.setTop (mkF m 140 #[.val (.long p0), .second, .val (.int p1), .val (.int p2), .val (.int p3), .val (.long (((p0 &&& (9223372036854775807 : Int64)) - ((p0 &&& (9223372036854775807 : Int64)) / (1000000000000000000 : Int64)) * (1000000000000000000 : Int64)) + (1 : Int64))), .second, .val (.int ((p1 &&& (2147483647 : Int32)) % (20 : Int32))), .val (.int 1), .val (.int 1), .val (.int (((p2.toUInt32 >>> ((1 : Int32) &&& 31).toUInt32).toInt32) % (3 : Int32))), .val (.int (p3 &&& (1 : Int32))), .val (.int ((((p3.toUInt32 >>> ((1 : Int32) &&& 31).toUInt32).toInt32) &&& (255 : Int32)).toUInt32.toUInt16.toUInt32.toInt32)), .val (.int ((20 : Int32) + (((p2.toUInt32 >>> ((1 : Int32) &&& 31).toUInt32).toInt32) % (3 : Int32)))), .unset, .unset, .unset, .unset] [])) _
        exact main _ _ _ _ _ _ _ _ (own_hl316 p0 p1 p2 p3 hc24_217 hc38_277 hc49_311 hc65_312 hc91_313 hc96_314)
      ·refine own_go (fun _ k => XS.icmpYes X0.here hx rfl (pc0 := 91) (pc' := 102) rfl (hb hby at_91) rfl (feq hc91_313).2 (by decide) (by decide) (XS.iload X0.here hx rfl (hb hby at_102) rfl (XS.iconst X0.here hx rfl (hb hby at_104) (XS.iand X0.here hx rfl (hb hby at_105) rfl (XS.istore X0.here hx rfl (hb hby at_106) rfl (l' := #[.val (.long p0), .second, .val (.int p1), .val (.int p2), .val (.int p3), .val (.long (((p0 &&& (9223372036854775807 : Int64)) - ((p0 &&& (9223372036854775807 : Int64)) / (1000000000000000000 : Int64)) * (1000000000000000000 : Int64)) + (1 : Int64))), .second, .val (.int ((p1 &&& (2147483647 : Int32)) % (20 : Int32))), .val (.int 1), .val (.int 1), .val (.int (((p2.toUInt32 >>> ((1 : Int32) &&& 31).toUInt32).toInt32) % (3 : Int32))), .val (.int (p3 &&& (1 : Int32))), .unset, .unset, .unset, .unset, .unset, .unset]) rfl (XS.iload X0.here hx rfl (hb hby at_108) rfl (XS.iconst X0.here hx rfl (hb hby at_110) (XS.iushr X0.here hx rfl (hb hby at_111) rfl (XS.sipush X0.here hx rfl (hb hby at_112) (XS.iand X0.here hx rfl (hb hby at_115) rfl k)))))))))) ?_
       show own_Fin p e below (s₁.setTop (mkF m 116 #[.val (.long p0), .second, .val (.int p1), .val (.int p2), .val (.int p3), .val (.long (((p0 &&& (9223372036854775807 : Int64)) - ((p0 &&& (9223372036854775807 : Int64)) / (1000000000000000000 : Int64)) * (1000000000000000000 : Int64)) + (1 : Int64))), .second, .val (.int ((p1 &&& (2147483647 : Int32)) % (20 : Int32))), .val (.int 1), .val (.int 1), .val (.int (((p2.toUInt32 >>> ((1 : Int32) &&& 31).toUInt32).toInt32) % (3 : Int32))), .val (.int (p3 &&& (1 : Int32))), .unset, .unset, .unset, .unset, .unset, .unset] [(.int (((p3.toUInt32 >>> ((1 : Int32) &&& 31).toUInt32).toInt32) &&& (255 : Int32)))])) _
       refine own_go (fun _ k => XS.i2c X0.here hx rfl (hb hby at_116) rfl (XS.istore X0.here hx rfl (hb hby at_117) rfl (l' := #[.val (.long p0), .second, .val (.int p1), .val (.int p2), .val (.int p3), .val (.long (((p0 &&& (9223372036854775807 : Int64)) - ((p0 &&& (9223372036854775807 : Int64)) / (1000000000000000000 : Int64)) * (1000000000000000000 : Int64)) + (1 : Int64))), .second, .val (.int ((p1 &&& (2147483647 : Int32)) % (20 : Int32))), .val (.int 1), .val (.int 1), .val (.int (((p2.toUInt32 >>> ((1 : Int32) &&& 31).toUInt32).toInt32) % (3 : Int32))), .val (.int (p3 &&& (1 : Int32))), .val (.int ((((p3.toUInt32 >>> ((1 : Int32) &&& 31).toUInt32).toInt32) &&& (255 : Int32)).toUInt32.toUInt16.toUInt32.toInt32)), .unset, .unset, .unset, .unset, .unset]) rfl (XS.iload X0.here hx rfl (hb hby at_119) rfl (XS.bipush X0.here hx rfl (hb hby at_121) (XS.iadd X0.here hx rfl (hb hby at_123) rfl (XS.iload X0.here hx rfl (hb hby at_124) rfl (XS.ifNo X0.here hx rfl (hb hby at_126) rfl ((if0 _ _).trans (feq (by decide : ¬ ((1 : Int32) = (0 : Int32)))).1) (XS.iconst X0.here hx rfl (hb hby at_129) (XS.goto X0.here hx rfl (pc0 := 130) (pc' := 134) rfl (hb hby at_130) (by decide) (by decide) (XS.iadd X0.here hx rfl (hb hby at_134) rfl k)))))))))) ?_
       show own_Fin p e below (s₁.setTop (mkF m 135 #[.val (.long p0), .second, .val (.int p1), .val (.int p2), .val (.int p3), .val (.long (((p0 &&& (9223372036854775807 : Int64)) - ((p0 &&& (9223372036854775807 : Int64)) / (1000000000000000000 : Int64)) * (1000000000000000000 : Int64)) + (1 : Int64))), .second, .val (.int ((p1 &&& (2147483647 : Int32)) % (20 : Int32))), .val (.int 1), .val (.int 1), .val (.int (((p2.toUInt32 >>> ((1 : Int32) &&& 31).toUInt32).toInt32) % (3 : Int32))), .val (.int (p3 &&& (1 : Int32))), .val (.int ((((p3.toUInt32 >>> ((1 : Int32) &&& 31).toUInt32).toInt32) &&& (255 : Int32)).toUInt32.toUInt16.toUInt32.toInt32)), .unset, .unset, .unset, .unset, .unset] [(.int 20)])) _
       refine own_go (fun _ k => XS.iload X0.here hx rfl (hb hby at_135) rfl (XS.iadd X0.here hx rfl (hb hby at_137) rfl (XS.istore X0.here hx rfl (hb hby at_138) rfl (l' := #[.val (.long p0), .second, .val (.int p1), .val (.int p2), .val (.int p3), .val (.long (((p0 &&& (9223372036854775807 : Int64)) - ((p0 &&& (9223372036854775807 : Int64)) / (1000000000000000000 : Int64)) * (1000000000000000000 : Int64)) + (1 : Int64))), .second, .val (.int ((p1 &&& (2147483647 : Int32)) % (20 : Int32))), .val (.int 1), .val (.int 1), .val (.int (((p2.toUInt32 >>> ((1 : Int32) &&& 31).toUInt32).toInt32) % (3 : Int32))), .val (.int (p3 &&& (1 : Int32))), .val (.int ((((p3.toUInt32 >>> ((1 : Int32) &&& 31).toUInt32).toInt32) &&& (255 : Int32)).toUInt32.toUInt16.toUInt32.toInt32)), .val (.int ((20 : Int32) + (((p2.toUInt32 >>> ((1 : Int32) &&& 31).toUInt32).toInt32) % (3 : Int32)))), .unset, .unset, .unset, .unset]) rfl k))) ?_
       show own_Fin p e below (s₁.setTop (mkF m 140 #[.val (.long p0), .second, .val (.int p1), .val (.int p2), .val (.int p3), .val (.long (((p0 &&& (9223372036854775807 : Int64)) - ((p0 &&& (9223372036854775807 : Int64)) / (1000000000000000000 : Int64)) * (1000000000000000000 : Int64)) + (1 : Int64))), .second, .val (.int ((p1 &&& (2147483647 : Int32)) % (20 : Int32))), .val (.int 1), .val (.int 1), .val (.int (((p2.toUInt32 >>> ((1 : Int32) &&& 31).toUInt32).toInt32) % (3 : Int32))), .val (.int (p3 &&& (1 : Int32))), .val (.int ((((p3.toUInt32 >>> ((1 : Int32) &&& 31).toUInt32).toInt32) &&& (255 : Int32)).toUInt32.toUInt16.toUInt32.toInt32)), .val (.int ((20 : Int32) + (((p2.toUInt32 >>> ((1 : Int32) &&& 31).toUInt32).toInt32) % (3 : Int32)))), .unset, .unset, .unset, .unset] [])) _
       exact main _ _ _ _ _ _ _ _ (own_hl319 p0 p1 p2 p3 hc24_217 hc38_277 hc49_311 hc65_312 hc91_313)
     ·refine own_go (fun _ k => XS.ifYes X0.here hx rfl (pc0 := 65) (pc' := 71) rfl (hb hby at_65) rfl ((if0 _ _).trans (feq hc65_312).2) (by decide) (by decide) (XS.iload X0.here hx rfl (hb hby at_71) rfl (XS.ifNo X0.here hx rfl (hb hby at_73) rfl ((if0 _ _).trans (feq (by decide : ¬ ((1 : Int32) = (0 : Int32)))).1) (XS.iloadN X0.here hx rfl (hb hby at_76) rfl (XS.iconst X0.here hx rfl (hb hby at_77) (XS.iushr X0.here hx rfl (hb hby at_78) rfl (XS.iconst X0.here hx rfl (hb hby at_79) (iremM X0 hx rfl (hb hby at_80) rfl (by decide) (XS.goto X0.here hx rfl (pc0 := 81) (pc' := 85) rfl (hb hby at_81) (by decide) (by decide) (XS.istore X0.here hx rfl (hb hby at_85) rfl (l' := #[.val (.long p0), .second, .val (.int p1), .val (.int p2), .val (.int p3), .val (.long (((p0 &&& (9223372036854775807 : Int64)) - ((p0 &&& (9223372036854775807 : Int64)) / (1000000000000000000 : Int64)) * (1000000000000000000 : Int64)) + (1 : Int64))), .second, .val (.int ((p1 &&& (2147483647 : Int32)) % (20 : Int32))), .val (.int 1), .val (.int (p2 &&& (1 : Int32))), .val (.int (((p2.toUInt32 >>> ((1 : Int32) &&& 31).toUInt32).toInt32) % (3 : Int32))), .unset, .unset, .unset, .unset, .unset, .unset, .unset]) rfl k)))))))))) ?_
      show own_Fin p e below (s₁.setTop (mkF m 87 #[.val (.long p0), .second, .val (.int p1), .val (.int p2), .val (.int p3), .val (.long (((p0 &&& (9223372036854775807 : Int64)) - ((p0 &&& (9223372036854775807 : Int64)) / (1000000000000000000 : Int64)) * (1000000000000000000 : Int64)) + (1 : Int64))), .second, .val (.int ((p1 &&& (2147483647 : Int32)) % (20 : Int32))), .val (.int 1), .val (.int (p2 &&& (1 : Int32))), .val (.int (((p2.toUInt32 >>> ((1 : Int32) &&& 31).toUInt32).toInt32) % (3 : Int32))), .unset, .unset, .unset, .unset, .unset, .unset, .unset] [])) _
      refine own_go (fun _ k => XS.iload X0.here hx rfl (hb hby at_87) rfl (XS.bipush X0.here hx rfl (hb hby at_89) k)) ?_
      show own_Fin p e below (s₁.setTop (mkF m 91 #[.val (.long p0), .second, .val (.int p1), .val (.int p2), .val (.int p3), .val (.long (((p0 &&& (9223372036854775807 : Int64)) - ((p0 &&& (9223372036854775807 : Int64)) / (1000000000000000000 : Int64)) * (1000000000000000000 : Int64)) + (1 : Int64))), .second, .val (.int ((p1 &&& (2147483647 : Int32)) % (20 : Int32))), .val (.int 1), .val (.int (p2 &&& (1 : Int32))), .val (.int (((p2.toUInt32 >>> ((1 : Int32) &&& 31).toUInt32).toInt32) % (3 : Int32))), .unset, .unset, .unset, .unset, .unset, .unset, .unset] [(.int 18), (.int ((p1 &&& (2147483647 : Int32)) % (20 : Int32)))])) _
      by_cases hc91_322 : ((p1 &&& (2147483647 : Int32)) % (20 : Int32)) = (18 : Int32)
      ·refine own_go (fun _ k => XS.icmpNo X0.here hx rfl (hb hby at_91) rfl (teq hc91_322).2 (XS.iload X0.here hx rfl (hb hby at_94) rfl k)) ?_
       show own_Fin p e below (s₁.setTop (mkF m 96 #[.val (.long p0), .second, .val (.int p1), .val (.int p2), .val (.int p3), .val (.long (((p0 &&& (9223372036854775807 : Int64)) - ((p0 &&& (9223372036854775807 : Int64)) / (1000000000000000000 : Int64)) * (1000000000000000000 : Int64)) + (1 : Int64))), .second, .val (.int ((p1 &&& (2147483647 : Int32)) % (20 : Int32))), .val (.int 1), .val (.int (p2 &&& (1 : Int32))), .val (.int (((p2.toUInt32 >>> ((1 : Int32) &&& 31).toUInt32).toInt32) % (3 : Int32))), .unset, .unset, .unset, .unset, .unset, .unset, .unset] [(.int (((p2.toUInt32 >>> ((1 : Int32) &&& 31).toUInt32).toInt32) % (3 : Int32)))])) _
       by_cases hc96_323 : (((p2.toUInt32 >>> ((1 : Int32) &&& 31).toUInt32).toInt32) % (3 : Int32)) = (0 : Int32)
       ·refine own_go (fun _ k => XS.ifNo X0.here hx rfl (hb hby at_96) rfl ((if0 _ _).trans (teq hc96_323).2) (XS.iconst X0.here hx rfl (hb hby at_99) (XS.istore X0.here hx rfl (hb hby at_100) rfl (l' := #[.val (.long p0), .second, .val (.int p1), .val (.int p2), .val (.int p3), .val (.long (((p0 &&& (9223372036854775807 : Int64)) - ((p0 &&& (9223372036854775807 : Int64)) / (1000000000000000000 : Int64)) * (1000000000000000000 : Int64)) + (1 : Int64))), .second, .val (.int ((p1 &&& (2147483647 : Int32)) % (20 : Int32))), .val (.int 1), .val (.int (p2 &&& (1 : Int32))), .val (.int 1), .unset, .unset, .unset, .unset, .unset, .unset, .unset]) rfl (XS.iload X0.here hx rfl (hb hby at_102) rfl (XS.iconst X0.here hx rfl (hb hby at_104) (XS.iand X0.here hx rfl (hb hby at_105) rfl (XS.istore X0.here hx rfl (hb hby at_106) rfl (l' := #[.val (.long p0), .second, .val (.int p1), .val (.int p2), .val (.int p3), .val (.long (((p0 &&& (9223372036854775807 : Int64)) - ((p0 &&& (9223372036854775807 : Int64)) / (1000000000000000000 : Int64)) * (1000000000000000000 : Int64)) + (1 : Int64))), .second, .val (.int ((p1 &&& (2147483647 : Int32)) % (20 : Int32))), .val (.int 1), .val (.int (p2 &&& (1 : Int32))), .val (.int 1), .val (.int (p3 &&& (1 : Int32))), .unset, .unset, .unset, .unset, .unset, .unset]) rfl (XS.iload X0.here hx rfl (hb hby at_108) rfl (XS.iconst X0.here hx rfl (hb hby at_110) (XS.iushr X0.here hx rfl (hb hby at_111) rfl k)))))))))) ?_
        show own_Fin p e below (s₁.setTop (mkF m 112 #[.val (.long p0), .second, .val (.int p1), .val (.int p2), .val (.int p3), .val (.long (((p0 &&& (9223372036854775807 : Int64)) - ((p0 &&& (9223372036854775807 : Int64)) / (1000000000000000000 : Int64)) * (1000000000000000000 : Int64)) + (1 : Int64))), .second, .val (.int ((p1 &&& (2147483647 : Int32)) % (20 : Int32))), .val (.int 1), .val (.int (p2 &&& (1 : Int32))), .val (.int 1), .val (.int (p3 &&& (1 : Int32))), .unset, .unset, .unset, .unset, .unset, .unset] [(.int ((p3.toUInt32 >>> ((1 : Int32) &&& 31).toUInt32).toInt32))])) _
        refine own_go (fun _ k => XS.sipush X0.here hx rfl (hb hby at_112) (XS.iand X0.here hx rfl (hb hby at_115) rfl (XS.i2c X0.here hx rfl (hb hby at_116) rfl (XS.istore X0.here hx rfl (hb hby at_117) rfl (l' := #[.val (.long p0), .second, .val (.int p1), .val (.int p2), .val (.int p3), .val (.long (((p0 &&& (9223372036854775807 : Int64)) - ((p0 &&& (9223372036854775807 : Int64)) / (1000000000000000000 : Int64)) * (1000000000000000000 : Int64)) + (1 : Int64))), .second, .val (.int ((p1 &&& (2147483647 : Int32)) % (20 : Int32))), .val (.int 1), .val (.int (p2 &&& (1 : Int32))), .val (.int 1), .val (.int (p3 &&& (1 : Int32))), .val (.int ((((p3.toUInt32 >>> ((1 : Int32) &&& 31).toUInt32).toInt32) &&& (255 : Int32)).toUInt32.toUInt16.toUInt32.toInt32)), .unset, .unset, .unset, .unset, .unset]) rfl (XS.iload X0.here hx rfl (hb hby at_119) rfl (XS.bipush X0.here hx rfl (hb hby at_121) (XS.iadd X0.here hx rfl (hb hby at_123) rfl (XS.iload X0.here hx rfl (hb hby at_124) rfl (XS.ifNo X0.here hx rfl (hb hby at_126) rfl ((if0 _ _).trans (feq (by decide : ¬ ((1 : Int32) = (0 : Int32)))).1) (XS.iconst X0.here hx rfl (hb hby at_129) k)))))))))) ?_
        show own_Fin p e below (s₁.setTop (mkF m 130 #[.val (.long p0), .second, .val (.int p1), .val (.int p2), .val (.int p3), .val (.long (((p0 &&& (9223372036854775807 : Int64)) - ((p0 &&& (9223372036854775807 : Int64)) / (1000000000000000000 : Int64)) * (1000000000000000000 : Int64)) + (1 : Int64))), .second, .val (.int ((p1 &&& (2147483647 : Int32)) % (20 : Int32))), .val (.int 1), .val (.int (p2 &&& (1 : Int32))), .val (.int 1), .val (.int (p3 &&& (1 : Int32))), .val (.int ((((p3.toUInt32 >>> ((1 : Int32) &&& 31).toUInt32).toInt32) &&& (255 : Int32)).toUInt32.toUInt16.toUInt32.toInt32)), .unset, .unset, .unset, .unset, .unset] [(.int 1), (.int ((p2 &&& (1 : Int32)) + (18 : Int32)))])) _
        refine own_go (fun _ k => XS.goto X0.here hx rfl (pc0 := 130) (pc' := 134) rfl (hb hby at_130) (by decide) (by decide) (XS.iadd X0.here hx rfl (hb hby at_134) rfl (XS.iload X0.here hx rfl (hb hby at_135) rfl (XS.iadd X0.here hx rfl (hb hby at_137) rfl (XS.istore X0.here hx rfl (hb hby at_138) rfl (l' := #[.val (.long p0), .second, .val (.int p1), .val (.int p2), .val (.int p3), .val (.long (((p0 &&& (9223372036854775807 : Int64)) - ((p0 &&& (9223372036854775807 : Int64)) / (1000000000000000000 : Int64)) * (1000000000000000000 : Int64)) + (1 : Int64))), .second, .val (.int ((p1 &&& (2147483647 : Int32)) % (20 : Int32))), .val (.int 1), .val (.int (p2 &&& (1 : Int32))), .val (.int 1), .val (.int (p3 &&& (1 : Int32))), .val (.int ((((p3.toUInt32 >>> ((1 : Int32) &&& 31).toUInt32).toInt32) &&& (255 : Int32)).toUInt32.toUInt16.toUInt32.toInt32)), .val (.int ((((p2 &&& (1 : Int32)) + (18 : Int32)) + (1 : Int32)) + (1 : Int32))), .unset, .unset, .unset, .unset]) rfl k))))) ?_
        show own_Fin p e below (s₁.setTop (mkF m 140 #[.val (.long p0), .second, .val (.int p1), .val (.int p2), .val (.int p3), .val (.long (((p0 &&& (9223372036854775807 : Int64)) - ((p0 &&& (9223372036854775807 : Int64)) / (1000000000000000000 : Int64)) * (1000000000000000000 : Int64)) + (1 : Int64))), .second, .val (.int ((p1 &&& (2147483647 : Int32)) % (20 : Int32))), .val (.int 1), .val (.int (p2 &&& (1 : Int32))), .val (.int 1), .val (.int (p3 &&& (1 : Int32))), .val (.int ((((p3.toUInt32 >>> ((1 : Int32) &&& 31).toUInt32).toInt32) &&& (255 : Int32)).toUInt32.toUInt16.toUInt32.toInt32)), .val (.int ((((p2 &&& (1 : Int32)) + (18 : Int32)) + (1 : Int32)) + (1 : Int32))), .unset, .unset, .unset, .unset] [])) _
        exact main _ _ _ _ _ _ _ _ (own_hl324 p0 p1 p2 p3 hc24_217 hc38_277 hc49_311 hc65_312 hc91_322 hc96_323)
       ·refine own_go (fun _ k => XS.ifYes X0.here hx rfl (pc0 := 96) (pc' := 102) rfl (hb hby at_96) rfl ((if0 _ _).trans (feq hc96_323).2) (by decide) (by decide) (XS.iload X0.here hx rfl (hb hby at_102) rfl (XS.iconst X0.here hx rfl (hb hby at_104) (XS.iand X0.here hx rfl (hb hby at_105) rfl (XS.istore X0.here hx rfl (hb hby at_106) rfl (l' := #[.val (.long p0), .second, .val (.int p1), .val (.int p2), .val (.int p3), .val (.long (((p0 &&& (9223372036854775807 : Int64)) - ((p0 &&& (9223372036854775807 : Int64)) / (1000000000000000000 : Int64)) * (1000000000000000000 : Int64)) + (1 : Int64))), .second, .val (.int ((p1 &&& (2147483647 : Int32)) % (20 : Int32))), .val (.int 1), .val (.int (p2 &&& (1 : Int32))), .val (.int (((p2.toUInt32 >>> ((1 : Int32) &&& 31).toUInt32).toInt32) % (3 : Int32))), .val (.int (p3 &&& (1 : Int32))), .unset, .unset, .unset, .unset, .unset, .unset]) rfl (XS.iload X0.here hx rfl (hb hby at_108) rfl (XS.iconst X0.here hx rfl (hb hby at_110) (XS.iushr X0.here hx rfl (hb hby at_111) rfl (XS.sipush X0.here hx rfl (hb hby at_112) (XS.iand X0.here hx rfl (hb hby at_115) rfl k)))))))))) ?_
        show own_Fin p e below (s₁.setTop (mkF m 116 #[.val (.long p0), .second, .val (.int p1), .val (.int p2), .val (.int p3), .val (.long (((p0 &&& (9223372036854775807 : Int64)) - ((p0 &&& (9223372036854775807 : Int64)) / (1000000000000000000 : Int64)) * (1000000000000000000 : Int64)) + (1 : Int64))), .second, .val (.int ((p1 &&& (2147483647 : Int32)) % (20 : Int32))), .val (.int 1), .val (.int (p2 &&& (1 : Int32))), .val (.int (((p2.toUInt32 >>> ((1 : Int32) &&& 31).toUInt32).toInt32) % (3 : Int32))), .val (.int (p3 &&& (1 : Int32))), .unset, .unset, .unset, .unset, .unset, .unset] [(.int (((p3.toUInt32 >>> ((1 : Int32) &&& 31).toUInt32).toInt32) &&& (255 : Int32)))])) _
        refine own_go (fun _ k => XS.i2c X0.here hx rfl (hb hby at_116) rfl (XS.istore X0.here hx rfl (hb hby at_117) rfl (l' := #[.val (.long p0), .second, .val (.int p1), .val (.int p2), .val (.int p3), .val (.long (((p0 &&& (9223372036854775807 : Int64)) - ((p0 &&& (9223372036854775807 : Int64)) / (1000000000000000000 : Int64)) * (1000000000000000000 : Int64)) + (1 : Int64))), .second, .val (.int ((p1 &&& (2147483647 : Int32)) % (20 : Int32))), .val (.int 1), .val (.int (p2 &&& (1 : Int32))), .val (.int (((p2.toUInt32 >>> ((1 : Int32) &&& 31).toUInt32).toInt32) % (3 : Int32))), .val (.int (p3 &&& (1 : Int32))), .val (.int ((((p3.toUInt32 >>> ((1 : Int32) &&& 31).toUInt32).toInt32) &&& (255 : Int32)).toUInt32.toUInt16.toUInt32.toInt32)), .unset, .unset, .unset, .unset, .unset]) rfl (XS.iload X0.here hx rfl (hb hby at_119) rfl (XS.bipush X0.here hx rfl (hb hby at_121) (XS.iadd X0.here hx rfl (hb hby at_123) rfl (XS.iload X0.here hx rfl (hb hby at_124) rfl (XS.ifNo X0.here hx rfl (hb hby at_126) rfl ((if0 _ _).trans (feq (by decide : ¬ ((1 : Int32) = (0 : Int32)))).1) (XS.iconst X0.here hx rfl (hb hby at_129) (XS.goto X0.here hx rfl (pc0 := 130) (pc' := 134) rfl (hb hby at_130) (by decide) (by decide) (XS.iadd X0.here hx rfl (hb hby at_134) rfl k)))))))))) ?_
        show own_Fin p e below (s₁.setTop (mkF m 135 #[.val (.long p0), .second, .val (.int p1), .val (.int p2), .val (.int p3), .val (.long (((p0 &&& (9223372036854775807 : Int64)) - ((p0 &&& (9223372036854775807 : Int64)) / (1000000000000000000 : Int64)) * (1000000000000000000 : Int64)) + (1 : Int64))), .second, .val (.int ((p1 &&& (2147483647 : Int32)) % (20 : Int32))), .val (.int 1), .val (.int (p2 &&& (1 : Int32))), .val (.int (((p2.toUInt32 >>> ((1 : Int32) &&& 31).toUInt32).toInt32) % (3 : Int32))), .val (.int (p3 &&& (1 : Int32))), .val (.int ((((p3.toUInt32 >>> ((1 : Int32) &&& 31).toUInt32).toInt32) &&& (255 : Int32)).toUInt32.toUInt16.toUInt32.toInt32)), .unset, .unset, .unset, .unset, .unset] [(.int (((p2 &&& (1 : Int32)) + (18 : Int32)) + (1 : Int32)))])) _
        refine own_go (fun _ k => XS.iload X0.here hx rfl (hb hby at_135) rfl (XS.iadd X0.here hx rfl (hb hby at_137) rfl (XS.istore X0.here hx rfl (hb hby at_138) rfl (l' := #[.val (.long p0), .second, .val (.int p1), .val (.int p2), .val (.int p3), .val (.long (((p0 &&& (9223372036854775807 : Int64)) - ((p0 &&& (9223372036854775807 : Int64)) / (1000000000000000000 : Int64)) * (1000000000000000000 : Int64)) + (1 : Int64))), .second, .val (.int ((p1 &&& (2147483647 : Int32)) % (20 : Int32))), .val (.int 1), .val (.int (p2 &&& (1 : Int32))), .val (.int (((p2.toUInt32 >>> ((1 : Int32) &&& 31).toUInt32).toInt32) % (3 : Int32))), .val (.int (p3 &&& (1 : Int32))), .val (.int ((((p3.toUInt32 >>> ((1 : Int32) &&& 31).toUInt32).toInt32) &&& (255 : Int32)).toUInt32.toUInt16.toUInt32.toInt32)), .val (.int ((((p2 &&& (1 : Int32)) + (18 : Int32)) + (1 : Int32)) + (((p2.toUInt32 >>> ((1 : Int32) &&& 31).toUInt32).toInt32) % (3 : Int32)))), .unset, .unset, .unset, .unset]) rfl k))) ?_
        show own_Fin p e below (s₁.setTop (mkF m 140 #[.val (.long p0), .second, .val (.int p1), .val (.int p2), .val (.int p3), .val (.long (((p0 &&& (9223372036854775807 : Int64)) - ((p0 &&& (9223372036854775807 : Int64)) / (1000000000000000000 : Int64)) * (1000000000000000000 : Int64)) + (1 : Int64))), .second, .val (.int ((p1 &&& (2147483647 : Int32)) % (20 : Int32))), .val (.int 1), .val (.int (p2 &&& (1 : Int32))), .val (.int (((p2.toUInt32 >>> ((1 : Int32) &&& 31).toUInt32).toInt32) % (3 : Int32))), .val (.int (p3 &&& (1 : Int32))), .val (.int ((((p3.toUInt32 >>> ((1 : Int32) &&& 31).toUInt32).toInt32) &&& (255 : Int32)).toUInt32.toUInt16.toUInt32.toInt32)), .val (.int ((((p2 &&& (1 : Int32)) + (18 : Int32)) + (1 : Int32)) + (((p2.toUInt32 >>> ((1 : Int32) &&& 31).toUInt32).toInt32) % (3 : Int32)))), .unset, .unset, .unset, .unset] [])) _
        exact main _ _ _ _ _ _ _ _ (own_hl331 p0 p1 p2 p3 hc24_217 hc38_277 hc49_311 hc65_312 hc91_322 hc96_323)
      ·refine own_go (fun _ k => XS.icmpYes X0.here hx rfl (pc0 := 91) (pc' := 102) rfl (hb hby at_91) rfl (feq hc91_322).2 (by decide) (by decide) (XS.iload X0.here hx rfl (hb hby at_102) rfl (XS.iconst X0.here hx rfl (hb hby at_104) (XS.iand X0.here hx rfl (hb hby at_105) rfl (XS.istore X0.here hx rfl (hb hby at_106) rfl (l' := #[.val (.long p0), .second, .val (.int p1), .val (.int p2), .val (.int p3), .val (.long (((p0 &&& (9223372036854775807 : Int64)) - ((p0 &&& (9223372036854775807 : Int64)) / (1000000000000000000 : Int64)) * (1000000000000000000 : Int64)) + (1 : Int64))), .second, .val (.int ((p1 &&& (2147483647 : Int32)) % (20 : Int32))), .val (.int 1), .val (.int (p2 &&& (1 : Int32))), .val (.int (((p2.toUInt32 >>> ((1 : Int32) &&& 31).toUInt32).toInt32) % (3 : Int32))), .val (.int (p3 &&& (1 : Int32))), .unset, .unset, .unset, .unset, .unset, .unset]) rfl (XS.iload X0.here hx rfl (hb hby at_108) rfl (XS.iconst X0.here hx rfl (hb hby at_110) (XS.iushr X0.here hx rfl (hb hby at_111) rfl (XS.sipush X0.here hx rfl (hb hby at_112) (XS.iand X0.here hx rfl (hb hby at_115) rfl k)))))))))) ?_
       show own_Fin p e below (s₁.setTop (mkF m 116 #[.val (.long p0), .second, .val (.int p1), .val (.int p2), .val (.int p3), .val (.long (((p0 &&& (9223372036854775807 : Int64)) - ((p0 &&& (9223372036854775807 : Int64)) / (1000000000000000000 : Int64)) * (1000000000000000000 : Int64)) + (1 : Int64))), .second, .val (.int ((p1 &&& (2147483647 : Int32)) % (20 : Int32))), .val (.int 1), .val (.int (p2 &&& (1 : Int32))), .val (.int (((p2.toUInt32 >>> ((1 : Int32) &&& 31).toUInt32).toInt32) % (3 : Int32))), .val (.int (p3 &&& (1 : Int32))), .unset, .unset, .unset, .unset, .unset, .unset] [(.int (((p3.toUInt32 >>> ((1 : Int32) &&& 31).toUInt32).toInt32) &&& (255 : Int32)))])) _
       refine own_go (fun _ k => XS.i2c X0.here hx rfl (hb hby at_116) rfl (XS.istore X0.here hx rfl (hb hby at_117) rfl (l' := #[.val (.long p0), .second, .val (.int p1), .val (.int p2), .val (.int p3), .val (.long (((p0 &&& (9223372036854775807 : Int64)) - ((p0 &&& (9223372036854775807 : Int64)) / (1000000000000000000 : Int64)) * (1000000000000000000 : Int64)) + (1 : Int64))), .second, .val (.int ((p1 &&& (2147483647 : Int32)) % (20 : Int32))), .val (.int 1), .val (.int (p2 &&& (1 : Int32))), .val (.int (((p2.toUInt32 >>> ((1 : Int32) &&& 31).toUInt32).toInt32) % (3 : Int32))), .val (.int (p3 &&& (1 : Int32))), .val (.int ((((p3.toUInt32 >>> ((1 : Int32) &&& 31).toUInt32).toInt32) &&& (255 : Int32)).toUInt32.toUInt16.toUInt32.toInt32)), .unset, .unset, .unset, .unset, .unset]) rfl (XS.iload X0.here hx rfl (hb hby at_119) rfl (XS.bipush X0.here hx rfl (hb hby at_121) (XS.iadd X0.here hx rfl (hb hby at_123) rfl (XS.iload X0.here hx rfl (hb hby at_124) rfl (XS.ifNo X0.here hx rfl (hb hby at_126) rfl ((if0 _ _).trans (feq (by decide : ¬ ((1 : Int32) = (0 : Int32)))).1) (XS.iconst X0.here hx rfl (hb hby at_129) (XS.goto X0.here hx rfl (pc0 := 130) (pc' := 134) rfl (hb hby at_130) (by decide) (by decide) (XS.iadd X0.here hx rfl (hb hby at_134) rfl k)))))))))) ?_
       show own_Fin p e below (s₁.setTop (mkF m 135 #[.val (.long p0), .second, .val (.int p1), .val (.int p2), .val (.int p3), .val (.long (((p0 &&& (9223372036854775807 : Int64)) - ((p0 &&& (9223372036854775807 : Int64)) / (1000000000000000000 : Int64)) * (1000000000000000000 : Int64)) + (1 : Int64))), .second, .val (.int ((p1 &&& (2147483647 : Int32)) % (20 : Int32))), .val (.int 1), .val (.int (p2 &&& (1 : Int32))), .val (.int (((p2.toUInt32 >>> ((1 : Int32) &&& 31).toUInt32).toInt32) % (3 : Int32))), .val (.int (p3 &&& (1 : Int32))), .val (.int ((((p3.toUInt32 >>> ((1 : Int32) &&& 31).toUInt32).toInt32) &&& (255 : Int32)).toUInt32.toUInt16.toUInt32.toInt32)), .unset, .unset, .unset, .unset, .unset] [(.int (((p2 &&& (1 : Int32)) + (18 : Int32)) + (1 : Int32)))])) _
       refine own_go (fun _ k => XS.iload X0.here hx rfl (hb hby at_135) rfl (XS.iadd X0.here hx rfl (hb hby at_137) rfl (XS.istore X0.here hx rfl (hb hby at_138) rfl (l' := #[.val (.long p0), .second, .val (.int p1), .val (.int p2), .val (.int p3), .val (.long (((p0 &&& (9223372036854775807 : Int64)) - ((p0 &&& (9223372036854775807 : Int64)) / (1000000000000000000 : Int64)) * (1000000000000000000 : Int64)) + (1 : Int64))), .second, .val (.int ((p1 &&& (2147483647 : Int32)) % (20 : Int32))), .val (.int 1), .val (.int (p2 &&& (1 : Int32))), .val (.int (((p2.toUInt32 >>> ((1 : Int32) &&& 31).toUInt32).toInt32) % (3 : Int32))), .val (.int (p3 &&& (1 : Int32))), .val (.int ((((p3.toUInt32 >>> ((1 : Int32) &&& 31).toUInt32).toInt32) &&& (255 : Int32)).toUInt32.toUInt16.toUInt32.toInt32)), .val (.int ((((p2 &&& (1 : Int32)) + (18 : Int32)) + (1 : Int32)) + (((p2.toUInt32 >>> ((1 : Int32) &&& 31).toUInt32).toInt32) % (3 : Int32)))), .unset, .unset, .unset, .unset]) rfl k))) ?_
       show own_Fin p e below (s₁.setTop (mkF m 140 #[.val (.long p0), .second, .val (.int p1), .val (.int p2), .val (.int p3), .val (.long (((p0 &&& (9223372036854775807 : Int64)) - ((p0 &&& (9223372036854775807 : Int64)) / (1000000000000000000 : Int64)) * (1000000000000000000 : Int64)) + (1 : Int64))), .second, .val (.int ((p1 &&& (2147483647 : Int32)) % (20 : Int32))), .val (.int 1), .val (.int (p2 &&& (1 : Int32))), .val (.int (((p2.toUInt32 >>> ((1 : Int32) &&& 31).toUInt32).toInt32) % (3 : Int32))), .val (.int (p3 &&& (1 : Int32))), .val (.int ((((p3.toUInt32 >>> ((1 : Int32) &&& 31).toUInt32).toInt32) &&& (255 : Int32)).toUInt32.toUInt16.toUInt32.toInt32)), .val (.int ((((p2 &&& (1 : Int32)) + (18 : Int32)) + (1 : Int32)) + (((p2.toUInt32 >>> ((1 : Int32) &&& 31).toUInt32).toInt32) % (3 : Int32)))), .unset, .unset, .unset, .unset] [])) _
       exact main _ _ _ _ _ _ _ _ (own_hl338 p0 p1 p2 p3 hc24_217 hc38_277 hc49_311 hc65_312 hc91_322)
    ·refine own_go (fun _ k => XS.ifYes X0.here hx rfl (pc0 := 49) (pc' := 58) rfl (hb hby at_49) rfl ((if0 _ _).trans (feq (fun q => hc49_311 ((lw_eq _ _).mp q))).2) (by decide) (by decide) (XS.iloadN X0.here hx rfl (hb hby at_58) rfl (XS.iconst X0.here hx rfl (hb hby at_59) (XS.iand X0.here hx rfl (hb hby at_60) rfl (XS.istore X0.here hx rfl (hb hby at_61) rfl (l' := #[.val (.long p0), .second, .val (.int p1), .val (.int p2), .val (.int p3), .val (.long ((p0 &&& (9223372036854775807 : Int64)) - ((p0 &&& (9223372036854775807 : Int64)) / (1000000000000000000 : Int64)) * (1000000000000000000 : Int64))), .second, .val (.int ((p1 &&& (2147483647 : Int32)) % (20 : Int32))), .val (.int 1), .val (.int (p2 &&& (1 : Int32))), .unset, .unset, .unset, .unset, .unset, .unset, .unset, .unset]) rfl (XS.iload X0.here hx rfl (hb hby at_63) rfl k)))))) ?_
     show own_Fin p e below (s₁.setTop (mkF m 65 #[.val (.long p0), .second, .val (.int p1), .val (.int p2), .val (.int p3), .val (.long ((p0 &&& (9223372036854775807 : Int64)) - ((p0 &&& (9223372036854775807 : Int64)) / (1000000000000000000 : Int64)) * (1000000000000000000 : Int64))), .second, .val (.int ((p1 &&& (2147483647 : Int32)) % (20 : Int32))), .val (.int 1), .val (.int (p2 &&& (1 : Int32))), .unset, .unset, .unset, .unset, .unset, .unset, .unset, .unset] [(.int ((p1 &&& (2147483647 : Int32)) % (20 : Int32)))])) _
     by_cases hc65_345 : ((p1 &&& (2147483647 : Int32)) % (20 : Int32)) = (0 : Int32)
     ·refine own_go (fun _ k => XS.ifNo X0.here hx rfl (hb hby at_65) rfl ((if0 _ _).trans (teq hc65_345).2) (XS.iconst X0.here hx rfl (hb hby at_68) (XS.istore X0.here hx rfl (hb hby at_69) rfl (l' := #[.val (.long p0), .second, .val (.int p1), .val (.int p2), .val (.int p3), .val (.long ((p0 &&& (9223372036854775807 : Int64)) - ((p0 &&& (9223372036854775807 : Int64)) / (1000000000000000000 : Int64)) * (1000000000000000000 : Int64))), .second, .val (.int ((p1 &&& (2147483647 : Int32)) % (20 : Int32))), .val (.int 1), .val (.int 1), .unset, .unset, .unset, .unset, .unset, .unset, .unset, .unset]) rfl (XS.iload X0.here hx rfl (hb hby at_71) rfl (XS.ifNo X0.here hx rfl (hb hby at_73) rfl ((if0 _ _).trans (feq (by decide : ¬ ((1 : Int32) = (0 : Int32)))).1) (XS.iloadN X0.here hx rfl (hb hby at_76) rfl (XS.iconst X0.here hx rfl (hb hby at_77) (XS.iushr X0.here hx rfl (hb hby at_78) rfl (XS.iconst X0.here hx rfl (hb hby at_79) (iremM X0 hx rfl (hb hby at_80) rfl (by decide) k)))))))))) ?_
      show own_Fin p e below (s₁.setTop (mkF m 81 #[.val (.long p0), .second, .val (.int p1), .val (.int p2), .val (.int p3), .val (.long ((p0 &&& (9223372036854775807 : Int64)) - ((p0 &&& (9223372036854775807 : Int64)) / (1000000000000000000 : Int64)) * (1000000000000000000 : Int64))), .second, .val (.int ((p1 &&& (2147483647 : Int32)) % (20 : Int32))), .val (.int 1), .val (.int 1), .unset, .unset, .unset, .unset, .unset, .unset, .unset, .unset] [(.int (((p2.toUInt32 >>> ((1 : Int32) &&& 31).toUInt32).toInt32) % (3 : Int32)))])) _
      refine own_go (fun _ k => XS.goto X0.here hx rfl (pc0 := 81) (pc' := 85) rfl (hb hby at_81) (by decide) (by decide) (XS.istore X0.here hx rfl (hb hby at_85) rfl (l' := #[.val (.long p0), .second, .val (.int p1), .val (.int p2), .val (.int p3), .val (.long ((p0 &&& (9223372036854775807 : Int64)) - ((p0 &&& (9223372036854775807 : Int64)) / (1000000000000000000 : Int64)) * (1000000000000000000 : Int64))), .second, .val (.int ((p1 &&& (2147483647 : Int32)) % (20 : Int32))), .val (.int 1), .val (.int 1), .val (.int (((p2.toUInt32 >>> ((1 : Int32) &&& 31).toUInt32).toInt32) % (3 : Int32))), .unset, .unset, .unset, .unset, .unset, .unset, .unset]) rfl (XS.iload X0.here hx rfl (hb hby at_87) rfl (XS.bipush X0.here hx rfl (hb hby at_89) k)))) ?_
      show own_Fin p e below (s₁.setTop (mkF m 91 #[.val (.long p0), .second, .val (.int p1), .val (.int p2), .val (.int p3), .val (.long ((p0 &&& (9223372036854775807 : Int64)) - ((p0 &&& (9223372036854775807 : Int64)) / (1000000000000000000 : Int64)) * (1000000000000000000 : Int64))), .second, .val (.int ((p1 &&& (2147483647 : Int32)) % (20 : Int32))), .val (.int 1), .val (.int 1), .val (.int (((p2.toUInt32 >>> ((1 : Int32) &&& 31).toUInt32).toInt32) % (3 : Int32))), .unset, .unset, .unset, .unset, .unset, .unset, .unset] [(.int 18), (.int ((p1 &&& (2147483647 : Int32)) % (20 : Int32)))])) _
      by_cases hc91_346 : ((p1 &&& (2147483647 : Int32)) % (20 : Int32)) = (18 : Int32)
      ·refine own_go (fun _ k => XS.icmpNo X0.here hx rfl (hb hby at_91) rfl (teq hc91_346).2 (XS.iload X0.here hx rfl (hb hby at_94) rfl k)) ?_
       show own_Fin p e below (s₁.setTop (mkF m 96 #[.val (.long p0), .second, .val (.int p1), .val (.int p2), .val (.int p3), .val (.long ((p0 &&& (9223372036854775807 : Int64)) - ((p0 &&& (9223372036854775807 : Int64)) / (1000000000000000000 : Int64)) * (1000000000000000000 : Int64))), .second, .val (.int ((p1 &&& (2147483647 : Int32)) % (20 : Int32))), .val (.int 1), .val (.int 1), .val (.int (((p2.toUInt32 >>> ((1 : Int32) &&& 31).toUInt32).toInt32) % (3 : Int32))), .unset, .unset, .unset, .unset, .unset, .unset, .unset] [(.int (((p2.toUInt32 >>> ((1 : Int32) &&& 31).toUInt32).toInt32) % (3 : Int32)))])) _
       by_cases hc96_347 : (((p2.toUInt32 >>> ((1 : Int32) &&& 31).toUInt32).toInt32) % (3 : Int32)) = (0 : Int32)
       ·refine own_go (fun _ k => XS.ifNo X0.here hx rfl (hb hby at_96) rfl ((if0 _ _).trans (teq hc96_347).2) (XS.iconst X0.here hx rfl (hb hby at_99) (XS.istore X0.here hx rfl (hb hby at_100) rfl (l' := #[.val (.long p0), .second, .val (.int p1), .val (.int p2), .val (.int p3), .val (.long ((p0 &&& (9223372036854775807 : Int64)) - ((p0 &&& (9223372036854775807 : Int64)) / (1000000000000000000 : Int64)) * (1000000000000000000 : Int64))), .second, .val (.int ((p1 &&& (2147483647 : Int32)) % (20 : Int32))), .val (.int 1), .val (.int 1), .val (.int 1), .unset, .unset, .unset, .unset, .unset, .unset, .unset]) rfl (XS.iload X0.here hx rfl (hb hby at_102) rfl (XS.iconst X0.here hx rfl (hb hby at_104) (XS.iand X0.here hx rfl (hb hby at_105) rfl (XS.istore X0.here hx rfl (hb hby at_106) rfl (l' := #[.val (.long p0), .second, .val (.int p1), .val (.int p2), .val (.int p3), .val (.long ((p0 &&& (9223372036854775807 : Int64)) - ((p0 &&& (9223372036854775807 : Int64)) / (1000000000000000000 : Int64)) * (1000000000000000000 : Int64))), .second, .val (.int ((p1 &&& (2147483647 : Int32)) % (20 : Int32))), .val (.int 1), .val (.int 1), .val (.int 1), .val (.int (p3 &&& (1 : Int32))), .unset, .unset, .unset, .unset, .unset, .unset]) rfl (XS.iload X0.here hx rfl (hb hby at_108) rfl (XS.iconst X0.here hx rfl (hb hby at_110) (XS.iushr X0.here hx rfl (hb hby at_111) rfl k)))))))))) ?_
        show own_Fin p e below (s₁.setTop (mkF m 112 #[.val (.long p0), .second, .val (.int p1), .val (.int p2), .val (.int p3), .val (.long ((p0 &&& (9223372036854775807 : Int64)) - ((p0 &&& (9223372036854775807 : Int64)) / (1000000000000000000 : Int64)) * (1000000000000000000 : Int64))), .second, .val (.int ((p1 &&& (2147483647 : Int32)) % (20 : Int32))), .val (.int 1), .val (.int 1), .val (.int 1), .val (.int (p3 &&& (1 : Int32))), .unset, .unset, .unset, .unset, .unset, .unset] [(.int ((p3.toUInt32 >>> ((1 : Int32) &&& 31).toUInt32).toInt32))])) _
        refine own_go (fun _ k => XS.sipush X0.here hx rfl (hb hby at_112) (XS.iand X0.here hx rfl (hb hby at_115) rfl (XS.i2c X0.here hx rfl (hb hby at_116) rfl (XS.istore X0.here hx rfl (hb hby at_117) rfl (l' := #[.val (.long p0), .second, .val (.int p1), .val (.int p2), .val (.int p3), .val (.long ((p0 &&& (9223372036854775807 : Int64)) - ((p0 &&& (9223372036854775807 : Int64)) / (1000000000000000000 : Int64)) * (1000000000000000000 : Int64))), .second, .val (.int ((p1 &&& (2147483647 : Int32)) % (20 : Int32))), .val (.int 1), .val (.int 1), .val (.int 1), .val (.int (p3 &&& (1 : Int32))), .val (.int ((((p3.toUInt32 >>> ((1 : Int32) &&& 31).toUInt32).toInt32) &&& (255 : Int32)).toUInt32.toUInt16.toUInt32.toInt32)), .unset, .unset, .unset, .unset, .unset]) rfl (XS.iload X0.here hx rfl (hb hby at_119) rfl (XS.bipush X0.here hx rfl (hb hby at_121) (XS.iadd X0.here hx rfl (hb hby at_123) rfl (XS.iload X0.here hx rfl (hb hby at_124) rfl (XS.ifNo X0.here hx rfl (hb hby at_126) rfl ((if0 _ _).trans (feq (by decide : ¬ ((1 : Int32) = (0 : Int32)))).1) (XS.iconst X0.here hx rfl (hb hby at_129) k)))))))))) ?_
        show own_Fin p e below (s₁.setTop (mkF m 130 #[.val (.long p0), .second, .val (.int p1), .val (.int p2), .val (.int p3), .val (.long ((p0 &&& (9223372036854775807 : Int64)) - ((p0 &&& (9223372036854775807 : Int64)) / (1000000000000000000 : Int64)) * (1000000000000000000 : Int64))), .second, .val (.int ((p1 &&& (2147483647 : Int32)) % (20 : Int32))), .val (.int 1), .val (.int 1), .val (.int 1), .val (.int (p3 &&& (1 : Int32))), .val (.int ((((p3.toUInt32 >>> ((1 : Int32) &&& 31).toUInt32).toInt32) &&& (255 : Int32)).toUInt32.toUInt16.toUInt32.toInt32)), .unset, .unset, .unset, .unset, .unset] [(.int 1), (.int 19)])) _
        refine own_go (fun _ k => XS.goto X0.here hx rfl (pc0 := 130) (pc' := 134) rfl (hb hby at_130) (by decide) (by decide) (XS.iadd X0.here hx rfl (hb hby at_134) rfl (XS.iload X0.here hx rfl (hb hby at_135) rfl (XS.iadd X0.here hx rfl (hb hby at_137) rfl (XS.istore X0.here hx rfl (hb hby at_138) rfl (l' := #[.val (.long p0), .second, .val (.int p1), .val (.int p2), .val (.int p3), .val (.long ((p0 &&& (9223372036854775807 : Int64)) - ((p0 &&& (9223372036854775807 : Int64)) / (1000000000000000000 : Int64)) * (1000000000000000000 : Int64))), .second, .val (.int ((p1 &&& (2147483647 : Int32)) % (20 : Int32))), .val (.int 1), .val (.int 1), .val (.int 1), .val (.int (p3 &&& (1 : Int32))), .val (.int ((((p3.toUInt32 >>> ((1 : Int32) &&& 31).toUInt32).toInt32) &&& (255 : Int32)).toUInt32.toUInt16.toUInt32.toInt32)), .val (.int 21), .unset, .unset, .unset, .unset]) rfl k))))) ?_
        show own_Fin p e below (s₁.setTop (mkF m 140 #[.val (.long p0), .second, .val (.int p1), .val (.int p2), .val (.int p3), .val (.long ((p0 &&& (9223372036854775807 : Int64)) - ((p0 &&& (9223372036854775807 : Int64)) / (1000000000000000000 : Int64)) * (1000000000000000000 : Int64))), .second, .val (.int ((p1 &&& (2147483647 : Int32)) % (20 : Int32))), .val (.int 1), .val (.int 1), .val (.int 1), .val (.int (p3 &&& (1 : Int32))), .val (.int ((((p3.toUInt32 >>> ((1 : Int32) &&& 31).toUInt32).toInt32) &&& (255 : Int32)).toUInt32.toUInt16.toUInt32.toInt32)), .val (.int 21), .unset, .unset, .unset, .unset] [])) _
        exact main _ _ _ _ _ _ _ _ (own_hl348 p0 p1 p2 p3 hc24_217 hc38_277 hc49_311 hc65_345 hc91_346 hc96_347)
       ·refine own_go (fun _ k => XS.ifYes X0.here hx rfl (pc0 := 96) (pc' := 102) rfl (hb hby at_96) rfl ((if0 _ _).trans (feq hc96_347).2) (by decide) (by decide) (XS.iload X0.here hx rfl (hb hby at_102) rfl (XS.iconst X0.here hx rfl (hb hby at_104) (XS.iand X0.here hx rfl (hb hby at_105) rfl (XS.istore X0.here hx rfl (hb hby at_106) rfl (l' := #[.val (.long p0), .second, .val (.int p1), .val (.int p2), .val (.int p3), .val (.long ((p0 &&& (9223372036854775807 : Int64)) - ((p0 &&& (9223372036854775807 : Int64)) / (1000000000000000000 : Int64)) * (1000000000000000000 : Int64))), .second, .val (.int ((p1 &&& (2147483647 : Int32)) % (20 : Int32))), .val (.int 1), .val (.int 1), .val (.int (((p2.toUInt32 >>> ((1 : Int32) &&& 31).toUInt32).toInt32) % (3 : Int32))), .val (.int (p3 &&& (1 : Int32))), .unset, .unset, .unset, .unset, .unset, .unset]) rfl (XS.iload X0.here hx rfl (hb hby at_108) rfl (XS.iconst X0.here hx rfl (hb hby at_110) (XS.iushr X0.here hx rfl (hb hby at_111) rfl (XS.sipush X0.here hx rfl (hb hby at_112) (XS.iand X0.here hx rfl (hb hby at_115) rfl k)))))))))) ?_
        show own_Fin p e below (s₁.setTop (mkF m 116 #[.val (.long p0), .second, .val (.int p1), .val (.int p2), .val (.int p3), .val (.long ((p0 &&& (9223372036854775807 : Int64)) - ((p0 &&& (9223372036854775807 : Int64)) / (1000000000000000000 : Int64)) * (1000000000000000000 : Int64))), .second, .val (.int ((p1 &&& (2147483647 : Int32)) % (20 : Int32))), .val (.int 1), .val (.int 1), .val (.int (((p2.toUInt32 >>> ((1 : Int32) &&& 31).toUInt32).toInt32) % (3 : Int32))), .val (.int (p3 &&& (1 : Int32))), .unset, .unset, .unset, .unset, .unset, .unset] [(.int (((p3.toUInt32 >>> ((1 : Int32) &&& 31).toUInt32).toInt32) &&& (255 : Int32)))])) _
        refine own_go (fun _ k => XS.i2c X0.here hx rfl (hb hby at_116) rfl (XS.istore X0.here hx rfl (hb hby at_117) rfl (l' := #[.val (.long p0), .second, .val (.int p1), .val (.int p2), .val (.int p3), .val (.long ((p0 &&& (9223372036854775807 : Int64)) - ((p0 &&& (9223372036854775807 : Int64)) / (1000000000000000000 : Int64)) * (1000000000000000000 : Int64))), .second, .val (.int ((p1 &&& (2147483647 : Int32)) % (20 : Int32))), .val (.int 1), .val (.int 1), .val (.int (((p2.toUInt32 >>> ((1 : Int32) &&& 31).toUInt32).toInt32) % (3 : Int32))), .val (.int (p3 &&& (1 : Int32))), .val (.int ((((p3.toUInt32 >>> ((1 : Int32) &&& 31).toUInt32).toInt32) &&& (255 : Int32)).toUInt32.toUInt16.toUInt32.toInt32)), .unset, .unset, .unset, .unset, .unset]) rfl (XS.iload X0.here hx rfl (hb hby at_119) rfl (XS.bipush X0.here hx rfl (hb hby at_121) (XS.iadd X0.here hx rfl (hb hby at_123) rfl (XS.iload X0.here hx rfl (hb hby at_124) rfl (XS.ifNo X0.here hx rfl (hb hby at_126) rfl ((if0 _ _).trans (feq (by decide : ¬ ((1 : Int32) = (0 : Int32)))).1) (XS.iconst X0.here hx rfl (hb hby at_129) (XS.goto X0.here hx rfl (pc0 := 130) (pc' := 134) rfl (hb hby at_130) (by decide) (by decide) (XS.iadd X0.here hx rfl (hb hby at_134) rfl k)))))))))) ?_
        show own_Fin p e below (s₁.setTop (mkF m 135 #[.val (.long p0), .second, .val (.int p1), .val (.int p2), .val (.int p3), .val (.long ((p0 &&& (9223372036854775807 : Int64)) - ((p0 &&& (9223372036854775807 : Int64)) / (1000000000000000000 : Int64)) * (1000000000000000000 : Int64))), .second, .val (.int ((p1 &&& (2147483647 : Int32)) % (20 : Int32))), .val (.int 1), .val (.int 1), .val (.int (((p2.toUInt32 >>> ((1 : Int32) &&& 31).toUInt32).toInt32) % (3 : Int32))), .val (.int (p3 &&& (1 : Int32))), .val (.int ((((p3.toUInt32 >>> ((1 : Int32) &&& 31).toUInt32).toInt32) &&& (255 : Int32)).toUInt32.toUInt16.toUInt32.toInt32)), .unset, .unset, .unset, .unset, .unset] [(.int 20)])) _
        refine own_go (fun _ k => XS.iload X0.here hx rfl (hb hby at_135) rfl (XS.iadd X0.here hx rfl (hb hby at_137) rfl (XS.istore X0.here hx rfl (hb hby at_138) rfl (l' := #[.val (.long p0), .second, .val (.int p1), .val (.int p2), .val (.int p3), .val (.long ((p0 &&& (9223372036854775807 : Int64)) - ((p0 &&& (9223372036854775807 : Int64)) / (1000000000000000000 : Int64)) * (1000000000000000000 : Int64))), .second, .val (.int ((p1 &&& (2147483647 : Int32)) % (20 : Int32))), .val (.int 1), .val (.int 1), .val (.int (((p2.toUInt32 >>> ((1 : Int32) &&& 31).toUInt32).toInt32) % (3 : Int32))), .val (.int (p3 &&& (1 : Int32))), .val (.int ((((p3.toUInt32 >>> ((1 : Int32) &&& 31).toUInt32).toInt32) &&& (255 : Int32)).toUInt32.toUInt16.toUInt32.toInt32)), .val (.int ((20 : Int32) + (((p2.toUInt32 >>> ((1 : Int32) &&& 31).toUInt32).toInt32) % (3 : Int32)))), .unset, .unset, .unset, .unset]) rfl k))) ?_
        show own_Fin p e below (s₁.setTop (mkF m 140 #[.val (.long p0), .second, .val (.int p1), .val (.int p2), .val (.int p3), .val (.long ((p0 &&& (9223372036854775807 : Int64)) - ((p0 &&& (9223372036854775807 : Int64)) / (1000000000000000000 : Int64)) * (1000000000000000000 : Int64))), .second, .val (.int ((p1 &&& (2147483647 : Int32)) % (20 : Int32))), .val (.int 1), .val (.int 1), .val (.int (((p2.toUInt32 >>> ((1 : Int32) &&& 31).toUInt32).toInt32) % (3 : Int32))), .val (.int (p3 &&& (1 : Int32))), .val (.int ((((p3.toUInt32 >>> ((1 : Int32) &&& 31).toUInt32).toInt32) &&& (255 : Int32)).toUInt32.toUInt16.toUInt32.toInt32)), .val (.int ((20 : Int32) + (((p2.toUInt32 >>> ((1 : Int32) &&& 31).toUInt32).toInt32) % (3 : Int32)))), .unset, .unset, .unset, .unset] [])) _
        exact main _ _ _ _ _ _ _ _ (own_hl349 p0 p1 p2 p3 hc24_217 hc38_277 hc49_311 hc65_345 hc91_346 hc96_347)
      ·refine own_go (fun _ k => XS.icmpYes X0.here hx rfl (pc0 := 91) (pc' := 102) rfl (hb hby at_91) rfl (feq hc91_346).2 (by decide) (by decide) (XS.iload X0.here hx rfl (hb hby at_102) rfl (XS.iconst X0.here hx rfl (hb hby at_104) (XS.iand X0.here hx rfl (hb hby at_105) rfl (XS.istore X0.here hx rfl (hb hby at_106) rfl (l' := #[.val (.long p0), .second, .val (.int p1), .val (.int p2), .val (.int p3), .val (.long ((p0 &&& (9223372036854775807 : Int64)) - ((p0 &&& (9223372036854775807 : Int64)) / (1000000000000000000 : Int64)) * (1000000000000000000 : Int64))), .second, .val (.int ((p1 &&& (2147483647 : Int32)) % (20 : Int32))), .val (.int 1), .val (.int 1), .val (.int (((p2.toUInt32 >>> ((1 : Int32) &&& 31).toUInt32).toInt32) % (3 : Int32))), .val (.int (p3 &&& (1 : Int32))), .unset, .unset, .unset, .unset, .unset, .unset]) rfl (XS.iload X0.here hx rfl (hb hby at_108) rfl (XS.iconst X0.here hx rfl (hb hby at_110) (XS.iushr X0.here hx rfl (hb hby at_111) rfl (XS.sipush X0.here hx rfl (hb hby at_112) (XS.iand X0.here hx rfl (hb hby at_115) rfl k)))))))))) ?_
       show own_Fin p e below (s₁.setTop (mkF m 116 #[.val (.long p0), .second, .val (.int p1), .val (.int p2), .val (.int p3), .val (.long ((p0 &&& (9223372036854775807 : Int64)) - ((p0 &&& (9223372036854775807 : Int64)) / (1000000000000000000 : Int64)) * (1000000000000000000 : Int64))), .second, .val (.int ((p1 &&& (2147483647 : Int32)) % (20 : Int32))), .val (.int 1), .val (.int 1), .val (.int (((p2.toUInt32 >>> ((1 : Int32) &&& 31).toUInt32).toInt32) % (3 : Int32))), .val (.int (p3 &&& (1 : Int32))), .unset, .unset, .unset, .unset, .unset, .unset] [(.int (((p3.toUInt32 >>> ((1 : Int32) &&& 31).toUInt32).toInt32) &&& (255 : Int32)))])) _
       refine own_go (fun _ k => XS.i2c X0.here hx rfl (hb hby at_116) rfl (XS.istore X0.here hx rfl (hb hby at_117) rfl (l' := #[.val (.long p0), .second, .val (.int p1), .val (.int p2), .val (.int p3), .val (.long ((p0 &&& (9223372036854775807 : Int64)) - ((p0 &&& (9223372036854775807 : Int64)) / (1000000000000000000 : Int64)) * (1000000000000000000 : Int64))), .second, .val (.int ((p1 &&& (2147483647 : Int32)) % (20 : Int32))), .val (.int 1), .val (.int 1), .val (.int (((p2.toUInt32 >>> ((1 : Int32) &&& 31).toUInt32).toInt32) % (3 : Int32))), .val (.int (p3 &&& (1 : Int32))), .val (.int ((((p3.toUInt32 >>> ((1 : Int32) &&& 31).toUInt32).toInt32) &&& (255 : Int32)).toUInt32.toUInt16.toUInt32.toInt32)), .unset, .unset, .unset, .unset, .unset]) rfl (XS.iload X0.here hx rfl (hb hby at_119) rfl (XS.bipush X0.here hx rfl (hb hby at_121) (XS.iadd X0.here hx rfl (hb hby at_123) rfl (XS.iload X0.here hx rfl (hb hby at_124) rfl (XS.ifNo X0.here hx rfl (hb hby at_126) rfl ((if0 _ _).trans (feq (by decide : ¬ ((1 : Int32) = (0 : Int32)))).1) (XS.iconst X0.here hx rfl (hb hby at_129) (XS.goto X0.here hx rfl (pc0 := 130) (pc' := 134) rfl (hb hby at_130) (by decide) (by decide) (XS.iadd X0.here hx rfl (hb hby at_134) rfl k)))))))))) ?_
       show own_Fin p e below (s₁.setTop (mkF m 135 #[.val (.long p0), .second, .val (.int p1), .val (.int p2), .val (.int p3), .val (.long ((p0 &&& (9223372036854775807 : Int64)) - ((p0 &&& (9223372036854775807 : Int64)) / (1000000000000000000 : Int64)) * (1000000000000000000 : Int64))), .second, .val (.int ((p1 &&& (2147483647 : Int32)) % (20 : Int32))), .val (.int 1), .val (.int 1), .val (.int (((p2.toUInt32 >>> ((1 : Int32) &&& 31).toUInt32).toInt32) % (3 : Int32))), .val (.int (p3 &&& (1 : Int32))), .val (.int ((((p3.toUInt32 >>> ((1 : Int32) &&& 31).toUInt32).toInt32) &&& (255 : Int32)).toUInt32.toUInt16.toUInt32.toInt32)), .unset, .unset, .unset, .unset, .unset] [(.int 20)])) _
       refine own_go (fun _ k => XS.iload X0.here hx rfl (hb hby at_135) rfl (XS.iadd X0.here hx rfl (hb hby at_137) rfl (XS.istore X0.here hx rfl (hb hby at_138) rfl (l' := #[.val (.long p0), .second, .val (.int p1), .val (.int p2), .val (.int p3), .val (.long ((p0 &&& (9223372036854775807 : Int64)) - ((p0 &&& (9223372036854775807 : Int64)) / (1000000000000000000 : Int64)) * (1000000000000000000 : Int64))), .second, .val (.int ((p1 &&& (2147483647 : Int32)) % (20 : Int32))), .val (.int 1), .val (.int 1), .val (.int (((p2.toUInt32 >>> ((1 : Int32) &&& 31).toUInt32).toInt32) % (3 : Int32))), .val (.int (p3 &&& (1 : Int32))), .val (.int ((((p3.toUInt32 >>> ((1 : Int32) &&& 31).toUInt32).toInt32) &&& (255 : Int32)).toUInt32.toUInt16.toUInt32.toInt32)), .val (.int ((20 : Int32) + (((p2.toUInt32 >>> ((1 : Int32) &&& 31).toUInt32).toInt32) % (3 : Int32)))), .unset, .unset, .unset, .unset]) rfl k))) ?_
       show own_Fin p e below (s₁.setTop (mkF m 140 #[.val (.long p0), .second, .val (.int p1), .val (.int p2), .val (.int p3), .val (.long ((p0 &&& (9223372036854775807 : Int64)) - ((p0 &&& (9223372036854775807 : Int64)) / (1000000000000000000 : Int64)) * (1000000000000000000 : Int64))), .second, .val (.int ((p1 &&& (2147483647 : Int32)) % (20 : Int32))), .val (.int 1), .val (.int 1), .val (.int (((p2.toUInt32 >>> ((1 : Int32) &&& 31).toUInt32).toInt32) % (3 : Int32))), .val (.int (p3 &&& (1 : Int32))), .val (.int ((((p3.toUInt32 >>> ((1 : Int32) &&& 31).toUInt32).toInt32) &&& (255 : Int32)).toUInt32.toUInt16.toUInt32.toInt32)), .val (.int ((20 : Int32) + (((p2.toUInt32 >>> ((1 : Int32) &&& 31).toUInt32).toInt32) % (3 : Int32)))), .unset, .unset, .unset, .unset] [])) _
       exact main _ _ _ _ _ _ _ _ (own_hl352 p0 p1 p2 p3 hc24_217 hc38_277 hc49_311 hc65_345 hc91_346)
     ·refine own_go (fun _ k => XS.ifYes X0.here hx rfl (pc0 := 65) (pc' := 71) rfl (hb hby at_65) rfl ((if0 _ _).trans (feq hc65_345).2) (by decide) (by decide) (XS.iload X0.here hx rfl (hb hby at_71) rfl (XS.ifNo X0.here hx rfl (hb hby at_73) rfl ((if0 _ _).trans (feq (by decide : ¬ ((1 : Int32) = (0 : Int32)))).1) (XS.iloadN X0.here hx rfl (hb hby at_76) rfl (XS.iconst X0.here hx rfl (hb hby at_77) (XS.iushr X0.here hx rfl (hb hby at_78) rfl (XS.iconst X0.here hx rfl (hb hby at_79) (iremM X0 hx rfl (hb hby at_80) rfl (by decide) (XS.goto X0.here hx rfl (pc0 := 81) (pc' := 85) rfl (hb hby at_81) (by decide) (by decide) (XS.istore X0.here hx rfl (hb hby at_85) rfl (l' := #[.val (.long p0), .second, .val (.int p1), .val (.int p2), .val (.int p3), .val (.long ((p0 &&& (9223372036854775807 : Int64)) - ((p0 &&& (9223372036854775807 : Int64)) / (1000000000000000000 : Int64)) * (1000000000000000000 : Int64))), .second, .val (.int ((p1 &&& (2147483647 : Int32)) % (20 : Int32))), .val (.int 1), .val (.int (p2 &&& (1 : Int32))), .val (.int (((p2.toUInt32 >>> ((1 : Int32) &&& 31).toUInt32).toInt32) % (3 : Int32))), .unset, .unset, .unset, .unset, .unset, .unset, .unset]) rfl k)))))))))) ?_
      show own_Fin p e below (s₁.setTop (mkF m 87 #[.val (.long p0), .second, .val (.int p1), .val (.int p2), .val (.int p3), .val (.long ((p0 &&& (9223372036854775807 : Int64)) - ((p0 &&& (9223372036854775807 : Int64)) / (1000000000000000000 : Int64)) * (1000000000000000000 : Int64))), .second, .val (.int ((p1 &&& (2147483647 : Int32)) % (20 : Int32))), .val (.int 1), .val (.int (p2 &&& (1 : Int32))), .val (.int (((p2.toUInt32 >>> ((1 : Int32) &&& 31).toUInt32).toInt32) % (3 : Int32))), .unset, .unset, .unset, .unset, .unset, .unset, .unset] [])) _
      refine own_go (fun _ k => XS.iload X0.here hx rfl (hb hby at_87) rfl (XS.bipush X0.here hx rfl (hb hby at_89) k)) ?_
      show own_Fin p e below (s₁.setTop (mkF m 91 #[.val (.long p0), .second, .val (.int p1), .val (.int p2), .val (.int p3), .val (.long ((p0 &&& (9223372036854775807 : Int64)) - ((p0 &&& (9223372036854775807 : Int64)) / (1000000000000000000 : Int64)) * (1000000000000000000 : Int64))), .second, .val (.int ((p1 &&& (2147483647 : Int32)) % (20 : Int32))), .val (.int 1), .val (.int (p2 &&& (1 : Int32))), .val (.int (((p2.toUInt32 >>> ((1 : Int32) &&& 31).toUInt32).toInt32) % (3 : Int32))), .unset, .unset, .unset, .unset, .unset, .unset, .unset] [(.int 18), (.int ((p1 &&& (2147483647 : Int32)) % (20 : Int32)))])) _
      by_cases hc91_355 : ((p1 &&& (2147483647 : Int32)) % (20 : Int32)) = (18 : Int32)
      ·refine own_go (fun _ k => XS.icmpNo X0.here hx rfl (hb hby at_91) rfl (teq hc91_355).2 (XS.iload X0.here hx rfl (hb hby at_94) rfl k)) ?_
       show own_Fin p e below (s₁.setTop (mkF m 96 #[.val (.long p0), .second, .val (.int p1), .val (.int p2), .val (.int p3), .val (.long ((p0 &&& (9223372036854775807 : Int64)) - ((p0 &&& (9223372036854775807 : Int64)) / (1000000000000000000 : Int64)) * (1000000000000000000 : Int64))), .second, .val (.int ((p1 &&& (2147483647 : Int32)) % (20 : Int32))), .val (.int 1), .val (.int (p2 &&& (1 : Int32))), .val (.int (((p2.toUInt32 >>> ((1 : Int32) &&& 31).toUInt32).toInt32) % (3 : Int32))), .unset, .unset, .unset, .unset, .unset, .unset, .unset] [(.int (((p2.toUInt32 >>> ((1 : Int32) &&& 31).toUInt32).toInt32) % (3 : Int32)))])) _
       by_cases hc96_356 : (((p2.toUInt32 >>> ((1 : Int32) &&& 31).toUInt32).toInt32) % (3 : Int32)) = (0 : Int32)
       ·refine own_go (fun _ k => XS.ifNo X0.here hx rfl (hb hby at_96) rfl ((if0 _ _).trans (teq hc96_356).2) (XS.iconst X0.here hx rfl (hb hby at_99) (XS.istore X0.here hx rfl (hb hby at_100) rfl (l' := #[.val (.long p0), .second, .val (.int p1), .val (.int p2), .val (.int p3), .val (.long ((p0 &&& (9223372036854775807 : Int64)) - ((p0 &&& (9223372036854775807 : Int64)) / (1000000000000000000 : Int64)) * (1000000000000000000 : Int64))), .second, .val (.int ((p1 &&& (2147483647 : Int32)) % (20 : Int32))), .val (.int 1), .val (.int (p2 &&& (1 : Int32))), .val (.int 1), .unset, .unset, .unset, .unset, .unset, .unset, .unset]) rfl (XS.iload X0.here hx rfl (hb hby at_102) rfl (XS.iconst X0.here hx rfl (hb hby at_104) (XS.iand X0.here hx rfl (hb hby at_105) rfl (XS.istore X0.here hx rfl (hb hby at_106) rfl (l' := #[.val (.long p0), .second, .val (.int p1), .val (.int p2), .val (.int p3), .val (.long ((p0 &&& (9223372036854775807 : Int64)) - ((p0 &&& (9223372036854775807 : Int64)) / (1000000000000000000 : Int64)) * (1000000000000000000 : Int64))), .second, .val (.int ((p1 &&& (2147483647 : Int32)) % (20 : Int32))), .val (.int 1), .val (.int (p2 &&& (1 : Int32))), .val (.int 1), .val (.int (p3 &&& (1 : Int32))), .unset, .unset, .unset, .unset, .unset, .unset]) rfl (XS.iload X0.here hx rfl (hb hby at_108) rfl (XS.iconst X0.here hx rfl (hb hby at_110) (XS.iushr X0.here hx rfl (hb hby at_111) rfl k)))))))))) ?_
        show own_Fin p e below (s₁.setTop (mkF m 112 #[.val (.long p0), .second, .val (.int p1), .val (.int p2), .val (.int p3), .val (.long ((p0 &&& (9223372036854775807 : Int64)) - ((p0 &&& (9223372036854775807 : Int64)) / (1000000000000000000 : Int64)) * (1000000000000000000 : Int64))), .second, .val (.int ((p1 &&& (2147483647 : Int32)) % (20 : Int32))), .val (.int 1), .val (.int (p2 &&& (1 : Int32))), .val (.int 1), .val (.int (p3 &&& (1 : Int32))), .unset, .unset, .unset, .unset, .unset, .unset] [(.int ((p3.toUInt32 >>> ((1 : Int32) &&& 31).toUInt32).toInt32))])) _
        refine own_go (fun _ k => XS.sipush X0.here hx rfl (hb hby at_112) (XS.iand X0.here hx rfl (hb hby at_115) rfl (XS.i2c X0.here hx rfl (hb hby at_116) rfl (XS.istore X0.here hx rfl (hb hby at_117) rfl (l' := #[.val (.long p0), .second, .val (.int p1), .val (.int p2), .val (.int p3), .val (.long ((p0 &&& (9223372036854775807 : Int64)) - ((p0 &&& (9223372036854775807 : Int64)) / (1000000000000000000 : Int64)) * (1000000000000000000 : Int64))), .second, .val (.int ((p1 &&& (2147483647 : Int32)) % (20 : Int32))), .val (.int 1), .val (.int (p2 &&& (1 : Int32))), .val (.int 1), .val (.int (p3 &&& (1 : Int32))), .val (.int ((((p3.toUInt32 >>> ((1 : Int32) &&& 31).toUInt32).toInt32) &&& (255 : Int32)).toUInt32.toUInt16.toUInt32.toInt32)), .unset, .unset, .unset, .unset, .unset]) rfl (XS.iload X0.here hx rfl (hb hby at_119) rfl (XS.bipush X0.here hx rfl (hb hby at_121) (XS.iadd X0.here hx rfl (hb hby at_123) rfl (XS.iload X0.here hx rfl (hb hby at_124) rfl (XS.ifNo X0.here hx rfl (hb hby at_126) rfl ((if0 _ _).trans (feq (by decide : ¬ ((1 : Int32) = (0 : Int32)))).1) (XS.iconst X0.here hx rfl (hb hby at_129) k)))))))))) ?_
        show own_Fin p e below (s₁.setTop (mkF m 130 #[.val (.long p0), .second, .val (.int p1), .val (.int p2), .val (.int p3), .val (.long ((p0 &&& (9223372036854775807 : Int64)) - ((p0 &&& (9223372036854775807 : Int64)) / (1000000000000000000 : Int64)) * (1000000000000000000 : Int64))), .second, .val (.int ((p1 &&& (2147483647 : Int32)) % (20 : Int32))), .val (.int 1), .val (.int (p2 &&& (1 : Int32))), .val (.int 1), .val (.int (p3 &&& (1 : Int32))), .val (.int ((((p3.toUInt32 >>> ((1 : Int32) &&& 31).toUInt32).toInt32) &&& (255 : Int32)).toUInt32.toUInt16.toUInt32.toInt32)), .unset, .unset, .unset, .unset, .unset] [(.int 1), (.int ((p2 &&& (1 : Int32)) + (18 : Int32)))])) _
        refine own_go (fun _ k => XS.goto X0.here hx rfl (pc0 := 130) (pc' := 134) rfl (hb hby at_130) (by decide) (by decide) (XS.iadd X0.here hx rfl (hb hby at_134) rfl (XS.iload X0.here hx rfl (hb hby at_135) rfl (XS.iadd X0.here hx rfl (hb hby at_137) rfl (XS.istore X0.here hx rfl (hb hby at_138) rfl (l' := #[.val (.long p0), .second, .val (.int p1), .val (.int p2), .val (.int p3), .val (.long ((p0 &&& (9223372036854775807 : Int64)) - ((p0 &&& (9223372036854775807 : Int64)) / (1000000000000000000 : Int64)) * (1000000000000000000 : Int64))), .second, .val (.int ((p1 &&& (2147483647 : Int32)) % (20 : Int32))), .val (.int 1), .val (.int (p2 &&& (1 : Int32))), .val (.int 1), .val (.int (p3 &&& (1 : Int32))), .val (.int ((((p3.toUInt32 >>> ((1 : Int32) &&& 31).toUInt32).toInt32) &&& (255 : Int32)).toUInt32.toUInt16.toUInt32.toInt32)), .val (.int ((((p2 &&& (1 : Int32)) + (18 : Int32)) + (1 : Int32)) + (1 : Int32))), .unset, .unset, .unset, .unset]) rfl k))))) ?_
        show own_Fin p e below (s₁.setTop (mkF m 140 #[.val (.long p0), .second, .val (.int p1), .val (.int p2), .val (.int p3), .val (.long ((p0 &&& (9223372036854775807 : Int64)) - ((p0 &&& (9223372036854775807 : Int64)) / (1000000000000000000 : Int64)) * (1000000000000000000 : Int64))), .second, .val (.int ((p1 &&& (2147483647 : Int32)) % (20 : Int32))), .val (.int 1), .val (.int (p2 &&& (1 : Int32))), .val (.int 1), .val (.int (p3 &&& (1 : Int32))), .val (.int ((((p3.toUInt32 >>> ((1 : Int32) &&& 31).toUInt32).toInt32) &&& (255 : Int32)).toUInt32.toUInt16.toUInt32.toInt32)), .val (.int ((((p2 &&& (1 : Int32)) + (18 : Int32)) + (1 : Int32)) + (1 : Int32))), .unset, .unset, .unset, .unset] [])) _
        exact main _ _ _ _ _ _ _ _ (own_hl357 p0 p1 p2 p3 hc24_217 hc38_277 hc49_311 hc65_345 hc91_355 hc96_356)
       ·refine own_go (fun _ k => XS.ifYes X0.here hx rfl (pc0 := 96) (pc' := 102) rfl (hb hby at_96) rfl ((if0 _ _).trans (feq hc96_356).2) (by decide) (by decide) (XS.iload X0.here hx rfl (hb hby at_102) rfl (XS.iconst X0.here hx rfl (hb hby at_104) (XS.iand X0.here hx rfl (hb hby at_105) rfl (XS.istore X0.here hx rfl (hb hby at_106) rfl (l' := #[.val (.long p0), .second, .val (.int p1), .val (.int p2), .val (.int p3), .val (.long ((p0 &&& (9223372036854775807 : Int64)) - ((p0 &&& (9223372036854775807 : Int64)) / (1000000000000000000 : Int64)) * (1000000000000000000 : Int64))), .second, .val (.int ((p1 &&& (2147483647 : Int32)) % (20 : Int32))), .val (.int 1), .val (.int (p2 &&& (1 : Int32))), .val (.int (((p2.toUInt32 >>> ((1 : Int32) &&& 31).toUInt32).toInt32) % (3 : Int32))), .val (.int (p3 &&& (1 : Int32))), .unset, .unset, .unset, .unset, .unset, .unset]) rfl (XS.iload X0.here hx rfl (hb hby at_108) rfl (XS.iconst X0.here hx rfl (hb hby at_110) (XS.iushr X0.here hx rfl (hb hby at_111) rfl (XS.sipush X0.here hx rfl (hb hby at_112) (XS.iand X0.here hx rfl (hb hby at_115) rfl k)))))))))) ?_
        show own_Fin p e below (s₁.setTop (mkF m 116 #[.val (.long p0), .second, .val (.int p1), .val (.int p2), .val (.int p3), .val (.long ((p0 &&& (9223372036854775807 : Int64)) - ((p0 &&& (9223372036854775807 : Int64)) / (1000000000000000000 : Int64)) * (1000000000000000000 : Int64))), .second, .val (.int ((p1 &&& (2147483647 : Int32)) % (20 : Int32))), .val (.int 1), .val (.int (p2 &&& (1 : Int32))), .val (.int (((p2.toUInt32 >>> ((1 : Int32) &&& 31).toUInt32).toInt32) % (3 : Int32))), .val (.int (p3 &&& (1 : Int32))), .unset, .unset, .unset, .unset, .unset, .unset] [(.int (((p3.toUInt32 >>> ((1 : Int32) &&& 31).toUInt32).toInt32) &&& (255 : Int32)))])) _
        refine own_go (fun _ k => XS.i2c X0.here hx rfl (hb hby at_116) rfl (XS.istore X0.here hx rfl (hb hby at_117) rfl (l' := #[.val (.long p0), .second, .val (.int p1), .val (.int p2), .val (.int p3), .val (.long ((p0 &&& (9223372036854775807 : Int64)) - ((p0 &&& (9223372036854775807 : Int64)) / (1000000000000000000 : Int64)) * (1000000000000000000 : Int64))), .second, .val (.int ((p1 &&& (2147483647 : Int32)) % (20 : Int32))), .val (.int 1), .val (.int (p2 &&& (1 : Int32))), .val (.int (((p2.toUInt32 >>> ((1 : Int32) &&& 31).toUInt32).toInt32) % (3 : Int32))), .val (.int (p3 &&& (1 : Int32))), .val (.int ((((p3.toUInt32 >>> ((1 : Int32) &&& 31).toUInt32).toInt32) &&& (255 : Int32)).toUInt32.toUInt16.toUInt32.toInt32)), .unset, .unset, .unset, .unset, .unset]) rfl (XS.iload X0.here hx rfl (hb hby at_119) rfl (XS.bipush X0.here hx rfl (hb hby at_121) (XS.iadd X0.here hx rfl (hb hby at_123) rfl (XS.iload X0.here hx rfl (hb hby at_124) rfl (XS.ifNo X0.here hx rfl (hb hby at_126) rfl ((if0 _ _).trans (feq (by decide : ¬ ((1 : Int32) = (0 : Int32)))).1) (XS.iconst X0.here hx rfl (hb hby at_129) (XS.goto X0.here hx rfl (pc0 := 130) (pc' := 134) rfl (hb hby at_130) (by decide) (by decide) (XS.iadd X0.here hx rfl (hb hby at_134) rfl k)))))))))) ?_
        show own_Fin p e below (s₁.setTop (mkF m 135 #[.val (.long p0), .second, .val (.int p1), .val (.int p2), .val (.int p3), .val (.long ((p0 &&& (9223372036854775807 : Int64)) - ((p0 &&& (9223372036854775807 : Int64)) / (1000000000000000000 : Int64)) * (1000000000000000000 : Int64))), .second, .val (.int ((p1 &&& (2147483647 : Int32)) % (20 : Int32))), .val (.int 1), .val (.int (p2 &&& (1 : Int32))), .val (.int (((p2.toUInt32 >>> ((1 : Int32) &&& 31).toUInt32).toInt32) % (3 : Int32))), .val (.int (p3 &&& (1 : Int32))), .val (.int ((((p3.toUInt32 >>> ((1 : Int32) &&& 31).toUInt32).toInt32) &&& (255 : Int32)).toUInt32.toUInt16.toUInt32.toInt32)), .unset, .unset, .unset, .unset, .unset] [(.int (((p2 &&& (1 : Int32)) + (18 : Int32)) + (1 : Int32)))])) _
        refine own_go (fun _ k => XS.iload X0.here hx rfl (hb hby at_135) rfl (XS.iadd X0.here hx rfl (hb hby at_137) rfl (XS.istore X0.here hx rfl (hb hby at_138) rfl (l' := #[.val (.long p0), .second, .val (.int p1), .val (.int p2), .val (.int p3), .val (.long ((p0 &&& (9223372036854775807 : Int64)) - ((p0 &&& (9223372036854775807 : Int64)) / (1000000000000000000 : Int64)) * (1000000000000000000 : Int64))), .second, .val (.int ((p1 &&& (2147483647 : Int32)) % (20 : Int32))), .val (.int 1), .val (.int (p2 &&& (1 : Int32))), .val (.int (((p2.toUInt32 >>> ((1 : Int32) &&& 31).toUInt32).toInt32) % (3 : Int32))), .val (.int (p3 &&& (1 : Int32))), .val (.int ((((p3.toUInt32 >>> ((1 : Int32) &&& 31).toUInt32).toInt32) &&& (255 : Int32)).toUInt32.toUInt16.toUInt32.toInt32)), .val (.int ((((p2 &&& (1 : Int32)) + (18 : Int32)) + (1 : Int32)) + (((p2.toUInt32 >>> ((1 : Int32) &&& 31).toUInt32).toInt32) % (3 : Int32)))), .unset, .unset, .unset, .unset]) rfl k))) ?_
        show own_Fin p e below (s₁.setTop (mkF m 140 #[.val (.long p0), .second, .val (.int p1), .val (.int p2), .val (.int p3), .val (.long ((p0 &&& (9223372036854775807 : Int64)) - ((p0 &&& (9223372036854775807 : Int64)) / (1000000000000000000 : Int64)) * (1000000000000000000 : Int64))), .second, .val (.int ((p1 &&& (2147483647 : Int32)) % (20 : Int32))), .val (.int 1), .val (.int (p2 &&& (1 : Int32))), .val (.int (((p2.toUInt32 >>> ((1 : Int32) &&& 31).toUInt32).toInt32) % (3 : Int32))), .val (.int (p3 &&& (1 : Int32))), .val (.int ((((p3.toUInt32 >>> ((1 : Int32) &&& 31).toUInt32).toInt32) &&& (255 : Int32)).toUInt32.toUInt16.toUInt32.toInt32)), .val (.int ((((p2 &&& (1 : Int32)) + (18 : Int32)) + (1 : Int32)) + (((p2.toUInt32 >>> ((1 : Int32) &&& 31).toUInt32).toInt32) % (3 : Int32)))), .unset, .unset, .unset, .unset] [])) _
        exact main _ _ _ _ _ _ _ _ (own_hl364 p0 p1 p2 p3 hc24_217 hc38_277 hc49_311 hc65_345 hc91_355 hc96_356)
      ·refine own_go (fun _ k => XS.icmpYes X0.here hx rfl (pc0 := 91) (pc' := 102) rfl (hb hby at_91) rfl (feq hc91_355).2 (by decide) (by decide) (XS.iload X0.here hx rfl (hb hby at_102) rfl (XS.iconst X0.here hx rfl (hb hby at_104) (XS.iand X0.here hx rfl (hb hby at_105) rfl (XS.istore X0.here hx rfl (hb hby at_106) rfl (l' := #[.val (.long p0), .second, .val (.int p1), .val (.int p2), .val (.int p3), .val (.long ((p0 &&& (9223372036854775807 : Int64)) - ((p0 &&& (9223372036854775807 : Int64)) / (1000000000000000000 : Int64)) * (1000000000000000000 : Int64))), .second, .val (.int ((p1 &&& (2147483647 : Int32)) % (20 : Int32))), .val (.int 1), .val (.int (p2 &&& (1 : Int32))), .val (.int (((p2.toUInt32 >>> ((1 : Int32) &&& 31).toUInt32).toInt32) % (3 : Int32))), .val (.int (p3 &&& (1 : Int32))), .unset, .unset, .unset, .unset, .unset, .unset]) rfl (XS.iload X0.here hx rfl (hb hby at_108) rfl (XS.iconst X0.here hx rfl (hb hby at_110) (XS.iushr X0.here hx rfl (hb hby at_111) rfl (XS.sipush X0.here hx rfl (hb hby at_112) (XS.iand X0.here hx rfl (hb hby at_115) rfl k)))))))))) ?_
       show own_Fin p e below (s₁.setTop (mkF m 116 #[.val (.long p0), .second, .val (.int p1), .val (.int p2), .val (.int p3), .val (.long ((p0 &&& (9223372036854775807 : Int64)) - ((p0 &&& (9223372036854775807 : Int64)) / (1000000000000000000 : Int64)) * (1000000000000000000 : Int64))), .second, .val (.int ((p1 &&& (2147483647 : Int32)) % (20 : Int32))), .val (.int 1), .val (.int (p2 &&& (1 : Int32))), .val (.int (((p2.toUInt32 >>> ((1 : Int32) &&& 31).toUInt32).toInt32) % (3 : Int32))), .val (.int (p3 &&& (1 : Int32))), .unset, .unset, .unset, .unset, .unset, .unset] [(.int (((p3.toUInt32 >>> ((1 : Int32) &&& 31).toUInt32).toInt32) &&& (255 : Int32)))])) _
       refine own_go (fun _ k => XS.i2c X0.here hx rfl (hb hby at_116) rfl (XS.istore X0.here hx rfl (hb hby at_117) rfl (l' := #[.val (.long p0), .second, .val (.int p1), .val (.int p2), .val (.int p3), .val (.long ((p0 &&& (9223372036854775807 : Int64)) - ((p0 &&& (9223372036854775807 : Int64)) / (1000000000000000000 : Int64)) * (1000000000000000000 : Int64))), .second, .val (.int ((p1 &&& (2147483647 : Int32)) % (20 : Int32))), .val (.int 1), .val (.int (p2 &&& (1 : Int32))), .val (.int (((p2.toUInt32 >>> ((1 : Int32) &&& 31).toUInt32).toInt32) % (3 : Int32))), .val (.int (p3 &&& (1 : Int32))), .val (.int ((((p3.toUInt32 >>> ((1 : Int32) &&& 31).toUInt32).toInt32) &&& (255 : Int32)).toUInt32.toUInt16.toUInt32.toInt32)), .unset, .unset, .unset, .unset, .unset]) rfl (XS.iload X0.here hx rfl (hb hby at_119) rfl (XS.bipush X0.here hx rfl (hb hby at_121) (XS.iadd X0.here hx rfl (hb hby at_123) rfl (XS.iload X0.here hx rfl (hb hby at_124) rfl (XS.ifNo X0.here hx rfl (hb hby at_126) rfl ((if0 _ _).trans (feq (by decide : ¬ ((1 : Int32) = (0 : Int32)))).1) (XS.iconst X0.here hx rfl (hb hby at_129) (XS.goto X0.here hx rfl (pc0 := 130) (pc' := 134) rfl (hb hby at_130) (by decide) (by decide) (XS.iadd X0.here hx rfl (hb hby at_134) rfl k)))))))))) ?_
       show own_Fin p e below (s₁.setTop (mkF m 135 #[.val (.long p0), .second, .val (.int p1), .val (.int p2), .val (.int p3), .val (.long ((p0 &&& (9223372036854775807 : Int64)) - ((p0 &&& (9223372036854775807 : Int64)) / (1000000000000000000 : Int64)) * (1000000000000000000 : Int64))), .second, .val (.int ((p1 &&& (2147483647 : Int32)) % (20 : Int32))), .val (.int 1), .val (.int (p2 &&& (1 : Int32))), .val (.int (((p2.toUInt32 >>> ((1 : Int32) &&& 31).toUInt32).toInt32) % (3 : Int32))), .val (.int (p3 &&& (1 : Int32))), .val (.int ((((p3.toUInt32 >>> ((1 : Int32) &&& 31).toUInt32).toInt32) &&& (255 : Int32)).toUInt32.toUInt16.toUInt32.toInt32)), .unset, .unset, .unset, .unset, .unset] [(.int (((p2 &&& (1 : Int32)) + (18 : Int32)) + (1 : Int32)))])) _
       refine own_go (fun _ k => XS.iload X0.here hx rfl (hb hby at_135) rfl (XS.iadd X0.here hx rfl (hb hby at_137) rfl (XS.istore X0.here hx rfl (hb hby at_138) rfl (l' := #[.val (.long p0), .second, .val (.int p1), .val (.int p2), .val (.int p3), .val (.long ((p0 &&& (9223372036854775807 : Int64)) - ((p0 &&& (9223372036854775807 : Int64)) / (1000000000000000000 : Int64)) * (1000000000000000000 : Int64))), .second, .val (.int ((p1 &&& (2147483647 : Int32)) % (20 : Int32))), .val (.int 1), .val (.int (p2 &&& (1 : Int32))), .val (.int (((p2.toUInt32 >>> ((1 : Int32) &&& 31).toUInt32).toInt32) % (3 : Int32))), .val (.int (p3 &&& (1 : Int32))), .val (.int ((((p3.toUInt32 >>> ((1 : Int32) &&& 31).toUInt32).toInt32) &&& (255 : Int32)).toUInt32.toUInt16.toUInt32.toInt32)), .val (.int ((((p2 &&& (1 : Int32)) + (18 : Int32)) + (1 : Int32)) + (((p2.toUInt32 >>> ((1 : Int32) &&& 31).toUInt32).toInt32) % (3 : Int32)))), .unset, .unset, .unset, .unset]) rfl k))) ?_
       show own_Fin p e below (s₁.setTop (mkF m 140 #[.val (.long p0), .second, .val (.int p1), .val (.int p2), .val (.int p3), .val (.long ((p0 &&& (9223372036854775807 : Int64)) - ((p0 &&& (9223372036854775807 : Int64)) / (1000000000000000000 : Int64)) * (1000000000000000000 : Int64))), .second, .val (.int ((p1 &&& (2147483647 : Int32)) % (20 : Int32))), .val (.int 1), .val (.int (p2 &&& (1 : Int32))), .val (.int (((p2.toUInt32 >>> ((1 : Int32) &&& 31).toUInt32).toInt32) % (3 : Int32))), .val (.int (p3 &&& (1 : Int32))), .val (.int ((((p3.toUInt32 >>> ((1 : Int32) &&& 31).toUInt32).toInt32) &&& (255 : Int32)).toUInt32.toUInt16.toUInt32.toInt32)), .val (.int ((((p2 &&& (1 : Int32)) + (18 : Int32)) + (1 : Int32)) + (((p2.toUInt32 >>> ((1 : Int32) &&& 31).toUInt32).toInt32) % (3 : Int32)))), .unset, .unset, .unset, .unset] [])) _
       exact main _ _ _ _ _ _ _ _ (own_hl371 p0 p1 p2 p3 hc24_217 hc38_277 hc49_311 hc65_345 hc91_355)
theorem own_lenlt {args : Array Value} {s : State} {t : Term} {x : Addr} {cl : Cell} {n : Int32} (h : (Term.length t).eval args s none [] s = some (.int n)) (ht : t.eval args s none [] s = some (.ref x)) (ha : s.arrayAt? x = some cl) : cl.slots.size < 2 ^ 31 := by
  by_cases q : cl.slots.size < 2 ^ 31
  · exact q
  · simp [Term.eval, ht, ha, q] at h
theorem own_lenv {args : Array Value} {s : State} {t : Term} {x : Addr} {cl : Cell} {n : Int32} (h : (Term.length t).eval args s none [] s = some (.int n)) (ht : t.eval args s none [] s = some (.ref x)) (ha : s.arrayAt? x = some cl) (hl : cl.slots.size < 2 ^ 31) : cl.slots.size.toInt32 = n := by
  have := len_f (o := none) (idx := []) (first := s) ht ha hl
  rw [this] at h; cases h; rfl
set_option maxRecDepth 65536 in
set_option maxHeartbeats 40000000 in
theorem comes_1 {Post : Tables → Env → Array Value → State → Outcome → State → Prop} (hpost : ∀ tb e args s v u, (limb_1_1.after args s (.returned v) u = true ∧ limb_1_2.after args s (.returned v) u = true ∧ True) → FrameEnd s (.returned v) u (Jvm.fieldLocs frame_1_writes args s ++ Jvm.arrayLocs frame_1_arrays args s ++ Jvm.staticLocs frame_1_statics s) 48 768 → Post tb e args s (.returned v) u) :
    ArmFor flags0 classFile x code maxLocals ret World_1 tables_1 room_1 Calls_1 rest_1 Pre_1 Post := by
  intro l hfl _ _ p e ha hc hk s m args below hf hA hF happ hP
  obtain ⟨hcalls, hrest, hpre⟩ := hP
  obtain ⟨-, -, -, hnamed, -, -, -, hat⟩ := (Spec.applies_iff hf).mp happ
  obtain ⟨hg, hn⟩ := and_e (Cond.before_iff.mp (show (Jvm.Cond.and given_1 narrow_1).before args s = true from hpre))
  obtain ⟨g1, g2⟩ := and_e hg
  obtain ⟨g3, g4⟩ := and_e g2
  obtain ⟨g5, g6⟩ := and_e g4
  obtain ⟨g7, g8⟩ := and_e g6
  obtain ⟨w0, w1, w2, w3, rfl⟩ : ∃ w0 w1 w2 w3 : Value, args = #[w0, w1, w2, w3] := by
    have hs : args.size = 4 := by simpa [Cond.value, given_1] using g1
    obtain ⟨L⟩ := args
    match L, hs with
    | [w0, w1, w2, w3], _ => exact ⟨w0, w1, w2, w3, rfl⟩
  have hw := fun d (hd : d ∈ tables_1) => atoms_spec (ws := Jvm.Cond.code x code maxLocals ret :: tables_1) hat d (List.mem_cons_of_mem _ hd)
  have hfit : Fit s := fun {y c} hc i hi => by
    obtain ⟨ha, rfl⟩ := Array.getElem?_eq_some_iff.mp hc
    have q := List.all_eq_true.mp ((Array.all_eq_true_iff_forall_mem.mp hF) _ (Array.getElem_mem ha)) i (List.mem_range.mpr hi)
    simpa [Array.getElem?_eq_getElem hi] using q
  obtain ⟨i0, ei0⟩ := isL_v g3
  obtain rfl : w0 = (.long i0) := Option.some.inj ei0
  obtain ⟨i1, ei1⟩ := is_v g5
  obtain rfl : w1 = (.int i1) := Option.some.inj ei1
  obtain ⟨i2, ei2⟩ := is_v g7
  obtain rfl : w2 = (.int i2) := Option.some.inj ei2
  obtain ⟨i3, ei3⟩ := is_v g8
  obtain rfl : w3 = (.int i3) := Option.some.inj ei3
  obtain ⟨m1, mr1⟩ := and_e hn
  obtain ⟨m2, mr2⟩ := and_e mr1
  obtain ⟨el0, mr3⟩ := and_e mr2
  obtain ⟨el1, mr4⟩ := and_e mr3
  obtain ⟨el2, mr5⟩ := and_e mr4
  obtain ⟨el3, mr6⟩ := and_e mr5
  obtain ⟨el4, mr7⟩ := and_e mr6
  obtain ⟨el5, mr8⟩ := and_e mr7
  obtain ⟨el6, mr9⟩ := and_e mr8
  obtain ⟨el7, mr10⟩ := and_e mr9
  obtain ⟨el8, mr11⟩ := and_e mr10
  obtain ⟨el9, mr12⟩ := and_e mr11
  obtain ⟨el10, mr13⟩ := and_e mr12
  obtain ⟨el11, mr14⟩ := and_e mr13
  obtain ⟨el12, mr15⟩ := and_e mr14
  obtain ⟨el13, mr16⟩ := and_e mr15
  obtain ⟨el14, mr17⟩ := and_e mr16
  obtain ⟨el15, mr18⟩ := and_e mr17
  obtain ⟨el16, mr19⟩ := and_e mr18
  obtain ⟨el17, mr20⟩ := and_e mr19
  have el18 := mr20
  obtain ⟨pw, evp⟩ := arr_v m1
  obtain ⟨cl, Ap⟩ := Arr.start evp m1
  have Sp := Sta.start evp (Or.inr ⟨(ow hw 34), (ow hw 37)⟩)
  have hlen := own_eqv m2 (Term.int_eval _) rfl
  have hAp : s.arrayAt? pw = some cl := Arr.fin (Vm.Alike.refl _) Ap
  have hlt : cl.slots.size < 2 ^ 31 := own_lenlt hlen evp hAp
  have hsz : cl.slots.size.toInt32 = 19 := own_lenv hlen evp hAp hlt
  have x0 := (elem_in (own_eqv el0 (long_at _) rfl) evp (Term.int_eval _) Ap.1).2
  have x1 := (elem_in (own_eqv el1 (long_at _) rfl) evp (Term.int_eval _) Ap.1).2
  have x2 := (elem_in (own_eqv el2 (long_at _) rfl) evp (Term.int_eval _) Ap.1).2
  have x3 := (elem_in (own_eqv el3 (long_at _) rfl) evp (Term.int_eval _) Ap.1).2
  have x4 := (elem_in (own_eqv el4 (long_at _) rfl) evp (Term.int_eval _) Ap.1).2
  have x5 := (elem_in (own_eqv el5 (long_at _) rfl) evp (Term.int_eval _) Ap.1).2
  have x6 := (elem_in (own_eqv el6 (long_at _) rfl) evp (Term.int_eval _) Ap.1).2
  have x7 := (elem_in (own_eqv el7 (long_at _) rfl) evp (Term.int_eval _) Ap.1).2
  have x8 := (elem_in (own_eqv el8 (long_at _) rfl) evp (Term.int_eval _) Ap.1).2
  have x9 := (elem_in (own_eqv el9 (long_at _) rfl) evp (Term.int_eval _) Ap.1).2
  have x10 := (elem_in (own_eqv el10 (long_at _) rfl) evp (Term.int_eval _) Ap.1).2
  have x11 := (elem_in (own_eqv el11 (long_at _) rfl) evp (Term.int_eval _) Ap.1).2
  have x12 := (elem_in (own_eqv el12 (long_at _) rfl) evp (Term.int_eval _) Ap.1).2
  have x13 := (elem_in (own_eqv el13 (long_at _) rfl) evp (Term.int_eval _) Ap.1).2
  have x14 := (elem_in (own_eqv el14 (long_at _) rfl) evp (Term.int_eval _) Ap.1).2
  have x15 := (elem_in (own_eqv el15 (long_at _) rfl) evp (Term.int_eval _) Ap.1).2
  have x16 := (elem_in (own_eqv el16 (long_at _) rfl) evp (Term.int_eval _) Ap.1).2
  have x17 := (elem_in (own_eqv el17 (long_at _) rfl) evp (Term.int_eval _) Ap.1).2
  have x18 := (elem_in (own_eqv el18 (long_at _) rfl) evp (Term.int_eval _) Ap.1).2
  have Vp : Arv s s.heap pw cl.cls .long (19 : Int32) (own_ql.map Value.long) (.long (0 : Int64)) := Arv.start hfit Ap hlt hsz (by decide) (by decide) ⟨x0, x1, x2, x3, x4, x5, x6, x7, x8, x9, x10, x11, x12, x13, x14, x15, x16, x17, x18, trivial⟩
  obtain ⟨n, o, h1, h2, h3, _, L, rfl, ⟨rfl, N, hK⟩, hq⟩ := rm0 l s _ hw tables_1 i0 i1 i2 i3 pw cl.cls s.heap s.heap.size (Old.start s) Sp Vp p e ha hc hk s m _ below hf ((Spec.applies_iff_loose hf).mp happ).1 ⟨rfl, State.Warmed39.refl s, rfl⟩ trivial
  refine ⟨n, _, h1, h2, h3, hpost _ _ _ _ _ _ ⟨Cond.after_iff.mpr rfl, Cond.after_iff.mpr (eq_i res_at (Term.int_eval (1)) rfl), trivial⟩ ⟨hq.1, hq.2.1, (hq.2.2.sift fun y hy => Or.inr (N y hy)).mono (by decide) (by decide)⟩⟩
theorem main_1_1 : Claimed_1_1 := comes_1 fun _ _ _ _ _ _ h hF => ⟨h.1, hF⟩
theorem main_1_2 : Claimed_1_2 := comes_1 fun _ _ _ _ _ _ h hF => ⟨h.2.1, hF⟩
end Jvm.Pilot.@@N@@
namespace Jvm.Pilot.@@N@@
open Jvm Jvm.ClassFile Sem Op Lib Jvm.Free Jvm.Stand Jvm.Pilot.@@N@@.Jvm.D
/-! MADE BY PROGRAM (witnessworld.py) out of the Statement's table words and the real class files: 18 classes; the members and pool entries that the words name. The judged class is class 1, her method 1. -/
namespace start1
open Jvm.ClassFile
def u (s : String) : CpInfo := .utf8 (stringToUtf16 s)
/-- a pool by its gaps: so many unusable entries, then the entry; so many at the end -/
def gap : Nat → List CpInfo → List CpInfo
  | 0, r => r
  | n + 1, r => .unusable :: gap n r
def poolList (es : List (Nat × CpInfo)) (last : Nat) : List CpInfo := es.foldr (fun e r => gap e.1 (e.2 :: r)) (gap last [])
def pool (es : List (Nat × CpInfo)) (last : Nat) : Array CpInfo := ⟨poolList es last⟩
def fileOf (pool : Array CpInfo) (this : Nat) (attrs : Array Attribute := #[]) (ms : Array MethodInfo := #[]) (fl : Nat := 33) (sup : Nat := 0) (ifs : Array Nat := #[]) (fds : Array FieldInfo := #[]) : ClassFile where
  minorVersion := 0
  majorVersion := 65
  constantPool := pool
  accessFlags := fl
  thisClass := this
  superClass := sup
  interfaces := ifs
  fields := fds
  methods := ms
  attributes := attrs
def plain (name : String) (sup : Option ClassId) : Class where
  name := name
  kind := .ordinary
  loader := none
  accessFlags := 33
  super := sup
  interfaces := #[]
  cf := none
  fields := #[]
  methods := #[]
  instanceTypes := #[]
  staticTypes := #[]
  resolved := #[]
  callSites := []
  init := .initialized
  statics := none
  mirror := none

def pool0 : Array CpInfo := pool [(5, u "<init>"), (0, u "()V"), (1, .class_ 10), (1, u "java/lang/Object")] 113

def k0c0 : Code := { maxStack := 0, maxLocals := 1, code := object_method_1_code, exceptionTable := #[], attributes := #[] }
def k0m0 : Method := { name := "<init>", desc := "()V", sig := { parameters := [], returnType := none }, accessFlags := 1, code := some k0c0 }
/-- java/lang/Object -/
def k0 : Class := { plain "java/lang/Object" none with
  accessFlags := 33
  interfaces := #[]
  cf := some (fileOf pool0 8 #[] #[{ accessFlags := 1, nameIndex := 5, descriptorIndex := 6, attributes := #[] }] 33 0 #[] #[])
  fields := #[]
  methods := #[k0m0]
  instanceTypes := #[]
  staticTypes := #[]
  resolved := Array.replicate 124 none
  statics := none }

def pool1 : Array CpInfo := pool [(2, .class_ 4), (1, u "java/lang/Object"), (0, u "<init>"), (0, u "()V"), (2, .long 9223372036854775807), (1, .long 1000000000000000000), (1, .integer 2147483647), (0, .long 10), (1, .methodref 17 18), (0, .class_ 19), (0, .nameAndType 20 21), (0, u "com/example/depthline/depthline/core/DecimalParsePinLaw"), (0, u "cell"), (0, u "(IIIIIJC)C"), (0, .methodref 23 24), (0, .class_ 25), (0, .nameAndType 26 27), (0, u "com/example/depthline/depthline/core/Decimal"), (0, u "parse"), (0, u "([CII)Lcom/example/depthline/depthline/core/Decimal;"), (0, .methodref 23 29), (0, .nameAndType 30 31), (0, u "hashCode"), (0, u "()I"), (0, .methodref 23 33), (0, .nameAndType 34 35), (0, u "isZero"), (0, u "()Z"), (0, .methodref 17 37), (0, .nameAndType 38 39), (0, u "digit"), (0, u "(JI)C"), (0, .methodref 17 41), (0, .nameAndType 42 43), (0, u "pow10"), (0, u "(I)J"), (0, .long 100), (1, .long 1000), (1, .long 10000), (1, .long 100000), (1, .long 1000000), (1, .long 10000000), (1, .long 100000000), (1, .long 1000000000), (1, .long 10000000000), (1, .long 100000000000), (1, .long 1000000000000), (1, .long 10000000000000), (1, .long 100000000000000), (1, .long 1000000000000000), (1, .long 10000000000000000), (1, .long 100000000000000000), (3, u "law"), (0, u "(JIII)Z")] 5

def k1m0 : Method := { name := "<init>", desc := "()V", sig := { parameters := [], returnType := none }, accessFlags := 1, code := none }
def k1c1 : Code := { maxStack := 10, maxLocals := 18, code := code, exceptionTable := #[], attributes := #[] }
def k1m1 : Method := { name := "law", desc := "(JIII)Z", sig := { parameters := [.long, .int, .int, .int], returnType := some .boolean }, accessFlags := 9, code := some k1c1 }
def k1c2 : Code := { maxStack := 4, maxLocals := 10, code := method_3_code, exceptionTable := #[], attributes := #[] }
def k1m2 : Method := { name := "cell", desc := "(IIIIIJC)C", sig := { parameters := [.int, .int, .int, .int, .int, .long, .char], returnType := some .char }, accessFlags := 10, code := some k1c2 }
def k1c3 : Code := { maxStack := 5, maxLocals := 3, code := method_4_code, exceptionTable := #[], attributes := #[] }
def k1m3 : Method := { name := "digit", desc := "(JI)C", sig := { parameters := [.long, .int], returnType := some .char }, accessFlags := 10, code := some k1c3 }
def k1c4 : Code := { maxStack := 5, maxLocals := 2, code := method_5_code, exceptionTable := #[], attributes := #[] }
def k1m4 : Method := { name := "pow10", desc := "(I)J", sig := { parameters := [.int], returnType := some .long }, accessFlags := 10, code := some k1c4 }
/-- com/example/depthline/depthline/core/DecimalParsePinLaw -/
def k1 : Class := { plain "com/example/depthline/depthline/core/DecimalParsePinLaw" (some 0) with
  accessFlags := 49
  interfaces := #[]
  cf := some (fileOf pool1 17 #[] #[{ accessFlags := 1, nameIndex := 5, descriptorIndex := 6, attributes := #[] }, { accessFlags := 9, nameIndex := 78, descriptorIndex := 79, attributes := #[] }, { accessFlags := 10, nameIndex := 20, descriptorIndex := 21, attributes := #[] }, { accessFlags := 10, nameIndex := 38, descriptorIndex := 39, attributes := #[] }, { accessFlags := 10, nameIndex := 42, descriptorIndex := 43, attributes := #[] }] 49 2 #[] #[])
  fields := #[]
  methods := #[k1m0, k1m1, k1m2, k1m3, k1m4]
  instanceTypes := #[]
  staticTypes := #[]
  resolved := Array.replicate 85 none
  statics := none }

def pool2 : Array CpInfo := pool [(1, .class_ 2), (0, u "java/lang/Comparable"), (0, .class_ 4), (0, u "java/lang/Object")] 7

/-- java/lang/Comparable -/
def k2 : Class := { plain "java/lang/Comparable" (some 0) with
  accessFlags := 1537
  interfaces := #[]
  cf := some (fileOf pool2 1 #[] #[] 1537 3 #[] #[])
  fields := #[]
  methods := #[]
  instanceTypes := #[]
  staticTypes := #[]
  resolved := Array.replicate 12 none
  statics := none }

def pool3 : Array CpInfo := pool [(1, .methodref 2 3), (0, .class_ 4), (0, .nameAndType 5 6), (0, u "java/lang/Object"), (0, u "<init>"), (0, u "()V"), (0, .fieldref 8 9), (0, .class_ 10), (0, .nameAndType 11 12), (0, u "com/example/depthline/depthline/core/Decimal"), (0, u "unscaled"), (0, u "J"), (0, .fieldref 8 14), (0, .nameAndType 15 16), (0, u "scale"), (0, u "I"), (14, u "parse"), (0, u "([CII)Lcom/example/depthline/depthline/core/Decimal;"), (10, .fieldref 8 44), (0, .nameAndType 45 46), (0, u "POWERS"), (0, u "[J"), (0, .methodref 8 48), (0, .nameAndType 5 49), (0, u "(JI)V"), (22, .class_ 74), (1, u "java/lang/Long"), (12, .methodref 72 88), (0, .nameAndType 89 90), (0, u "hashCode"), (0, u "(J)I"), (6, u "()I"), (20, .class_ 119), (0, u "java/lang/Comparable"), (0, u "MAX_DIGITS"), (2, u "NOT_PLAIN"), (0, u "Ljava/lang/String;"), (0, u "QUOTE_LIMIT"), (7, u "isZero"), (0, u "()Z")] 32

def k3c0 : Code := { maxStack := 3, maxLocals := 4, code := prog_8_method_1_code, exceptionTable := #[], attributes := #[] }
def k3m0 : Method := { name := "<init>", desc := "(JI)V", sig := { parameters := [.long, .int], returnType := none }, accessFlags := 2, code := some k3c0 }
def k3c1 : Code := { maxStack := 5, maxLocals := 13, code := prog_8_method_3_code, exceptionTable := #[], attributes := #[] }
def k3m1 : Method := { name := "parse", desc := "([CII)Lcom/example/depthline/depthline/core/Decimal;", sig := { parameters := [(.array .char), .int, .int], returnType := some (.object "com/example/depthline/depthline/core/Decimal") }, accessFlags := 8, code := some k3c1 }
def k3c2 : Code := { maxStack := 4, maxLocals := 1, code := prog_8_method_5_code, exceptionTable := #[], attributes := #[] }
def k3m2 : Method := { name := "isZero", desc := "()Z", sig := { parameters := [], returnType := some .boolean }, accessFlags := 1, code := some k3c2 }
def k3c3 : Code := { maxStack := 3, maxLocals := 1, code := prog_8_method_10_code, exceptionTable := #[], attributes := #[] }
def k3m3 : Method := { name := "hashCode", desc := "()I", sig := { parameters := [], returnType := some .int }, accessFlags := 1, code := some k3c3 }
/-- com/example/depthline/depthline/core/Decimal -/
def k3 : Class := { plain "com/example/depthline/depthline/core/Decimal" (some 0) with
  accessFlags := 49
  interfaces := #[2]
  cf := some (fileOf pool3 8 #[] #[{ accessFlags := 2, nameIndex := 5, descriptorIndex := 49, attributes := #[] }, { accessFlags := 8, nameIndex := 31, descriptorIndex := 32, attributes := #[] }, { accessFlags := 1, nameIndex := 133, descriptorIndex := 134, attributes := #[] }, { accessFlags := 1, nameIndex := 89, descriptorIndex := 97, attributes := #[] }] 49 2 #[118] #[{ accessFlags := 25, nameIndex := 120, descriptorIndex := 16, attributes := #[] }, { accessFlags := 26, nameIndex := 123, descriptorIndex := 124, attributes := #[] }, { accessFlags := 26, nameIndex := 125, descriptorIndex := 16, attributes := #[] }, { accessFlags := 26, nameIndex := 45, descriptorIndex := 46, attributes := #[] }, { accessFlags := 18, nameIndex := 11, descriptorIndex := 12, attributes := #[] }, { accessFlags := 18, nameIndex := 15, descriptorIndex := 16, attributes := #[] }])
  fields := #[{ name := "MAX_DIGITS", type := .int, accessFlags := 25, slot := 0, constantValue := 0 }, { name := "NOT_PLAIN", type := (.object "java/lang/String"), accessFlags := 26, slot := 1, constantValue := 0 }, { name := "QUOTE_LIMIT", type := .int, accessFlags := 26, slot := 2, constantValue := 0 }, { name := "POWERS", type := (.array .long), accessFlags := 26, slot := 3, constantValue := 0 }, { name := "unscaled", type := .long, accessFlags := 18, slot := 0, constantValue := 0 }, { name := "scale", type := .int, accessFlags := 18, slot := 1, constantValue := 0 }]
  methods := #[k3m0, k3m1, k3m2, k3m3]
  instanceTypes := #[.long, .int]
  staticTypes := #[.int, (.object "java/lang/String"), .int, (.array .long)]
  resolved := Array.replicate 167 none
  statics := some 0 }

def pool4 : Array CpInfo := pool [(1, .class_ 2), (0, u "java/io/Serializable"), (0, .class_ 4), (0, u "java/lang/Object")] 2

/-- java/io/Serializable -/
def k4 : Class := { plain "java/io/Serializable" (some 0) with
  accessFlags := 1537
  interfaces := #[]
  cf := some (fileOf pool4 1 #[] #[] 1537 3 #[] #[])
  fields := #[]
  methods := #[]
  instanceTypes := #[]
  staticTypes := #[]
  resolved := Array.replicate 7 none
  statics := none }

def pool5 : Array CpInfo := pool [(2, .class_ 4), (1, u "java/lang/Object"), (0, u "<init>"), (0, u "()V"), (1, .class_ 10), (1, u "java/lang/Number"), (2, .class_ 14), (0, u "java/io/Serializable"), (0, u "serialVersionUID"), (0, u "J")] 20

def k5m0 : Method := { name := "<init>", desc := "()V", sig := { parameters := [], returnType := none }, accessFlags := 1, code := none }
/-- java/lang/Number -/
def k5 : Class := { plain "java/lang/Number" (some 0) with
  accessFlags := 1057
  interfaces := #[4]
  cf := some (fileOf pool5 8 #[] #[{ accessFlags := 1, nameIndex := 5, descriptorIndex := 6, attributes := #[] }] 1057 2 #[13] #[{ accessFlags := 26, nameIndex := 15, descriptorIndex := 16, attributes := #[] }])
  fields := #[{ name := "serialVersionUID", type := .long, accessFlags := 26, slot := 0, constantValue := 0 }]
  methods := #[k5m0]
  instanceTypes := #[]
  staticTypes := #[.long]
  resolved := Array.replicate 37 none
  statics := none }

def pool6 : Array CpInfo := pool [(1, .class_ 2), (0, u "java/lang/constant/Constable"), (0, .class_ 4), (0, u "java/lang/Object")] 6

/-- java/lang/constant/Constable -/
def k6 : Class := { plain "java/lang/constant/Constable" (some 0) with
  accessFlags := 1537
  interfaces := #[]
  cf := some (fileOf pool6 1 #[] #[] 1537 3 #[] #[])
  fields := #[]
  methods := #[]
  instanceTypes := #[]
  staticTypes := #[]
  resolved := Array.replicate 11 none
  statics := none }

def pool7 : Array CpInfo := pool [(1, .class_ 2), (0, u "java/lang/constant/ConstantDesc"), (0, .class_ 4), (0, u "java/lang/Object")] 32

/-- java/lang/constant/ConstantDesc -/
def k7 : Class := { plain "java/lang/constant/ConstantDesc" (some 0) with
  accessFlags := 1537
  interfaces := #[]
  cf := some (fileOf pool7 1 #[] #[] 1537 3 #[] #[])
  fields := #[]
  methods := #[]
  instanceTypes := #[]
  staticTypes := #[]
  resolved := Array.replicate 37 none
  statics := none }

def pool8 : Array CpInfo := pool [(1, .class_ 2), (0, u "java/lang/Long"), (98, u "(J)I"), (133, .class_ 237), (1, u "java/lang/Long$LongCache"), (33, .class_ 272), (0, u "java/lang/Number"), (2, u "value"), (0, u "J"), (2, u "hashCode"), (81, u "TYPE"), (0, u "Ljava/lang/Class;"), (0, .class_ 364), (0, u "java/lang/Comparable"), (0, .class_ 366), (0, u "java/lang/constant/Constable"), (0, .class_ 368), (0, u "java/lang/constant/ConstantDesc"), (0, u "MIN_VALUE"), (1, u "MAX_VALUE"), (4, u "SIZE"), (0, u "I"), (1, u "BYTES"), (1, u "serialVersionUID")] 142

def k8c0 : Code := { maxStack := 5, maxLocals := 2, code := jdk_35_method_36_code, exceptionTable := #[], attributes := #[] }
def k8m0 : Method := { name := "hashCode", desc := "(J)I", sig := { parameters := [.long], returnType := some .int }, accessFlags := 9, code := some k8c0 }
/-- java/lang/Long -/
def k8 : Class := { plain "java/lang/Long" (some 5) with
  accessFlags := 49
  interfaces := #[2, 6, 7]
  cf := some (fileOf pool8 1 #[.nestMembers #[235]] #[{ accessFlags := 9, nameIndex := 279, descriptorIndex := 101, attributes := #[] }] 49 271 #[363, 365, 367] #[{ accessFlags := 25, nameIndex := 369, descriptorIndex := 276, attributes := #[] }, { accessFlags := 25, nameIndex := 371, descriptorIndex := 276, attributes := #[] }, { accessFlags := 25, nameIndex := 361, descriptorIndex := 362, attributes := #[] }, { accessFlags := 18, nameIndex := 275, descriptorIndex := 276, attributes := #[] }, { accessFlags := 25, nameIndex := 376, descriptorIndex := 377, attributes := #[] }, { accessFlags := 25, nameIndex := 379, descriptorIndex := 377, attributes := #[] }, { accessFlags := 26, nameIndex := 381, descriptorIndex := 276, attributes := #[] }])
  fields := #[{ name := "MIN_VALUE", type := .long, accessFlags := 25, slot := 0, constantValue := 0 }, { name := "MAX_VALUE", type := .long, accessFlags := 25, slot := 1, constantValue := 0 }, { name := "TYPE", type := (.object "java/lang/Class"), accessFlags := 25, slot := 2, constantValue := 0 }, { name := "value", type := .long, accessFlags := 18, slot := 0, constantValue := 0 }, { name := "SIZE", type := .int, accessFlags := 25, slot := 3, constantValue := 0 }, { name := "BYTES", type := .int, accessFlags := 25, slot := 4, constantValue := 0 }, { name := "serialVersionUID", type := .long, accessFlags := 26, slot := 5, constantValue := 0 }]
  methods := #[k8m0]
  instanceTypes := #[.long]
  staticTypes := #[.long, .long, (.object "java/lang/Class"), .int, .int, .long]
  resolved := Array.replicate 524 none
  statics := none }

def pool9 : Array CpInfo := pool [(1, u "java/lang/Cloneable"), (0, .class_ 1), (0, u "java/lang/Object"), (0, .class_ 3)] 3

/-- java/lang/Cloneable -/
def k9 : Class := { plain "java/lang/Cloneable" (some 0) with
  accessFlags := 1537
  interfaces := #[]
  cf := some (fileOf pool9 2 #[] #[] 1537 4 #[] #[])
  fields := #[]
  methods := #[]
  instanceTypes := #[]
  staticTypes := #[]
  resolved := Array.replicate 8 none
  statics := none }

/-- the primitive byte -/
def k10 : Class := { plain "byte" none with kind := .primitive 'B', accessFlags := 0x411 }
/-- [B -/
def k11 : Class := { plain "[B" (some 0) with kind := .array 10 .byte, interfaces := #[9, 4], accessFlags := 1041 }

/-- the primitive char -/
def k12 : Class := { plain "char" none with kind := .primitive 'C', accessFlags := 0x411 }
/-- [C -/
def k13 : Class := { plain "[C" (some 0) with kind := .array 12 .char, interfaces := #[9, 4], accessFlags := 1041 }

/-- the primitive int -/
def k14 : Class := { plain "int" none with kind := .primitive 'I', accessFlags := 0x411 }
/-- [I -/
def k15 : Class := { plain "[I" (some 0) with kind := .array 14 .int, interfaces := #[9, 4], accessFlags := 1041 }

/-- the primitive long -/
def k16 : Class := { plain "long" none with kind := .primitive 'J', accessFlags := 0x411 }
/-- [J -/
def k17 : Class := { plain "[J" (some 0) with kind := .array 16 .long, interfaces := #[9, 4], accessFlags := 1041 }

def heap : Heap := #[{ cls := 3, slots := #[.int 0, .null, .int 0, .ref 1], vm := .statics 3 },
  { cls := 17, slots := #[.long 1, .long 10, .long 100, .long 1000, .long 10000, .long 100000, .long 1000000, .long 10000000, .long 100000000, .long 1000000000, .long 10000000000, .long 100000000000, .long 1000000000000, .long 10000000000000, .long 100000000000000, .long 1000000000000000, .long 10000000000000000, .long 100000000000000000, .long 1000000000000000000], vm := .none }]
def classes : Array Class := #[k0, k1, k2, k3, k4, k5, k6, k7, k8, k9, k10, k11, k12, k13, k14, k15, k16, k17]
def interned : List (Array UInt16 × Addr) := []
def slotsUsed : Nat := 23
def theMethod : MethodId := ⟨1, 1⟩
def args0 : Array Value := #[.long 5, .int 1, .int 1, .int 1]
def aboutOver (below : List Frame) : State where
  vm := { classes := classes, interned := interned.toArray }
  heap := heap
  slotsUsed := slotsUsed
  threads := #[{ frames := .invoking theMethod args0 :: below }]
def below0 : List Frame := [.native { method := ⟨0, 0⟩, args := #[] }]
def about1 : State := aboutOver below0
def p0 : Program := .bare "" "" ""
def e0 : Env := launch0.env 0 0 0
theorem w_frames : about1.frames = Frame.invoking theMethod args0 :: below0 := rfl
set_option maxRecDepth 65536 in
theorem w_args : argsFit about1.vm theMethod args0 = true := by decide +kernel
set_option maxRecDepth 65536 in
theorem w_heap : heapFits about1 = true := by decide +kernel
set_option maxRecDepth 65536 in
theorem w_runnable : about1.curStatus? = some .runnable := by decide +kernel
set_option maxRecDepth 65536 in
theorem w_alone : about1.alone = true := by decide +kernel
set_option maxRecDepth 65536 in
theorem w_named : about1.methodNamed? x = some theMethod := by decide +kernel
set_option maxRecDepth 65536 in
theorem w_hears : about1.hears theMethod below0 = true := by decide +kernel
set_option maxRecDepth 65536 in
theorem w_ripe : about1.ripe theMethod args0 below0 = true := by decide +kernel
theorem w_running : about1.status = .running := rfl
set_option maxRecDepth 65536 in
theorem w_room : about1.hasRoom e0.platform room_1 = true :=
  launch0.hasRoom_least _ room_1 (by decide +kernel) (by decide +kernel) (by decide +kernel) (by decide +kernel) (by decide +kernel) (by decide +kernel)
theorem allAtoms_all (ts : List Jvm.Cond) (a : Array Jvm.Value) (st : Jvm.State) : (allAtoms ts).before a st = ts.all (fun c => c.before a st) := by
  induction ts with
  | nil => rfl
  | cons c t ih =>
    show (Jvm.Cond.and c (allAtoms t)).before a st = _
    rw [Jvm.Cond.before_and, ih, List.all_cons]
def words1 : List Jvm.Cond := Jvm.Cond.code x code maxLocals ret :: tables_1
/-- a 'code' word, met by the world's own term for the bytes: nothing is compared byte by byte -/
theorem code_word {y : MethodName} {bytes : ByteArray} {mx : Nat} {rt : Option FieldType} {a : Array Value} {s : State} {m : MethodId} {meth : Method} {c : Code} (h1 : s.methodNamed? y = some m) (h2 : s.vm.method? m = some meth) (h3 : meth.code = some c) (h4 : c.code = bytes)
    (h5 : (c.maxLocals == mx && c.exceptionTable.isEmpty && decide (c.maxStack ≤ mostOperands) && decide (meth.sig.returnType = rt) && !meth.locks && decide (parseMethodDescriptor y.desc = some meth.sig)) = true) : (Jvm.Cond.code y bytes mx rt).before a s = true := by
  simp only [Bool.and_eq_true, beq_iff_eq, Bool.not_eq_true', decide_eq_true_eq] at h5
  obtain ⟨⟨⟨⟨⟨g1, g2⟩, g3⟩, g4⟩, g5⟩, g6⟩ := h5
  simp [Cond.before, Cond.holds, Cond.value, h1, h2, h3, h4, g1, g2, g3, g4, g5, g6]
def isCode : Jvm.Cond → Bool
  | .code _ _ _ _ => true
  | _ => false
theorem all_split {L : List Jvm.Cond} {P : Jvm.Cond → Bool} (h1 : L.all (fun c => isCode c || P c) = true) (h2 : ∀ c ∈ L.filter isCode, P c = true) : L.all P = true := by
  refine List.all_eq_true.mpr fun c hc => ?_
  have h := List.all_eq_true.mp h1 c hc
  rcases Bool.eq_false_or_eq_true (isCode c) with hi | hi
  · exact h2 c (List.mem_filter.mpr ⟨hc, hi⟩)
  · simpa [hi] using h
set_option maxRecDepth 65536 in
theorem w_c0 : (Jvm.Cond.code x code maxLocals ret).before args0 about1 = true := code_word (m := ⟨1, 1⟩) (meth := k1m1) (c := k1c1) (by decide +kernel) rfl rfl rfl (by decide +kernel)
set_option maxRecDepth 65536 in
theorem w_c1 : (Jvm.Cond.code ({ cls := "com/example/depthline/depthline/core/DecimalParsePinLaw", name := "cell", desc := "(IIIIIJC)C" } : Jvm.MethodName) method_3_code (10 : Nat) (Option.some Jvm.ClassFile.FieldType.char)).before args0 about1 = true := code_word (m := ⟨1, 2⟩) (meth := k1m2) (c := k1c2) (by decide +kernel) rfl rfl rfl (by decide +kernel)
set_option maxRecDepth 65536 in
theorem w_c2 : (Jvm.Cond.code ({ cls := "com/example/depthline/depthline/core/DecimalParsePinLaw", name := "digit", desc := "(JI)C" } : Jvm.MethodName) method_4_code (3 : Nat) (Option.some Jvm.ClassFile.FieldType.char)).before args0 about1 = true := code_word (m := ⟨1, 3⟩) (meth := k1m3) (c := k1c3) (by decide +kernel) rfl rfl rfl (by decide +kernel)
set_option maxRecDepth 65536 in
theorem w_c3 : (Jvm.Cond.code ({ cls := "com/example/depthline/depthline/core/DecimalParsePinLaw", name := "pow10", desc := "(I)J" } : Jvm.MethodName) method_5_code (2 : Nat) (Option.some Jvm.ClassFile.FieldType.long)).before args0 about1 = true := code_word (m := ⟨1, 4⟩) (meth := k1m4) (c := k1c4) (by decide +kernel) rfl rfl rfl (by decide +kernel)
set_option maxRecDepth 65536 in
theorem w_c4 : (Jvm.Cond.code ({ cls := "com/example/depthline/depthline/core/Decimal", name := "parse", desc := "([CII)Lcom/example/depthline/depthline/core/Decimal;" } : Jvm.MethodName) prog_8_method_3_code (13 : Nat) (Option.some (Jvm.ClassFile.FieldType.object "com/example/depthline/depthline/core/Decimal"))).before args0 about1 = true := code_word (m := ⟨3, 1⟩) (meth := k3m1) (c := k3c1) (by decide +kernel) rfl rfl rfl (by decide +kernel)
set_option maxRecDepth 65536 in
theorem w_c5 : (Jvm.Cond.code ({ cls := "com/example/depthline/depthline/core/Decimal", name := "<init>", desc := "(JI)V" } : Jvm.MethodName) prog_8_method_1_code (4 : Nat) (Option.none : Option Jvm.ClassFile.FieldType)).before args0 about1 = true := code_word (m := ⟨3, 0⟩) (meth := k3m0) (c := k3c0) (by decide +kernel) rfl rfl rfl (by decide +kernel)
set_option maxRecDepth 65536 in
theorem w_c6 : (Jvm.Cond.code ({ cls := "java/lang/Object", name := "<init>", desc := "()V" } : Jvm.MethodName) object_method_1_code (1 : Nat) (Option.none : Option Jvm.ClassFile.FieldType)).before args0 about1 = true := code_word (m := ⟨0, 0⟩) (meth := k0m0) (c := k0c0) (by decide +kernel) rfl rfl rfl (by decide +kernel)
set_option maxRecDepth 65536 in
theorem w_c7 : (Jvm.Cond.code ({ cls := "com/example/depthline/depthline/core/Decimal", name := "hashCode", desc := "()I" } : Jvm.MethodName) prog_8_method_10_code (1 : Nat) (Option.some Jvm.ClassFile.FieldType.int)).before args0 about1 = true := code_word (m := ⟨3, 3⟩) (meth := k3m3) (c := k3c3) (by decide +kernel) rfl rfl rfl (by decide +kernel)
set_option maxRecDepth 65536 in
theorem w_c8 : (Jvm.Cond.code ({ cls := "java/lang/Long", name := "hashCode", desc := "(J)I" } : Jvm.MethodName) jdk_35_method_36_code (2 : Nat) (Option.some Jvm.ClassFile.FieldType.int)).before args0 about1 = true := code_word (m := ⟨8, 0⟩) (meth := k8m0) (c := k8c0) (by decide +kernel) rfl rfl rfl (by decide +kernel)
set_option maxRecDepth 65536 in
theorem w_c9 : (Jvm.Cond.code ({ cls := "com/example/depthline/depthline/core/Decimal", name := "isZero", desc := "()Z" } : Jvm.MethodName) prog_8_method_5_code (1 : Nat) (Option.some Jvm.ClassFile.FieldType.boolean)).before args0 about1 = true := code_word (m := ⟨3, 2⟩) (meth := k3m2) (c := k3c2) (by decide +kernel) rfl rfl rfl (by decide +kernel)
def codes1 : List Jvm.Cond := [Jvm.Cond.code x code maxLocals ret, Jvm.Cond.code ({ cls := "com/example/depthline/depthline/core/DecimalParsePinLaw", name := "cell", desc := "(IIIIIJC)C" } : Jvm.MethodName) method_3_code (10 : Nat) (Option.some Jvm.ClassFile.FieldType.char), Jvm.Cond.code ({ cls := "com/example/depthline/depthline/core/DecimalParsePinLaw", name := "digit", desc := "(JI)C" } : Jvm.MethodName) method_4_code (3 : Nat) (Option.some Jvm.ClassFile.FieldType.char), Jvm.Cond.code ({ cls := "com/example/depthline/depthline/core/DecimalParsePinLaw", name := "pow10", desc := "(I)J" } : Jvm.MethodName) method_5_code (2 : Nat) (Option.some Jvm.ClassFile.FieldType.long), Jvm.Cond.code ({ cls := "com/example/depthline/depthline/core/Decimal", name := "parse", desc := "([CII)Lcom/example/depthline/depthline/core/Decimal;" } : Jvm.MethodName) prog_8_method_3_code (13 : Nat) (Option.some (Jvm.ClassFile.FieldType.object "com/example/depthline/depthline/core/Decimal")), Jvm.Cond.code ({ cls := "com/example/depthline/depthline/core/Decimal", name := "<init>", desc := "(JI)V" } : Jvm.MethodName) prog_8_method_1_code (4 : Nat) (Option.none : Option Jvm.ClassFile.FieldType), Jvm.Cond.code ({ cls := "java/lang/Object", name := "<init>", desc := "()V" } : Jvm.MethodName) object_method_1_code (1 : Nat) (Option.none : Option Jvm.ClassFile.FieldType), Jvm.Cond.code ({ cls := "com/example/depthline/depthline/core/Decimal", name := "hashCode", desc := "()I" } : Jvm.MethodName) prog_8_method_10_code (1 : Nat) (Option.some Jvm.ClassFile.FieldType.int), Jvm.Cond.code ({ cls := "java/lang/Long", name := "hashCode", desc := "(J)I" } : Jvm.MethodName) jdk_35_method_36_code (2 : Nat) (Option.some Jvm.ClassFile.FieldType.int), Jvm.Cond.code ({ cls := "com/example/depthline/depthline/core/Decimal", name := "isZero", desc := "()Z" } : Jvm.MethodName) prog_8_method_5_code (1 : Nat) (Option.some Jvm.ClassFile.FieldType.boolean)]
set_option maxRecDepth 65536 in
theorem codes_eq : words1.filter isCode = codes1 := rfl
theorem w_codes : ∀ c ∈ words1.filter isCode, c.before args0 about1 = true := by
  rw [codes_eq]
  intro c hc
  simp only [codes1, List.mem_cons, List.not_mem_nil, or_false] at hc
  rcases hc with rfl | rfl | rfl | rfl | rfl | rfl | rfl | rfl | rfl | rfl
  · exact w_c0
  · exact w_c1
  · exact w_c2
  · exact w_c3
  · exact w_c4
  · exact w_c5
  · exact w_c6
  · exact w_c7
  · exact w_c8
  · exact w_c9
set_option maxRecDepth 65536 in
theorem w_t1 : (words1.take 24).all (fun c => isCode c || c.before args0 about1) = true := by decide +kernel
set_option maxRecDepth 65536 in
theorem w_t2 : ((words1.drop 24).take 24).all (fun c => isCode c || c.before args0 about1) = true := by decide +kernel
set_option maxRecDepth 65536 in
theorem w_t3 : ((words1.drop 24).drop 24).all (fun c => isCode c || c.before args0 about1) = true := by decide +kernel
theorem w_tables : (allAtoms (Jvm.Cond.code x code maxLocals ret :: tables_1)).before args0 about1 = true := by
  rw [allAtoms_all]
  show words1.all (fun c => c.before args0 about1) = true
  refine all_split ?_ w_codes
  rw [← List.take_append_drop 24 words1, List.all_append, w_t1, ← List.take_append_drop 24 (words1.drop 24), List.all_append, w_t2, w_t3]
  rfl
set_option maxRecDepth 65536 in
theorem w_case : (Jvm.Cond.and given_1 narrow_1).before args0 about1 = true := by decide +kernel
theorem w_applies : (headSpec (Jvm.Cond.code x code maxLocals ret :: tables_1) room_1).applies x e0.platform about1 = true :=
  (Spec.applies_iff w_frames).mpr ⟨w_running, w_runnable, w_alone, w_named, w_hears, w_ripe, w_room, w_tables⟩
theorem atStart : AtStart classFile x code maxLocals ret World_1 tables_1 room_1 Calls_1 rest_1 Pre_1 launch0 p0 e0 about1 theMethod args0 below0 :=
  ⟨lists_1, trivial, launch0.admits_env _ _ _, launch0.least_env, fairChoices_fair.cas, fairChoices_fair.clock, w_frames, w_args, w_heap, w_applies, trivial, trivial, w_case⟩
end start1
theorem witness_1 : WitnessClaimed_1 := ⟨start1.p0, start1.e0, start1.about1, start1.theMethod, start1.args0, start1.below0, start1.atStart⟩
end Jvm.Pilot.@@N@@
