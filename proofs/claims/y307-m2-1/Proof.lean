import JvmDerived
import JvmDerived.Pilot.@@N@@Statement
import JvmDerived.Pilot.@@N@@Code
set_option linter.unusedVariables false
set_option linter.unusedSimpArgs false
namespace Jvm.RoadKit
open Sem ClassFile Op Lib Jvm.Stand Jvm.Free Jvm.LawKit
section New
variable {p : Program} {l : Launch} {e : Env} {R : Room} {s : State} {m : MethodId} {args : Array Value} {below : List Frame} {meth : Method} {c : Code} {T : State} {locs : List Loc} {cells slots : Nat}
theorem own_retI (X : Stand p l e R s m args below meth c T locs cells slots) (hx : p.tables.exec = Jvm.exec) {pc : Nat} {Ls : Array Slot} {z : Int32} {rest : List Value} (hret : meth.sig.returnType = some .int) (hd : decode c.code pc = .ok (.ireturn, 1)) {fs : List Frame}
    (hl : ∀ (f : JFrame) (acts : List Action), f.method = m → f.locked = none → f.entered = [] → (doReturn e (T.setTop f) acts (some (.int z))).1 = T.setFrames fs) : Steps p.tables e below (T.setTop (mkF m pc Ls (.int z :: rest))) (T.setFrames fs) :=
  retOut X hx hret rfl (Or.inl ⟨rfl, Or.inl rfl, z, rfl⟩) hd hl
theorem own_retJ (X : Stand p l e R s m args below meth c T locs cells slots) (hx : p.tables.exec = Jvm.exec) {pc : Nat} {Ls : Array Slot} {z : Int64} {rest : List Value} (hret : meth.sig.returnType = some .long) (hd : decode c.code pc = .ok (.lreturn, 1)) {fs : List Frame}
    (hl : ∀ (f : JFrame) (acts : List Action), f.method = m → f.locked = none → f.entered = [] → (doReturn e (T.setTop f) acts (some (.long z))).1 = T.setFrames fs) : Steps p.tables e below (T.setTop (mkF m pc Ls (.long z :: rest))) (T.setFrames fs) :=
  retOut X hx hret rfl (Or.inr (Or.inl ⟨rfl, rfl, z, rfl⟩)) hd hl
end New
/-- the rest of a walk: from here the run comes to an end with Q -/
def own_Fin (p : Program) (e : Env) (below : List Frame) (A : State) (Q : Outcome → State → Prop) : Prop :=
  ∃ t o, Steps p.tables e below A t ∧ t.status = .running ∧ Ended t below o ∧ Q o t
theorem own_go {p : Program} {e : Env} {below : List Frame} {A B : State} {Q : Outcome → State → Prop} (st : ∀ t, Steps p.tables e below A t → Steps p.tables e below B t) (k : own_Fin p e below A Q) : own_Fin p e below B Q := by
  obtain ⟨t, o, h, r⟩ := k; exact ⟨t, o, st t h, r⟩
theorem own_start {p : Program} {e : Env} {below : List Frame} {T : State} {g g' : JFrame} {Q : Outcome → State → Prop} (q : g = g') (k : own_Fin p e below (T.setTop g') Q) :
    ∃ t o, Steps p.tables e below (T.setTop g) t ∧ t.status = .running ∧ Ended t below o ∧ Q o t := by subst q; exact k
theorem own_cat {v : Value} (h : v.isRef = true) : v.category = 1 := by cases v <;> simp [Value.isRef] at h <;> rfl
theorem own_st1 {l l' : Array Slot} {i : Nat} {v : Value} (hold : (match l[i]? with | some .unset => true | some (.val w) => w.category == 1 | _ => false) = true) (hv : v.isRef = true) (e : l.setIfInBounds i (.val v) = l') : storeLocals l i v = some l' := by
  subst e
  cases h : l[i]? with
  | none => simp [h] at hold
  | some o =>
    refine Jvm.Free.XS.store1 h ?_ (own_cat hv)
    cases o with
    | unset => exact Or.inl rfl
    | second => simp [h] at hold
    | val w => simp [h] at hold; exact Or.inr ⟨w, rfl, hold⟩
theorem own_st2 {l l' : Array Slot} {i : Nat} {v : Value} {o : Slot} (hold : l[i]? = some o) (ho : One o) (hv : v.category = 1) (e : l.setIfInBounds i (.val v) = l') : storeLocals l i v = some l' := by
  subst e; exact Jvm.Free.XS.store1 hold ho hv
theorem own_fitR {v : Value} {C : String} (h : v.isRef = true) : fits (.object C) v = true := by cases v <;> simp [Value.isRef, fits] at h ⊢
theorem own_osz {Z : State} {n0 : Nat} {h : Heap} (O : Old Z n0 h) : n0 ≤ h.size := O.1 ▸ O.2.1
def own_bi (P : Prop) [Decidable P] : Int32 := if P then 1 else 0
theorem own_bi1 {P : Prop} [Decidable P] (h : P) : own_bi P = 1 := if_pos h
theorem own_bi0 {P : Prop} [Decidable P] (h : ¬ P) : own_bi P = 0 := if_neg h
theorem own_bz {P : Prop} [Decidable P] (h : ¬ P) : own_bi P = 0 := if_neg h
theorem own_bn {P : Prop} [Decidable P] (h : P) : ¬ own_bi P = 0 := by rw [own_bi1 h]; decide
theorem own_narb {P : Prop} [Decidable P] : nar .boolean (own_bi P) = own_bi P := by unfold own_bi; split <;> decide
theorem own_narbi (P : Prop) [Decidable P] : narrow .boolean (.int (own_bi P)) = .int (own_bi P) := by unfold own_bi; split <;> rfl
theorem own_fitbi (P : Prop) [Decidable P] : fits .boolean (.int (own_bi P)) = true := by unfold own_bi; split <;> rfl
theorem own_e1 {P : Prop} [Decidable P] (h : P) : ¬ own_bi P = 0 := by rw [own_bi1 h]; decide
theorem own_e0 {P : Prop} [Decidable P] (h : ¬ P) : ¬ own_bi P = 1 := by rw [own_bi0 h]; decide
theorem own_retB {p : Program} {l : Launch} {e : Env} {R : Room} {s : State} {m : MethodId} {args : Array Value} {below : List Frame} {meth : Method} {c : Code} {T : State} {locs : List Loc} {cells slots : Nat} (X : Stand p l e R s m args below meth c T locs cells slots) (hx : p.tables.exec = Jvm.exec) {pc : Nat} {Ls : Array Slot} {P : Prop} [Decidable P] {rest : List Value} (hret : meth.sig.returnType = some .boolean) (hd : decode c.code pc = .ok (.ireturn, 1)) {fs : List Frame}
    (hl : ∀ (f : JFrame) (acts : List Action), f.method = m → f.locked = none → f.entered = [] → (doReturn e (T.setTop f) acts (some (.int (own_bi P)))).1 = T.setFrames fs) : Steps p.tables e below (T.setTop (mkF m pc Ls (.int (own_bi P) :: rest))) (T.setFrames fs) :=
  retN X hx (t := .boolean) hret (by simp) hd (by rw [own_narb]; exact hl)
theorem own_eqv {args : Array Value} {f s : State} {o : Option Outcome} {idx : List Nat} {a b : Term} {v : Value} (h : (Cond.eq a b).value args f o s idx = some true) (hb : b.eval args f o idx s = some v) (hk : (match v with | .int _ => true | .long _ => true | .ref _ => true | .null => true | _ => false) = true) : a.eval args f o idx s = some v := by
  obtain ⟨x, y, h1, h2, h3, h4⟩ := cmp_v (Or.inl h)
  rw [hb] at h2; cases h2
  rw [h1]
  cases x <;> cases v <;> simp [Kin, Value.isRef] at h3 h4 hk <;> simp [Cond.value, h1, hb] at h ⊢ <;> exact h
theorem own_eqBi {v : Option Value} {P : Prop} [Decidable P] (h : (v = some (.int 1) ∧ P) ∨ (v = some (.int 0) ∧ ¬ P)) : v = some (.int (own_bi P)) := by
  rcases h with ⟨h, q⟩ | ⟨h, q⟩
  · rw [h, own_bi1 q]
  · rw [h, own_bi0 q]
theorem own_up {cs : List Int32} (h : ∀ c ∈ cs, ¬ c < 0 ∧ ¬ (255 : Int32) < c) : ∀ c ∈ cs, ¬ c < 0 ∧ ¬ (65535 : Int32) < c := fun c hc => ⟨(h c hc).1, fun q => (h c hc).2 (by
  rw [Int32.lt_iff_toInt_lt] at q ⊢
  have e1 : (65535 : Int32).toInt = 65535 := by decide
  have e2 : (255 : Int32).toInt = 255 := by decide
  omega)⟩
theorem own_narid {a : Int32} (h : ¬ a < 0 ∧ ¬ (255 : Int32) < a) : nar .char a = a := by
  have e0 : (0 : Int32).toInt = 0 := by decide
  have e2 : (255 : Int32).toInt = 255 := by decide
  obtain ⟨h1, h2⟩ := h
  rw [Int32.lt_iff_toInt_lt] at h1 h2
  have q := c_i2c a
  rw [← Int32.toInt_inj]
  show a.toUInt32.toUInt16.toUInt32.toInt32.toInt = a.toInt
  omega
theorem own_nez {args : Array Value} {f s : State} {o : Option Outcome} {idx : List Nat} {t : Term} {z : Int32} (ev : t.eval args f o idx s = some (.int z)) (h : (Cond.not (Cond.eq t (Term.int 0))).value args f o s idx = some true) : ¬ z = 0 := by
  intro q; subst q; have h' := not_v h; simp [Cond.value, ev, Term.eval] at h'
theorem own_notOf {Z : State} {a0 : Array Value} {C O K : String} {n : Nat} (w : (Cond.superclass C O).before a0 Z = true) (w0 : (Cond.noSuperclass O).before a0 Z = true) (wi : (Cond.instantiable K n).before a0 Z = true) (hn : C ≠ K) (ho : O ≠ K) : ∃ c t, Z.vm.findClass C = some c ∧ Z.vm.findClass K = some t ∧ Z.vm.assignable c t = false := by
  obtain ⟨t, kt, g0, g2, g5, g7, -⟩ := Cond.instantiable_spec wi
  obtain ⟨c, h0⟩ := found_sup w
  obtain ⟨p, k, kp, h1, h2, h3, h4, h5, -, h7⟩ := Cond.superclass_spec h0 w
  obtain ⟨c', k', j1, j2, j3, -, -⟩ := Cond.noSuperclass_spec w0
  cases j1.symm.trans h1
  have ne := ids_ne h0 g0 hn
  have neo := ids_ne h1 g0 ho
  have g7' : kt.isInterface = false := by cases h : kt.isInterface <;> simp [h] at g7 ⊢
  have hs : ∀ fuel, Z.vm.isSubclassAux fuel c t = false := by
    intro fuel
    cases fuel with
    | zero => rfl
    | succ f =>
      cases f with
      | zero => simp [Vm.isSubclassAux, ne, h2, h4]
      | succ f => simp [Vm.isSubclassAux, ne, h2, h4, neo, j2, j3]
  refine ⟨c, t, h0, g0, ?_⟩
  show Z.vm.assignableAux (255 + 1) c t = false
  simp [Vm.assignableAux, ne, h2, g2, h5, g5, g7', Vm.isSubclass, hs]
theorem own_selS {args : Array Value} {s : State} {y w z : MethodName} {C : String} (h : (Cond.selects C w z).before args s = true) (e : z.cls = y.cls) (hpriv : s.PrivateAt y) (hinst : (Cond.instanceMethod y).before args s = true) (hy : y.cls ≠ "java/lang/invoke/MethodHandle" ∧ y.cls ≠ "java/lang/invoke/VarHandle") : (Cond.selects y.cls y y).before args s = true := by
  obtain ⟨c2, r2, m2, q1, q2, q3, q4, kP, hkP, hkPi⟩ := Cond.selects_spec h
  exact selects_self_of_private (c := m2.cls) (by rw [← e]; exact findClass_of_methodNamed q3) hkP hkPi hpriv hinst hy
theorem own_same {args : Array Value} {s : State} {y w z : MethodName} {C : String} (hinst : (Cond.instanceMethod y).before args s = true) (h : (Cond.selects C w z).before args s = true) (e : z.cls = y.cls) (hy : y.cls ≠ "java/lang/invoke/MethodHandle" ∧ y.cls ≠ "java/lang/invoke/VarHandle") : (Cond.sameMethod y.cls y.cls y.name y.desc).before args s = true := by
  obtain ⟨c2, r2, m2, q1, q2, q3, q4, kP, hkP, hkPi⟩ := Cond.selects_spec h
  obtain ⟨mk, methM, hnamed, hmethM, -, -⟩ := Cond.instanceMethod_spec hinst
  have hf : s.methodFound? y.cls y.name y.desc = some mk := State.methodFound?_of_named hnamed hy
  have hc : s.vm.findClass y.cls = some m2.cls := by rw [← e]; exact findClass_of_methodNamed q3
  have hn : s.methodNamed? ⟨y.cls, y.name, y.desc⟩ = some mk := hnamed
  simp [Cond.before, Cond.holds, Cond.value, hc, hf, hn, hkP, hkPi]
theorem own_eqE {T h : Heap} {a : Addr} {c : Cell} (e : T = h) (q : h[a]? = some c) : T[a]? = some c := by rw [e]; exact q
theorem own_nf {args : Array Value} {s : State} {y w z : MethodName} {C : String} (h : (Cond.selects C w z).before args s = true) (e : z.cls = y.cls) : NotFace s y := fun r0 h0 => by
  obtain ⟨c2, r2, m2, q1, q2, q3, q4, kP, hkP, hkPi⟩ := Cond.selects_spec h
  have a := findClass_of_methodNamed q3
  have b := findClass_of_methodNamed h0
  rw [e] at a
  have hc : m2.cls = r0.cls := Option.some.inj (a.symm.trans b)
  exact ⟨kP, by rw [← hc]; exact hkP, hkPi⟩
theorem own_selI {args : Array Value} {s : State} {y : MethodName} {n : Nat} (h : (Cond.instantiable y.cls n).before args s = true) (hpriv : s.PrivateAt y) (hinst : (Cond.instanceMethod y).before args s = true) (hy : y.cls ≠ "java/lang/invoke/MethodHandle" ∧ y.cls ≠ "java/lang/invoke/VarHandle") : (Cond.selects y.cls y y).before args s = true := by
  obtain ⟨c, k, h1, h2, h3, h4, -⟩ := Cond.instantiable_spec h
  exact selects_self_of_private h1 h2 (by cases hq : k.isInterface <;> simp [hq] at h4 ⊢) hpriv hinst hy
theorem own_selP {args : Array Value} {s : State} {y : MethodName} {S : String} (h : (Cond.superclass y.cls S).before args s = true) (hpriv : s.PrivateAt y) (hinst : (Cond.instanceMethod y).before args s = true) (hy : y.cls ≠ "java/lang/invoke/MethodHandle" ∧ y.cls ≠ "java/lang/invoke/VarHandle") : (Cond.selects y.cls y y).before args s = true := by
  obtain ⟨c, hc⟩ := found_sup h
  obtain ⟨p, k, kp, h1, h2, h3, h4, h5, h6, h7⟩ := Cond.superclass_spec hc h
  exact selects_self_of_private hc h2 h7 hpriv hinst hy
end Jvm.RoadKit
/- laws to paste: Road.backV, Road.eqW, Road.codOf (cut by pick.py; bodies as the Statement names them) -/
namespace Jvm.Pilot.@@N@@
namespace StrChars
open Jvm Sem ClassFile Op Lib Jvm.Stand Jvm.Free.XT Jvm.Free.ALB Jvm.Free.JM Jvm.Free
open Jvm.Lib.Cold (StaticIs)
/-- a char array whose places are chars -/
def Ch (a : Addr) (A : Cell) (U : State) : Prop := Arr .char a A U ∧ Typed .char A
theorem Ch.mv {a : Addr} {A : Cell} {U U' : State} (h : Ch a A U) (hal : U.vm.Alike U'.vm) (hh : U'.heap = U.heap) : Ch a A U' := ⟨h.1.mv hal hh, h.2⟩
theorem Ch.keep {a : Addr} {A : Cell} {U U' : State} (h : Ch a A U) (hal : U.vm.Alike U'.vm) (hk : U'.heap[a]? = some A) : Ch a A U' := ⟨h.1.keep hal hk, h.2⟩
/-- what place i of a char[]'s cell holds -/
def cv (A : Cell) (i : Nat) : Int32 := match A.slots[i]? with | some (.int x) => x | _ => 0
theorem Ch.get {a : Addr} {A : Cell} {U : State} (h : Ch a A U) {i : Nat} (hi : i < A.slots.size) : A.slots[i]? = some (.int (cv A i)) := by
  have e := Array.getElem?_eq_getElem hi
  have f := h.2 i _ e
  unfold cv; rw [e]
  generalize A.slots[i] = v at f
  cases v <;> simp [fits] at f ⊢
/-- the byte that i2b leaves of a char -/
def lo8 (x : Int32) : Int32 := x.toInt8.toInt32
theorem fits_lo8 (y : Int32) : fits .byte (.int (lo8 y)) = true := by
  have h1 := y.toInt8.le_toInt
  have h2 := y.toInt8.toInt_lt
  simp only [lo8, fits, Bool.and_eq_true, decide_eq_true_eq, Int32.le_iff_toInt_le, Int8.toInt_toInt32, show (-128 : Int32).toInt = -128 from by decide, show (127 : Int32).toInt = 127 from by decide]
  omega
/-- A' is A but that each place j of lo .. hi - 1 holds f j -/
def Laid (A A' : Cell) (lo hi : Nat) (f : Nat → Value) : Prop := A'.cls = A.cls ∧ A'.vm = A.vm ∧ A'.slots.size = A.slots.size ∧ ∀ i, A'.slots[i]? = if lo ≤ i ∧ i < hi then some (f i) else A.slots[i]?
theorem Laid.zero (A : Cell) (lo : Nat) (f : Nat → Value) : Laid A A lo (lo + 0) f := ⟨rfl, rfl, rfl, fun i => by rw [if_neg (by omega)]⟩
theorem Laid.step {A Ak : Cell} {lo k : Nat} {f : Nat → Value} {v : Value} (h : Laid A Ak lo k f) (hlo : lo ≤ k) (hk : k < Ak.slots.size) (hv : v = f k) : Laid A (Ak.setSlot k v) lo (k + 1) f := by
  refine ⟨h.1, h.2.1, by simpa [Cell.setSlot] using h.2.2.1, fun i => ?_⟩
  by_cases e : k = i
  · subst e; rw [Cell.slots_setSlot_self v hk, if_pos (by omega), hv]
  · rw [Cell.slots_setSlot_ne v e, h.2.2.2 i]
    by_cases q : lo ≤ i ∧ i < k
    · rw [if_pos q, if_pos (by omega)]
    · rw [if_neg q, if_neg (by omega)]
def U16 : String := "java/lang/StringUTF16"
namespace Cmp5
def yN : MethodName := ⟨"java/lang/StringUTF16", "compress", "([CI[BII)I"⟩
abbrev yB : ByteArray := jdk_52_method_21_code
theorem d0 : decode yB 0 = .ok (.iconst 0, 1) := by decide +kernel
theorem d1 : decode yB 1 = .ok (.istore 5, 2) := by decide +kernel
theorem d3 : decode yB 3 = .ok (.iload 5, 2) := by decide +kernel
theorem d5 : decode yB 5 = .ok (.iload 4, 2) := by decide +kernel
theorem d7 : decode yB 7 = .ok (.if_icmp (.ge) 37, 3) := by decide +kernel
theorem d10 : decode yB 10 = .ok (.aload_n 0, 1) := by decide +kernel
theorem d11 : decode yB 11 = .ok (.iload_n 1, 1) := by decide +kernel
theorem d12 : decode yB 12 = .ok (.caload, 1) := by decide +kernel
theorem d13 : decode yB 13 = .ok (.istore 6, 2) := by decide +kernel
theorem d15 : decode yB 15 = .ok (.iload 6, 2) := by decide +kernel
theorem d17 : decode yB 17 = .ok (.sipush 255, 3) := by decide +kernel
theorem d20 : decode yB 20 = .ok (.if_icmp (.le) 6, 3) := by decide +kernel
theorem d26 : decode yB 26 = .ok (.aload_n 2, 1) := by decide +kernel
theorem d27 : decode yB 27 = .ok (.iload_n 3, 1) := by decide +kernel
theorem d28 : decode yB 28 = .ok (.iload 6, 2) := by decide +kernel
theorem d30 : decode yB 30 = .ok (.i2b, 1) := by decide +kernel
theorem d31 : decode yB 31 = .ok (.bastore, 1) := by decide +kernel
theorem d32 : decode yB 32 = .ok (.iinc 1 1, 3) := by decide +kernel
theorem d35 : decode yB 35 = .ok (.iinc 3 1, 3) := by decide +kernel
theorem d38 : decode yB 38 = .ok (.iinc 5 1, 3) := by decide +kernel
theorem d41 : decode yB 41 = .ok (.goto (-38), 3) := by decide +kernel
theorem d44 : decode yB 44 = .ok (.iload 4, 2) := by decide +kernel
theorem d46 : decode yB 46 = .ok (.ireturn, 1) := by decide +kernel
def site : List Cond := []
def tab : Cond := tabOf yN yB 7 (some .int) site
def P (b : Addr) (A : Cell) (d : Addr) (B : Cell) (o q len : Nat) (args : Array Value) (s : State) : Prop := args = #[.ref b, .int (Int32.ofNat o), .ref d, .int (Int32.ofNat q), .int (Int32.ofNat len)] ∧ Ch b A s ∧ Arr .byte d B s ∧ b ≠ d ∧ o + len ≤ A.slots.size ∧ q + len ≤ B.slots.size ∧ ∀ i, i < len → ¬ 255 < cv A (o + i)
def E (b : Addr) (A : Cell) (d : Addr) (B : Cell) (o q len : Nat) (r : Option Value) (s u : State) : Prop := r = some (.int (Int32.ofNat len)) ∧ ∃ B', Put d B' s u ∧ Laid B B' q (q + len) (fun j => Value.int (lo8 (cv A (o + (j - q)))))
/-- no char of the range above 255: len; the places written hold each char's low byte -/
theorem law (l : Launch) (b : Addr) (A : Cell) (d : Addr) (B : Cell) (o q len : Nat) : Law l yN 5 5 0 0 yB 7 (some .int) site (P b A d B o q len) (E b A d B o q len) (copyLocs d q len) 0 0 := by
  refine Law.of_walk (plainFor_of_name (by decide +kernel)) (by decide +kernel) (by decide +kernel) (by decide) (fun _ _ h => by rw [h.1]; rfl) (fun _ U U' hal hh h => ⟨h.1, h.2.1.mv hal hh, h.2.2.1.mv hal hh, h.2.2.2⟩) (fun r U U' V V' h1 hal h2 h => ⟨h.1, h.2.elim fun B' q => ⟨B', q.1.mv h1 h2, q.2⟩⟩) ?_
  intro p e s m args below meth c s₁ X0 hexec hbytes hml hret hlk hnm hown hh0 W hP
  obtain ⟨rfl, hA, hB, hne, l1, l2, hp⟩ := hP
  have c1 : Steps p.tables e below (s₁.setTop (entryFrame m #[.ref b, .int (Int32.ofNat o), .ref d, .int (Int32.ofNat q), .int (Int32.ofNat len)] 7)) (s₁.setTop (mkF m 0 #[.val (.ref b), .val (.int (Int32.ofNat o)), .val (.ref d), .val (.int (Int32.ofNat q)), .val (.int (Int32.ofNat len)), .unset, .unset] [])) := entry rfl
  have hA0 := hA.1.mv X0.warmed.alike hh0
  have hB0 := hB.mv X0.warmed.alike hh0
  have a31 := hA.1.2.2.2
  have c2 : Steps p.tables e below (s₁.setTop (entryFrame m #[.ref b, .int (Int32.ofNat o), .ref d, .int (Int32.ofNat q), .int (Int32.ofNat len)] 7)) (s₁.setTop (mkF m 3 #[.val (.ref b), .val (.int (Int32.ofNat o)), .val (.ref d), .val (.int (Int32.ofNat q)), .val (.int (Int32.ofNat len)), .val (.int 0), .unset] [])) := c1.trans (by
    refine iconstV X0.here hexec rfl 0 (hb hbytes d0) (by decide) ?_
    refine XS.istore X0.here hexec rfl (hb hbytes d1) rfl rfl ?_
    exact Steps.refl _)
  have loop : ∀ (r i : Nat), i + r = len → ∀ (z : Slot), (z = .unset ∨ ∃ w, z = .val w ∧ w.category = 1) → ∀ (Tl : State) (Bk : Cell), Stand p l e { frames := 0, locals := 0, cells := 0, slots := 0 } s m #[.ref b, .int (Int32.ofNat o), .ref d, .int (Int32.ofNat q), .int (Int32.ofNat len)] below meth c Tl ([] ++ copyLocs d q i) 0 0 → Put d Bk s₁ Tl → Laid B Bk q (q + i) (fun j => Value.int (lo8 (cv A (o + (j - q))))) →
      Steps p.tables e below (s₁.setTop (entryFrame m #[.ref b, .int (Int32.ofNat o), .ref d, .int (Int32.ofNat q), .int (Int32.ofNat len)] 7)) (Tl.setTop (mkF m 3 #[.val (.ref b), .val (.int (Int32.ofNat (o + i))), .val (.ref d), .val (.int (Int32.ofNat (q + i))), .val (.int (Int32.ofNat len)), .val (.int (Int32.ofNat i)), z] [])) → ∃ (T' : State) (B' : Cell) (z' : Slot), Stand p l e { frames := 0, locals := 0, cells := 0, slots := 0 } s m #[.ref b, .int (Int32.ofNat o), .ref d, .int (Int32.ofNat q), .int (Int32.ofNat len)] below meth c T' ([] ++ copyLocs d q len) 0 0 ∧ Put d B' s₁ T' ∧ Laid B B' q (q + len) (fun j => Value.int (lo8 (cv A (o + (j - q))))) ∧
      Steps p.tables e below (s₁.setTop (entryFrame m #[.ref b, .int (Int32.ofNat o), .ref d, .int (Int32.ofNat q), .int (Int32.ofNat len)] 7)) (T'.setTop (mkF m 3 #[.val (.ref b), .val (.int (Int32.ofNat (o + len))), .val (.ref d), .val (.int (Int32.ofNat (q + len))), .val (.int (Int32.ofNat len)), .val (.int (Int32.ofNat len)), z'] [])) := by
    intro r
    induction r with
    | zero =>
      intro i hi z hz Tl Bk Xl pl fl cl
      have hil : i = len := by omega
      rw [hil] at Xl fl cl
      exact ⟨Tl, Bk, z, Xl, pl, fl, cl⟩
    | succ r ih =>
      intro i hi z hz Tl Bk Xl pl fl cl
      have all := X0.warmed.alike.symm.trans Xl.warmed.alike
      have hAl := hA0.keep all (pl.other hne hA0.1)
      have hBk := hB0.like all pl.1 fl.1 fl.2.1 fl.2.2.1
      have hlt : q + i < Bk.slots.size := by rw [fl.2.2.1]; omega
      have c3 : Steps p.tables e below (s₁.setTop (entryFrame m #[.ref b, .int (Int32.ofNat o), .ref d, .int (Int32.ofNat q), .int (Int32.ofNat len)] 7)) (Tl.setTop (mkF m 12 #[.val (.ref b), .val (.int (Int32.ofNat (o + i))), .val (.ref d), .val (.int (Int32.ofNat (q + i))), .val (.int (Int32.ofNat len)), .val (.int (Int32.ofNat i)), z] [.int (Int32.ofNat (o + i)), .ref b])) := cl.trans (by
        refine XS.iload Xl.here hexec rfl (hb hbytes d3) rfl ?_
        refine XS.iload Xl.here hexec rfl (hb hbytes d5) rfl ?_
        refine XS.icmpNo Xl.here hexec rfl (hb hbytes d7) rfl (ii_ge_f (lt32 (by omega) (by omega))) ?_
        refine XS.aloadN Xl.here hexec rfl (hb hbytes d10) rfl rfl ?_
        refine XS.iloadN Xl.here hexec rfl (hb hbytes d11) rfl ?_
        exact Steps.refl _)
      have c4 : Steps p.tables e below (s₁.setTop (entryFrame m #[.ref b, .int (Int32.ofNat o), .ref d, .int (Int32.ofNat q), .int (Int32.ofNat len)] 7)) (Tl.setTop (mkF m 13 #[.val (.ref b), .val (.int (Int32.ofNat (o + i))), .val (.ref d), .val (.int (Int32.ofNat (q + i))), .val (.int (Int32.ofNat len)), .val (.int (Int32.ofNat i)), z] [.int (cv A (o + i))])) := c3.trans (by
        refine Xl.aget hexec hAl rfl (hA.get (i := o + i) (by omega)) rfl rfl (hb hbytes d12) ?_
        exact Steps.refl _)
      have c5 : Steps p.tables e below (s₁.setTop (entryFrame m #[.ref b, .int (Int32.ofNat o), .ref d, .int (Int32.ofNat q), .int (Int32.ofNat len)] 7)) (Tl.setTop (mkF m 15 #[.val (.ref b), .val (.int (Int32.ofNat (o + i))), .val (.ref d), .val (.int (Int32.ofNat (q + i))), .val (.int (Int32.ofNat len)), .val (.int (Int32.ofNat i)), .val (.int (cv A (o + i)))] [])) := c4.trans (by
        refine XS.istoreS Xl.here hexec rfl (hb hbytes d13) rfl rfl hz ?_
        exact Steps.refl _)
      have c6 : Steps p.tables e below (s₁.setTop (entryFrame m #[.ref b, .int (Int32.ofNat o), .ref d, .int (Int32.ofNat q), .int (Int32.ofNat len)] 7)) (Tl.setTop (mkF m 31 #[.val (.ref b), .val (.int (Int32.ofNat (o + i))), .val (.ref d), .val (.int (Int32.ofNat (q + i))), .val (.int (Int32.ofNat len)), .val (.int (Int32.ofNat i)), .val (.int (cv A (o + i)))] [.int (lo8 (cv A (o + i))), .int (Int32.ofNat (q + i)), .ref d])) := c5.trans (by
        refine XS.iload Xl.here hexec rfl (hb hbytes d15) rfl ?_
        refine sipushV Xl.here hexec rfl 255 (hb hbytes d17) (by decide) ?_
        refine XS.icmpYes Xl.here hexec rfl (pc0 := 20) rfl (hb hbytes d20) rfl (ii_le_t (hp i (by omega))) (by decide) rfl ?_
        refine XS.aloadN Xl.here hexec rfl (hb hbytes d26) rfl rfl ?_
        refine XS.iloadN Xl.here hexec rfl (hb hbytes d27) rfl ?_
        refine XS.iload Xl.here hexec rfl (hb hbytes d28) rfl ?_
        refine i2b Xl.here hexec rfl (hb hbytes d30) rfl ?_
        exact Steps.refl _)
      obtain ⟨T7, X7, p7, st7⟩ := Xl.aput hexec hBk rfl hlt rfl (fits_lo8 (cv A (o + i))) (g := (mkF m 31 #[.val (.ref b), .val (.int (Int32.ofNat (o + i))), .val (.ref d), .val (.int (Int32.ofNat (q + i))), .val (.int (Int32.ofNat len)), .val (.int (Int32.ofNat i)), .val (.int (cv A (o + i)))] [.int (lo8 (cv A (o + i))), .int (Int32.ofNat (q + i)), .ref d])) rfl (rest := []) rfl (hb hbytes d31)
      have c8 : Steps p.tables e below (s₁.setTop (entryFrame m #[.ref b, .int (Int32.ofNat o), .ref d, .int (Int32.ofNat q), .int (Int32.ofNat len)] 7)) (T7.setTop (mkF m 32 #[.val (.ref b), .val (.int (Int32.ofNat (o + i))), .val (.ref d), .val (.int (Int32.ofNat (q + i))), .val (.int (Int32.ofNat len)), .val (.int (Int32.ofNat i)), .val (.int (cv A (o + i)))] [])) := c6.trans (st7 _ (Steps.refl _))
      have c9 : Steps p.tables e below (s₁.setTop (entryFrame m #[.ref b, .int (Int32.ofNat o), .ref d, .int (Int32.ofNat q), .int (Int32.ofNat len)] 7)) (T7.setTop (mkF m 3 #[.val (.ref b), .val (.int (Int32.ofNat (o + i) + 1)), .val (.ref d), .val (.int (Int32.ofNat (q + i) + 1)), .val (.int (Int32.ofNat len)), .val (.int (Int32.ofNat i + 1)), .val (.int (cv A (o + i)))] [])) := c8.trans (by
        refine iincV X7.here hexec rfl 1 (hb hbytes d32) (by decide) rfl rfl ?_
        refine iincV X7.here hexec rfl 1 (hb hbytes d35) (by decide) rfl rfl ?_
        refine iincV X7.here hexec rfl 1 (hb hbytes d38) (by decide) rfl rfl ?_
        refine XS.goto X7.here hexec rfl (pc0 := 41) rfl (hb hbytes d41) (by decide) rfl ?_
        exact Steps.refl _)
      have c10 : Steps p.tables e below (s₁.setTop (entryFrame m #[.ref b, .int (Int32.ofNat o), .ref d, .int (Int32.ofNat q), .int (Int32.ofNat len)] 7)) (T7.setTop (mkF m 3 #[.val (.ref b), .val (.int (Int32.ofNat (o + (i + 1)))), .val (.ref d), .val (.int (Int32.ofNat (q + (i + 1)))), .val (.int (Int32.ofNat len)), .val (.int (Int32.ofNat (i + 1))), .val (.int (cv A (o + i)))] [])) := by
        have := c9
        rw [succ32, succ32, succ32] at this
        exact this
      exact ih (i + 1) (by omega) _ (Or.inr ⟨_, rfl, rfl⟩) T7 _ (by rw [copyLocs_step, ← List.append_assoc]; exact X7) (pl.trans p7) (fl.step (by omega) hlt (by simp)) c10
  obtain ⟨T9, B9, z9, X9, p9, f9, g9⟩ := loop len 0 (by omega) .unset (Or.inl rfl) s₁ B (by simpa [copyLocs] using X0) ⟨hB0.1, fun _ _ => rfl, rfl⟩ (Laid.zero _ _ _) c2
  have c11 : Steps p.tables e below (s₁.setTop (entryFrame m #[.ref b, .int (Int32.ofNat o), .ref d, .int (Int32.ofNat q), .int (Int32.ofNat len)] 7)) (T9.setTop (mkF m 46 #[.val (.ref b), .val (.int (Int32.ofNat (o + len))), .val (.ref d), .val (.int (Int32.ofNat (q + len))), .val (.int (Int32.ofNat len)), .val (.int (Int32.ofNat len)), z9] [.int (Int32.ofNat len)])) := g9.trans (by
    refine XS.iload X9.here hexec rfl (hb hbytes d3) rfl ?_
    refine XS.iload X9.here hexec rfl (hb hbytes d5) rfl ?_
    refine XS.icmpYes X9.here hexec rfl (pc0 := 7) rfl (hb hbytes d7) rfl (ii_ge_t (nlt32 (by omega) (Nat.le_refl _))) (by decide) rfl ?_
    refine XS.iload X9.here hexec rfl (hb hbytes d44) rfl ?_
    exact Steps.refl _)
  exact ⟨T9, some (.int (Int32.ofNat len)), _, _, _, X9, by simp, rfl, rfl, (fun h => by cases h), ⟨rfl, B9, p9.from hh0, f9⟩, fun fs hl => c11.trans (X9.ireturnOut hexec hret rfl (Or.inl rfl) (hb hbytes d46) hl)⟩
end Cmp5
namespace Cmp3
def yN : MethodName := ⟨"java/lang/StringUTF16", "compress", "([CII)[B"⟩
abbrev yB : ByteArray := jdk_52_method_16_code
theorem d0 : decode yB 0 = .ok (.iload_n 2, 1) := by decide +kernel
theorem d1 : decode yB 1 = .ok (.newarray .byte, 2) := by decide +kernel
theorem d3 : decode yB 3 = .ok (.astore_n 3, 1) := by decide +kernel
theorem d4 : decode yB 4 = .ok (.aload_n 0, 1) := by decide +kernel
theorem d5 : decode yB 5 = .ok (.iload_n 1, 1) := by decide +kernel
theorem d6 : decode yB 6 = .ok (.aload_n 3, 1) := by decide +kernel
theorem d7 : decode yB 7 = .ok (.iconst 0, 1) := by decide +kernel
theorem d8 : decode yB 8 = .ok (.iload_n 2, 1) := by decide +kernel
theorem d9 : decode yB 9 = .ok (.invokestatic 115, 3) := by decide +kernel
theorem d12 : decode yB 12 = .ok (.istore 4, 2) := by decide +kernel
theorem d14 : decode yB 14 = .ok (.iload 4, 2) := by decide +kernel
theorem d16 : decode yB 16 = .ok (.iload_n 2, 1) := by decide +kernel
theorem d17 : decode yB 17 = .ok (.if_icmp (.eq) 40, 3) := by decide +kernel
theorem d57 : decode yB 57 = .ok (.aload_n 3, 1) := by decide +kernel
theorem d58 : decode yB 58 = .ok (.areturn, 1) := by decide +kernel
def site : List Cond := [.arrayClass .byte, Cmp5.tab] ++ staticW U16 115 Cmp5.yN
def tab : Cond := tabOf yN yB 6 (some (.array .byte)) site
def P (b : Addr) (A : Cell) (o len : Nat) (args : Array Value) (s : State) : Prop := args = #[.ref b, .int (Int32.ofNat o), .int (Int32.ofNat len)] ∧ Ch b A s ∧ o + len ≤ A.slots.size ∧ len ≤ 536870912 ∧ ∀ i, i < len → ¬ 255 < cv A (o + i)
def E (b : Addr) (A : Cell) (o len : Nat) (r : Option Value) (s u : State) : Prop := NewArr .byte "[B" len (fun j => .int (lo8 (cv A (o + j)))) r s u ∧ u.heap.size = s.heap.size + 1
/-- no char of the range above 255: a new byte[] of their low bytes -/
theorem law (l : Launch) (b : Addr) (A : Cell) (o len : Nat) : Law l yN 3 3 1 18 yB 6 (some (.array .byte)) site (P b A o len) (E b A o len) [] 1 len := by
  refine Law.of_walk (plainFor_of_name (by decide +kernel)) (by decide +kernel) (by decide +kernel) (by decide) (fun _ _ h => by rw [h.1]; rfl) (fun _ U U' hal hh h => ⟨h.1, h.2.1.mv hal hh, h.2.2⟩) (fun r U U' V V' h1 hal h2 h => ⟨NewArr.mv r U U' V V' h1 hal h2 h.1, by rw [h1, h2]; exact h.2⟩) ?_
  intro p e s m args below meth c s₁ X0 hexec hbytes hml hret hlk hnm hown hh0 W hP
  obtain ⟨rfl, hA, l1, l2, hp⟩ := hP
  have a31 := hA.1.2.2.2
  have c1 : Steps p.tables e below (s₁.setTop (entryFrame m #[.ref b, .int (Int32.ofNat o), .int (Int32.ofNat len)] 6)) (s₁.setTop (mkF m 0 #[.val (.ref b), .val (.int (Int32.ofNat o)), .val (.int (Int32.ofNat len)), .unset, .unset, .unset] [])) := entry rfl
  have c2 : Steps p.tables e below (s₁.setTop (entryFrame m #[.ref b, .int (Int32.ofNat o), .int (Int32.ofNat len)] 6)) (s₁.setTop (mkF m 1 #[.val (.ref b), .val (.int (Int32.ofNat o)), .val (.int (Int32.ofNat len)), .unset, .unset, .unset] [.int (Int32.ofNat len)])) := c1.trans (by
    refine XS.iloadN X0.here hexec rfl (hb hbytes d0) rfl ?_
    exact Steps.refl _)
  obtain ⟨T3, B3, X3, ba3, bs3, bv3, bh3, bf3, st3⟩ := X0.anew hexec (atype := .byte) (wk W (.arrayClass .byte)) rfl (by show len * 1 ≤ _; omega) (by omega) (g := (mkF m 1 #[.val (.ref b), .val (.int (Int32.ofNat o)), .val (.int (Int32.ofNat len)), .unset, .unset, .unset] [.int (Int32.ofNat len)])) rfl (hb hbytes d1) (rest := []) rfl (Nat.le_refl _) (by show 0 + len ≤ len; omega)
  rw [hh0] at ba3 st3
  have kp3 : XT.Kept s T3 := (XT.Kept.of_eq hh0).push bh3
  have hA3 := hA.keep X3.warmed.alike (kp3 _ _ hA.1.1)
  have hne : b ≠ s.heap.size := hA.1.ne
  have c4 : Steps p.tables e below (s₁.setTop (entryFrame m #[.ref b, .int (Int32.ofNat o), .int (Int32.ofNat len)] 6)) (T3.setTop (mkF m 3 #[.val (.ref b), .val (.int (Int32.ofNat o)), .val (.int (Int32.ofNat len)), .unset, .unset, .unset] [.ref s.heap.size])) := c2.trans (st3 _ (Steps.refl _))
  have c5 : Steps p.tables e below (s₁.setTop (entryFrame m #[.ref b, .int (Int32.ofNat o), .int (Int32.ofNat len)] 6)) (T3.setTop (mkF m 9 #[.val (.ref b), .val (.int (Int32.ofNat o)), .val (.int (Int32.ofNat len)), .val (.ref s.heap.size), .unset, .unset] [.int (Int32.ofNat len), .int 0, .ref s.heap.size, .int (Int32.ofNat o), .ref b])) := c4.trans (by
    refine XS.astoreN X3.here hexec rfl (hb hbytes d3) rfl rfl rfl ?_
    refine XS.aloadN X3.here hexec rfl (hb hbytes d4) rfl rfl ?_
    refine XS.iloadN X3.here hexec rfl (hb hbytes d5) rfl ?_
    refine XS.aloadN X3.here hexec rfl (hb hbytes d6) rfl rfl ?_
    refine iconstV X3.here hexec rfl 0 (hb hbytes d7) (by decide) ?_
    refine XS.iloadN X3.here hexec rfl (hb hbytes d8) rfl ?_
    exact Steps.refl _)
  obtain ⟨v6, T6, X6, E6, g6⟩ := X3.callS hexec (Cmp5.law l b A s.heap.size B3 o 0 len) hown (wks W (staticW U16 115 Cmp5.yN)) (wk W Cmp5.tab) (W := 0) (Nat.le_of_ble_eq_true rfl) (Nat.le_of_ble_eq_true rfl) (Nat.le_refl _) (by show 0 + len + 0 ≤ len; omega) (g := (mkF m 9 #[.val (.ref b), .val (.int (Int32.ofNat o)), .val (.int (Int32.ofNat len)), .val (.ref s.heap.size), .unset, .unset] [.int (Int32.ofNat len), .int (Int32.ofNat 0), .ref s.heap.size, .int (Int32.ofNat o), .ref b])) rfl (by rw [hml]; rfl) c5 (argsL := [.ref b, .int (Int32.ofNat o), .ref s.heap.size, .int (Int32.ofNat 0), .int (Int32.ofNat len)]) (rest := []) rfl rfl (by show 2 * 0 + 0 ≤ _; decide) (hb hbytes d9) (⟨rfl, hA3, ba3, hne, l1, by rw [bs3]; simp, hp⟩)
  obtain ⟨rfl, B6, p6, f6⟩ := E6
  have c7 : Steps p.tables e below (s₁.setTop (entryFrame m #[.ref b, .int (Int32.ofNat o), .int (Int32.ofNat len)] 6)) (T6.setTop (mkF m 12 #[.val (.ref b), .val (.int (Int32.ofNat o)), .val (.int (Int32.ofNat len)), .val (.ref s.heap.size), .unset, .unset] [.int (Int32.ofNat len)])) := g6
  have c8 : Steps p.tables e below (s₁.setTop (entryFrame m #[.ref b, .int (Int32.ofNat o), .int (Int32.ofNat len)] 6)) (T6.setTop (mkF m 58 #[.val (.ref b), .val (.int (Int32.ofNat o)), .val (.int (Int32.ofNat len)), .val (.ref s.heap.size), .val (.int (Int32.ofNat len)), .unset] [.ref s.heap.size])) := c7.trans (by
    refine XS.istore X6.here hexec rfl (hb hbytes d12) rfl rfl ?_
    refine XS.iload X6.here hexec rfl (hb hbytes d14) rfl ?_
    refine XS.iloadN X6.here hexec rfl (hb hbytes d16) rfl ?_
    refine XS.icmpYes X6.here hexec rfl (pc0 := 17) rfl (hb hbytes d17) rfl (ii_eq_t rfl) (by decide) rfl ?_
    refine XS.aloadN X6.here hexec rfl (hb hbytes d57) rfl rfl ?_
    exact Steps.refl _)
  have X8 := X6.wide (L' := []) (cells' := 1) (slots' := len) (fun x hx hlt => by
    simp only [List.nil_append, copyLocs, List.mem_map, List.mem_range] at hx
    obtain ⟨i, -, rfl⟩ := hx
    exact absurd hlt (Nat.lt_irrefl _)) (Nat.le_refl _) (by omega)
  exact ⟨T6, some (.ref s.heap.size), _, _, _, X8, rfl, rfl, rfl, (fun h => by cases h), ⟨⟨rfl, B6, ba3.like (X3.warmed.alike.symm.trans X6.warmed.alike) p6.1 f6.1 f6.2.1 f6.2.2.1, f6.2.1.trans bv3, by rw [X6.warmed.alike.findClass, f6.1]; exact bf3, by rw [f6.2.2.1, bs3]; simp, fun j hj => by rw [f6.2.2.2 j, if_pos (by omega)]; rfl, kp3.put p6 (Nat.le_refl _)⟩, by rw [p6.2.2, bh3, hh0]; simp⟩, fun fs hl => c8.trans (X8.areturnOut hexec rfl hret rfl (hb hbytes d58) hl)⟩
end Cmp3
namespace CodL
def yN : MethodName := ⟨"java/lang/StringUTF16", "coderFromArrayLen", "([BI)B"⟩
abbrev yB : ByteArray := jdk_52_method_15_code
theorem d0 : decode yB 0 = .ok (.iload_n 1, 1) := by decide +kernel
theorem d1 : decode yB 1 = .ok (.aload_n 0, 1) := by decide +kernel
theorem d2 : decode yB 2 = .ok (.arraylength, 1) := by decide +kernel
theorem d3 : decode yB 3 = .ok (.isub, 1) := by decide +kernel
theorem d4 : decode yB 4 = .ok (.bipush 31, 2) := by decide +kernel
theorem d6 : decode yB 6 = .ok (.iushr, 1) := by decide +kernel
theorem d7 : decode yB 7 = .ok (.i2b, 1) := by decide +kernel
theorem d8 : decode yB 8 = .ok (.ireturn, 1) := by decide +kernel
def site : List Cond := []
def tab : Cond := tabOf yN yB 2 (some .byte) site
def P (d : Addr) (B : Cell) (args : Array Value) (s : State) : Prop := args = #[.ref d, .int (Int32.ofNat B.slots.size)] ∧ Arr .byte d B s
def E (r : Option Value) (s u : State) : Prop := XT.PureE (some (.int 0)) r s u
/-- an array as long as the number of chars: LATIN1 -/
theorem law (l : Launch) (d : Addr) (B : Cell) : Law l yN 2 2 0 0 yB 2 (some .byte) site (P d B) E [] 0 0 := by
  refine Law.of_walk (plainFor_of_name (by decide +kernel)) (by decide +kernel) (by decide +kernel) (by decide) (fun _ _ h => by rw [h.1]; rfl) (fun _ U U' hal hh h => ⟨h.1, h.2.mv hal hh⟩) (fun r U U' V V' h1 hal h2 h => XT.PureE.mv r U U' V V' h1 hal h2 h) ?_
  intro p e s m args below meth c s₁ X0 hexec hbytes hml hret hlk hnm hown hh0 W hP
  obtain ⟨rfl, hB⟩ := hP
  have hB0 := hB.mv X0.warmed.alike hh0
  have c1 : Steps p.tables e below (s₁.setTop (entryFrame m #[.ref d, .int (Int32.ofNat B.slots.size)] 2)) (s₁.setTop (mkF m 0 #[.val (.ref d), .val (.int (Int32.ofNat B.slots.size))] [])) := entry rfl
  have c2 : Steps p.tables e below (s₁.setTop (entryFrame m #[.ref d, .int (Int32.ofNat B.slots.size)] 2)) (s₁.setTop (mkF m 2 #[.val (.ref d), .val (.int (Int32.ofNat B.slots.size))] [.ref d, .int (Int32.ofNat B.slots.size)])) := c1.trans (by
    refine XS.iloadN X0.here hexec rfl (hb hbytes d0) rfl ?_
    refine XS.aloadN X0.here hexec rfl (hb hbytes d1) rfl rfl ?_
    exact Steps.refl _)
  have c3 : Steps p.tables e below (s₁.setTop (entryFrame m #[.ref d, .int (Int32.ofNat B.slots.size)] 2)) (s₁.setTop (mkF m 8 #[.val (.ref d), .val (.int (Int32.ofNat B.slots.size))] [.int (lo8 (ushr (Int32.ofNat B.slots.size - Int32.ofNat B.slots.size) 31))])) := c2.trans (by
    refine X0.alen hexec hB0 rfl rfl (hb hbytes d2) ?_
    refine XS.isub X0.here hexec rfl (hb hbytes d3) rfl ?_
    refine bipushV X0.here hexec rfl 31 (hb hbytes d4) (by decide) ?_
    refine iushr X0.here hexec rfl (hb hbytes d6) rfl ?_
    refine i2b X0.here hexec rfl (hb hbytes d7) rfl ?_
    exact Steps.refl _)
  have e0 : lo8 (ushr (Int32.ofNat B.slots.size - Int32.ofNat B.slots.size) 31) = 0 := by rw [Int32.sub_self]; decide
  rw [e0] at c3
  exact ⟨s₁, some (.int 0), _, _, _, X0, rfl, rfl, rfl, (fun h => by cases h), ⟨rfl, hh0⟩, fun fs hl => c3.trans (X0.ireturnOut hexec hret rfl (Or.inr (Or.inr (Or.inl rfl))) (hb hbytes d8) hl)⟩
end CodL
/-- the String at a is Latin-1 over a new byte[] (the heap's one new cell): the low bytes of the len chars of A from o on; every cell but a is kept -/
def Got (a : Addr) (D : Cell) (fV fC : Field) (A : Cell) (o len : Nat) (r : Option Value) (s u : State) : Prop := r = none ∧ ∃ D' V : Cell, Blank "java/lang/String" a D' u ∧ Same D D' [fV.slot, fC.slot] ∧ D'.slots[fV.slot]? = some (.ref s.heap.size) ∧ D'.slots[fC.slot]? = some (.int 0) ∧ Arr .byte s.heap.size V u ∧ V.vm = .none ∧ u.vm.findClass "[B" = some V.cls ∧ V.slots.size = len ∧ (∀ j, j < len → V.slots[j]? = some (.int (lo8 (cv A (o + j))))) ∧ (∀ (y : Addr) (c : Cell), y ≠ a → s.heap[y]? = some c → u.heap[y]? = some c) ∧ u.heap.size = s.heap.size + 1
theorem Got.mv {a : Addr} {D A : Cell} {fV fC : Field} {o len : Nat} : ∀ r (U U' V V' : State), U'.heap = U.heap → V.vm.Alike V'.vm → V'.heap = V.heap → Got a D fV fC A o len r U V → Got a D fV fC A o len r U' V' :=
  fun r U U' V V' h1 hal h2 ⟨e0, D', X, a1, a2, a3, a4, a5, a6, a7, a8, a9, a10, a11⟩ => ⟨e0, D', X, a1.mv hal h2, a2, by rw [h1]; exact a3, a4, by rw [h1]; exact a5.mv hal h2, a6, by rw [hal.findClass]; exact a7, a8, a9, by rw [h1, h2]; exact a10, by rw [h1, h2]; exact a11⟩
namespace New4
def yN : MethodName := ⟨"java/lang/String", "<init>", "([CIILjava/lang/Void;)V"⟩
abbrev yB : ByteArray := jdk_42_method_149_code
theorem d0 : decode yB 0 = .ok (.aload_n 0, 1) := by decide +kernel
theorem d1 : decode yB 1 = .ok (.invokespecial 1, 3) := by decide +kernel
theorem d4 : decode yB 4 = .ok (.iload_n 3, 1) := by decide +kernel
theorem d5 : decode yB 5 = .ok (.ifCond (.ne) 22, 3) := by decide +kernel
theorem d27 : decode yB 27 = .ok (.getstatic 38, 3) := by decide +kernel
theorem d30 : decode yB 30 = .ok (.ifCond (.eq) 28, 3) := by decide +kernel
theorem d33 : decode yB 33 = .ok (.aload_n 1, 1) := by decide +kernel
theorem d34 : decode yB 34 = .ok (.iload_n 2, 1) := by decide +kernel
theorem d35 : decode yB 35 = .ok (.iload_n 3, 1) := by decide +kernel
theorem d36 : decode yB 36 = .ok (.invokestatic 177, 3) := by decide +kernel
theorem d39 : decode yB 39 = .ok (.astore 5, 2) := by decide +kernel
theorem d41 : decode yB 41 = .ok (.aload_n 0, 1) := by decide +kernel
theorem d42 : decode yB 42 = .ok (.aload 5, 2) := by decide +kernel
theorem d44 : decode yB 44 = .ok (.iload_n 3, 1) := by decide +kernel
theorem d45 : decode yB 45 = .ok (.invokestatic 47, 3) := by decide +kernel
theorem d48 : decode yB 48 = .ok (.putfield 15, 3) := by decide +kernel
theorem d51 : decode yB 51 = .ok (.aload_n 0, 1) := by decide +kernel
theorem d52 : decode yB 52 = .ok (.aload 5, 2) := by decide +kernel
theorem d54 : decode yB 54 = .ok (.putfield 9, 3) := by decide +kernel
theorem d57 : decode yB 57 = .ok (.return_, 1) := by decide +kernel
def site : List Cond := [.fieldLink "java/lang/String" 38 "java/lang/String" "COMPACT_STRINGS" "Z", Cmp3.tab, CodL.tab, .laysFinal "java/lang/String" "java/lang/String" "value" "[B", .fieldLink "java/lang/String" 9 "java/lang/String" "value" "[B", .laysFinal "java/lang/String" "java/lang/String" "coder" "B", .fieldLink "java/lang/String" 15 "java/lang/String" "coder" "B"] ++ objW "java/lang/String" 1 ++ staticW "java/lang/String" 177 Cmp3.yN ++ staticW "java/lang/String" 47 CodL.yN
def tab : Cond := tabOf yN yB 6 none site
def P (a : Addr) (D : Cell) (fV fC : Field) (b : Addr) (A : Cell) (z : Int32) (o len : Nat) (args : Array Value) (s : State) : Prop := args = #[.ref a, .ref b, .int (Int32.ofNat o), .int (Int32.ofNat len), .null] ∧ Blank "java/lang/String" a D s ∧ Found "java/lang/String" "value" "[B" fV s ∧ Found "java/lang/String" "coder" "B" fC s ∧ Ch b A s ∧ StaticIs s "java/lang/String" "COMPACT_STRINGS" "Z" (.int z) ∧ ¬ z = 0 ∧ 0 < len ∧ o + len ≤ A.slots.size ∧ len ≤ 536870912 ∧ ∀ i, i < len → ¬ 255 < cv A (o + i)
def E (a : Addr) (D : Cell) (fV fC : Field) (A : Cell) (o len : Nat) (r : Option Value) (s u : State) : Prop := Got a D fV fC A o len r s u
/-- len > 0, no char of the range above 255: a Latin-1 String of their low bytes -/
theorem law (l : Launch) (a : Addr) (D : Cell) (fV fC : Field) (b : Addr) (A : Cell) (z : Int32) (o len : Nat) : Law l yN 5 4 2 35 yB 6 none site (P a D fV fC b A z o len) (E a D fV fC A o len) [⟨a, fC.slot⟩, ⟨a, fV.slot⟩] 1 len := by
  refine Law.of_walk (plainFor_of_name (by decide +kernel)) (by decide +kernel) (by decide +kernel) (by decide) (fun _ _ h => by rw [h.1]; rfl) (fun _ U U' hal hh h => ⟨h.1, h.2.1.mv hal hh, h.2.2.1.al hal, h.2.2.2.1.al hal, h.2.2.2.2.1.mv hal hh, h.2.2.2.2.2.1.there hal hh, h.2.2.2.2.2.2⟩) (fun r U U' V V' h1 hal h2 h => Got.mv r U U' V V' h1 hal h2 h) ?_
  intro p e s m args below meth c s₁ X0 hexec hbytes hml hret hlk hnm hown hh0 W hP
  obtain ⟨rfl, hB, f1, f2, hA, s1, hz, l0, l1, l2, hp⟩ := hP
  have a31 := hA.1.2.2.2
  have c1 : Steps p.tables e below (s₁.setTop (entryFrame m #[.ref a, .ref b, .int (Int32.ofNat o), .int (Int32.ofNat len), .null] 6)) (s₁.setTop (mkF m 0 #[.val (.ref a), .val (.ref b), .val (.int (Int32.ofNat o)), .val (.int (Int32.ofNat len)), .val .null, .unset] [])) := entry rfl
  have c2 : Steps p.tables e below (s₁.setTop (entryFrame m #[.ref a, .ref b, .int (Int32.ofNat o), .int (Int32.ofNat len), .null] 6)) (s₁.setTop (mkF m 1 #[.val (.ref a), .val (.ref b), .val (.int (Int32.ofNat o)), .val (.int (Int32.ofNat len)), .val .null, .unset] [.ref a])) := c1.trans (by
    refine XS.aloadN X0.here hexec rfl (hb hbytes d0) rfl rfl ?_
    exact Steps.refl _)
  obtain ⟨T3, X3, q3, st3⟩ := X0.oinit hexec hown (wks W (objW "java/lang/String" 1)) (g := (mkF m 1 #[.val (.ref a), .val (.ref b), .val (.int (Int32.ofNat o)), .val (.int (Int32.ofNat len)), .val .null, .unset] [.ref a])) rfl (by rw [hml]; rfl) (rest := []) rfl (hb hbytes d1) (W := 0) (by show 2 * 0 + 0 ≤ _; decide) (Nat.le_of_ble_eq_true rfl) (Nat.le_of_ble_eq_true rfl)
  have hh3 := q3.trans hh0
  have c4 : Steps p.tables e below (s₁.setTop (entryFrame m #[.ref a, .ref b, .int (Int32.ofNat o), .int (Int32.ofNat len), .null] 6)) (T3.setTop (mkF m 27 #[.val (.ref a), .val (.ref b), .val (.int (Int32.ofNat o)), .val (.int (Int32.ofNat len)), .val .null, .unset] [])) := (c2.trans (st3 _ (Steps.refl _))).trans (by
    refine XS.iloadN X3.here hexec rfl (hb hbytes d4) rfl ?_
    refine XS.ifYes X3.here hexec rfl (pc0 := 5) rfl (hb hbytes d5) rfl (i0_ne_t (nz32 (by omega) l0)) (by decide) rfl ?_
    exact Steps.refl _)
  obtain ⟨T5, X5, q5, st5⟩ := X3.sget hexec hown (wk W (.fieldLink "java/lang/String" 38 "java/lang/String" "COMPACT_STRINGS" "Z")) s1 (fun _ _ h => by rw [hh3]; exact h) (g := (mkF m 27 #[.val (.ref a), .val (.ref b), .val (.int (Int32.ofNat o)), .val (.int (Int32.ofNat len)), .val .null, .unset] [])) rfl (hb hbytes d27)
  have hh5 := q5.trans hh3
  have c6 : Steps p.tables e below (s₁.setTop (entryFrame m #[.ref a, .ref b, .int (Int32.ofNat o), .int (Int32.ofNat len), .null] 6)) (T5.setTop (mkF m 30 #[.val (.ref a), .val (.ref b), .val (.int (Int32.ofNat o)), .val (.int (Int32.ofNat len)), .val .null, .unset] [.int z])) := c4.trans (st5 _ (Steps.refl _))
  have c7 : Steps p.tables e below (s₁.setTop (entryFrame m #[.ref a, .ref b, .int (Int32.ofNat o), .int (Int32.ofNat len), .null] 6)) (T5.setTop (mkF m 36 #[.val (.ref a), .val (.ref b), .val (.int (Int32.ofNat o)), .val (.int (Int32.ofNat len)), .val .null, .unset] [.int (Int32.ofNat len), .int (Int32.ofNat o), .ref b])) := c6.trans (by
    refine XS.ifNo X5.here hexec rfl (hb hbytes d30) rfl (i0_eq_f hz) ?_
    refine XS.aloadN X5.here hexec rfl (hb hbytes d33) rfl rfl ?_
    refine XS.iloadN X5.here hexec rfl (hb hbytes d34) rfl ?_
    refine XS.iloadN X5.here hexec rfl (hb hbytes d35) rfl ?_
    exact Steps.refl _)
  obtain ⟨v8, T8, X8, E8, g8⟩ := X5.callS hexec (Cmp3.law l b A o len) hown (wks W (staticW "java/lang/String" 177 Cmp3.yN)) (wk W Cmp3.tab) (W := 0) (Nat.le_of_ble_eq_true rfl) (Nat.le_of_ble_eq_true rfl) (Nat.le_refl _) (by show 0 + len ≤ len; omega) (g := (mkF m 36 #[.val (.ref a), .val (.ref b), .val (.int (Int32.ofNat o)), .val (.int (Int32.ofNat len)), .val .null, .unset] [.int (Int32.ofNat len), .int (Int32.ofNat o), .ref b])) rfl (by rw [hml]; rfl) c7 (argsL := [.ref b, .int (Int32.ofNat o), .int (Int32.ofNat len)]) (rest := []) rfl rfl (by show 2 * 0 + 0 ≤ _; decide) (hb hbytes d36) (⟨rfl, hA.mv X5.warmed.alike hh5, l1, l2, hp⟩)
  obtain ⟨e8, z8⟩ := E8
  obtain ⟨rfl, N, n1, n2, n3, n4, n5, n6⟩ := NewArr.mv _ T5 s _ _ hh5.symm (Vm.Alike.refl _) rfl e8
  rw [hh5] at z8
  have hB1 := hB.keep X8.warmed.alike (n6 _ _ hB.1)
  have hne : s.heap.size ≠ a := (Nat.ne_of_lt (Array.getElem?_eq_some_iff.mp hB.1).1).symm
  have c9 : Steps p.tables e below (s₁.setTop (entryFrame m #[.ref a, .ref b, .int (Int32.ofNat o), .int (Int32.ofNat len), .null] 6)) (T8.setTop (mkF m 39 #[.val (.ref a), .val (.ref b), .val (.int (Int32.ofNat o)), .val (.int (Int32.ofNat len)), .val .null, .unset] [.ref s.heap.size])) := g8
  have c10 : Steps p.tables e below (s₁.setTop (entryFrame m #[.ref a, .ref b, .int (Int32.ofNat o), .int (Int32.ofNat len), .null] 6)) (T8.setTop (mkF m 45 #[.val (.ref a), .val (.ref b), .val (.int (Int32.ofNat o)), .val (.int (Int32.ofNat len)), .val .null, .val (.ref s.heap.size)] [.int (Int32.ofNat N.slots.size), .ref s.heap.size, .ref a])) := by
    have hc : Steps p.tables e below (s₁.setTop (entryFrame m #[.ref a, .ref b, .int (Int32.ofNat o), .int (Int32.ofNat len), .null] 6)) (T8.setTop (mkF m 45 #[.val (.ref a), .val (.ref b), .val (.int (Int32.ofNat o)), .val (.int (Int32.ofNat len)), .val .null, .val (.ref s.heap.size)] [.int (Int32.ofNat len), .ref s.heap.size, .ref a])) := c9.trans (by
      refine XS.astore X8.here hexec rfl (hb hbytes d39) rfl rfl rfl ?_
      refine XS.aloadN X8.here hexec rfl (hb hbytes d41) rfl rfl ?_
      refine XS.aload X8.here hexec rfl (hb hbytes d42) rfl rfl ?_
      refine XS.iloadN X8.here hexec rfl (hb hbytes d44) rfl ?_
      exact Steps.refl _)
    rw [n4]; exact hc
  obtain ⟨v11, T11, X11, E11, g11⟩ := X8.callS hexec (CodL.law l s.heap.size N) hown (wks W (staticW "java/lang/String" 47 CodL.yN)) (wk W CodL.tab) (W := 1) (Nat.le_of_ble_eq_true rfl) (Nat.le_of_ble_eq_true rfl) (Nat.le_refl _) (by show 0 + len + 0 ≤ len; omega) (g := (mkF m 45 #[.val (.ref a), .val (.ref b), .val (.int (Int32.ofNat o)), .val (.int (Int32.ofNat len)), .val .null, .val (.ref s.heap.size)] [.int (Int32.ofNat N.slots.size), .ref s.heap.size, .ref a])) rfl (by rw [hml]; rfl) c10 (argsL := [.ref s.heap.size, .int (Int32.ofNat N.slots.size)]) (rest := [.ref a]) rfl rfl (by show 2 * 0 + (1 + 0) ≤ _; decide) (hb hbytes d45) (⟨rfl, n1⟩)
  obtain ⟨rfl, q11⟩ := E11
  have hB11 := hB1.mv (X8.warmed.alike.symm.trans X11.warmed.alike) q11
  have c12 : Steps p.tables e below (s₁.setTop (entryFrame m #[.ref a, .ref b, .int (Int32.ofNat o), .int (Int32.ofNat len), .null] 6)) (T11.setTop (mkF m 48 #[.val (.ref a), .val (.ref b), .val (.int (Int32.ofNat o)), .val (.int (Int32.ofNat len)), .val .null, .val (.ref s.heap.size)] [.int 0, .ref a])) := g11
  obtain ⟨T13, X13, p13, bl13, sl13, st13⟩ := X11.finit hexec hown (wk W (.fieldLink "java/lang/String" 15 "java/lang/String" "coder" "B")) (Or.inr ⟨_, (wk W (.laysFinal "java/lang/String" "java/lang/String" "coder" "B"))⟩) (Or.inl ⟨rfl, hnm⟩) f2 (Or.inl rfl) hB11 (t := .byte) (by decide +kernel) rfl (g := (mkF m 48 #[.val (.ref a), .val (.ref b), .val (.int (Int32.ofNat o)), .val (.int (Int32.ofNat len)), .val .null, .val (.ref s.heap.size)] [.int 0, .ref a])) rfl (rest := []) rfl (hb hbytes d48)
  have c14 : Steps p.tables e below (s₁.setTop (entryFrame m #[.ref a, .ref b, .int (Int32.ofNat o), .int (Int32.ofNat len), .null] 6)) (T13.setTop (mkF m 54 #[.val (.ref a), .val (.ref b), .val (.int (Int32.ofNat o)), .val (.int (Int32.ofNat len)), .val .null, .val (.ref s.heap.size)] [.ref s.heap.size, .ref a])) := (c12.trans (st13 _ (Steps.refl _))).trans (by
    refine XS.aloadN X13.here hexec rfl (hb hbytes d51) rfl rfl ?_
    refine XS.aload X13.here hexec rfl (hb hbytes d52) rfl rfl ?_
    exact Steps.refl _)
  obtain ⟨T15, X15, p15, bl15, sl15, st15⟩ := X13.finit hexec hown (wk W (.fieldLink "java/lang/String" 9 "java/lang/String" "value" "[B")) (Or.inr ⟨_, (wk W (.laysFinal "java/lang/String" "java/lang/String" "value" "[B"))⟩) (Or.inl ⟨rfl, hnm⟩) f1 (Or.inl rfl) bl13 (t := (.array .byte)) (by decide +kernel) rfl (g := (mkF m 54 #[.val (.ref a), .val (.ref b), .val (.int (Int32.ofNat o)), .val (.int (Int32.ofNat len)), .val .null, .val (.ref s.heap.size)] [.ref s.heap.size, .ref a])) rfl (rest := []) rfl (hb hbytes d54)
  have c16 : Steps p.tables e below (s₁.setTop (entryFrame m #[.ref a, .ref b, .int (Int32.ofNat o), .int (Int32.ofNat len), .null] 6)) (T15.setTop (mkF m 57 #[.val (.ref a), .val (.ref b), .val (.int (Int32.ofNat o)), .val (.int (Int32.ofNat len)), .val .null, .val (.ref s.heap.size)] [])) := c14.trans (st15 _ (Steps.refl _))
  have ap := apart (Or.inr ⟨_, (wk W (.laysFinal "java/lang/String" "java/lang/String" "value" "[B"))⟩) (Or.inr ⟨_, (wk W (.laysFinal "java/lang/String" "java/lang/String" "coder" "B"))⟩) f1 f2 (t₁ := .array .byte) (t₂ := .byte) (by decide +kernel) (by decide +kernel) (by decide)
  have al := X8.warmed.alike.symm.trans X15.warmed.alike
  have n7 : T11.heap[s.heap.size]? = some N := by rw [q11]; exact n1.1
  exact ⟨T15, none, _, _, _, X15, by simp, rfl, by omega, (fun _ => rfl), ⟨rfl, _, N, bl15, ((Same.refl D _).set _ (by simp)).set _ (by simp), sl15, (Cell.slots_setSlot_ne _ ap).trans sl13, n1.keep al (p15.other hne (p13.other hne n7)), n2, by rw [al.findClass]; exact n3, n4, n5, fun y c h1 h2 => p15.other h1 (p13.other h1 (by rw [q11]; exact n6 y c h2)), by rw [p15.2.2, p13.2.2, q11]; exact z8⟩, fun fs hl => c16.trans (X15.returnOut hexec hret (hb hbytes d57) hl)⟩
end New4
namespace New1
def yN : MethodName := ⟨"java/lang/String", "<init>", "([C)V"⟩
abbrev yB : ByteArray := jdk_42_method_3_code
theorem d0 : decode yB 0 = .ok (.aload_n 0, 1) := by decide +kernel
theorem d1 : decode yB 1 = .ok (.aload_n 1, 1) := by decide +kernel
theorem d2 : decode yB 2 = .ok (.iconst 0, 1) := by decide +kernel
theorem d3 : decode yB 3 = .ok (.aload_n 1, 1) := by decide +kernel
theorem d4 : decode yB 4 = .ok (.arraylength, 1) := by decide +kernel
theorem d5 : decode yB 5 = .ok (.aconst_null, 1) := by decide +kernel
theorem d6 : decode yB 6 = .ok (.invokespecial 27, 3) := by decide +kernel
theorem d9 : decode yB 9 = .ok (.return_, 1) := by decide +kernel
def site : List Cond := [New4.tab] ++ initW "java/lang/String" 27 New4.yN
def tab : Cond := tabOf yN yB 2 none site
def P (a : Addr) (D : Cell) (fV fC : Field) (b : Addr) (A : Cell) (z : Int32) (args : Array Value) (s : State) : Prop := args = #[.ref a, .ref b] ∧ Blank "java/lang/String" a D s ∧ Found "java/lang/String" "value" "[B" fV s ∧ Found "java/lang/String" "coder" "B" fC s ∧ Ch b A s ∧ StaticIs s "java/lang/String" "COMPACT_STRINGS" "Z" (.int z) ∧ ¬ z = 0 ∧ 0 < A.slots.size ∧ A.slots.size ≤ 536870912 ∧ ∀ i, i < A.slots.size → ¬ 255 < cv A i
def E (a : Addr) (D : Cell) (fV fC : Field) (A : Cell) (r : Option Value) (s u : State) : Prop := Got a D fV fC A 0 A.slots.size r s u
/-- new String(chars), not empty, no char above 255: a Latin-1 String of their low bytes -/
theorem law (l : Launch) (a : Addr) (D : Cell) (fV fC : Field) (b : Addr) (A : Cell) (z : Int32) : Law l yN 2 1 3 52 yB 2 none site (P a D fV fC b A z) (E a D fV fC A) [⟨a, fC.slot⟩, ⟨a, fV.slot⟩] 1 A.slots.size := by
  refine Law.of_walk (plainFor_of_name (by decide +kernel)) (by decide +kernel) (by decide +kernel) (by decide) (fun _ _ h => by rw [h.1]; rfl) (fun _ U U' hal hh h => ⟨h.1, h.2.1.mv hal hh, h.2.2.1.al hal, h.2.2.2.1.al hal, h.2.2.2.2.1.mv hal hh, h.2.2.2.2.2.1.there hal hh, h.2.2.2.2.2.2⟩) (fun r U U' V V' h1 hal h2 h => Got.mv r U U' V V' h1 hal h2 h) ?_
  intro p e s m args below meth c s₁ X0 hexec hbytes hml hret hlk hnm hown hh0 W hP
  obtain ⟨rfl, hB, f1, f2, hA, s1, hz, l0, l2, hp⟩ := hP
  have c1 : Steps p.tables e below (s₁.setTop (entryFrame m #[.ref a, .ref b] 2)) (s₁.setTop (mkF m 0 #[.val (.ref a), .val (.ref b)] [])) := entry rfl
  have c2 : Steps p.tables e below (s₁.setTop (entryFrame m #[.ref a, .ref b] 2)) (s₁.setTop (mkF m 6 #[.val (.ref a), .val (.ref b)] [.null, .int (Int32.ofNat A.slots.size), .int 0, .ref b, .ref a])) := c1.trans (by
    refine XS.aloadN X0.here hexec rfl (hb hbytes d0) rfl rfl ?_
    refine XS.aloadN X0.here hexec rfl (hb hbytes d1) rfl rfl ?_
    refine iconstV X0.here hexec rfl 0 (hb hbytes d2) (by decide) ?_
    refine XS.aloadN X0.here hexec rfl (hb hbytes d3) rfl rfl ?_
    refine X0.alen hexec (hA.1.mv X0.warmed.alike hh0) rfl rfl (hb hbytes d4) ?_
    refine XS.aconstNull X0.here hexec rfl (hb hbytes d5) ?_
    exact Steps.refl _)
  obtain ⟨v3, T3, X3, E3, g3⟩ := X0.callN hexec (New4.law l a D fV fC b A z 0 A.slots.size) rfl hown (wks W (initW "java/lang/String" 27 New4.yN)) (W New4.tab (by simp only [site, List.mem_cons, List.mem_append, true_or, or_true])) (W := 0) (Nat.le_of_ble_eq_true rfl) (Nat.le_of_ble_eq_true rfl) (Nat.le_refl _) (by show 0 + A.slots.size ≤ A.slots.size; omega) (g := (mkF m 6 #[.val (.ref a), .val (.ref b)] [.null, .int (Int32.ofNat A.slots.size), .int (Int32.ofNat 0), .ref b, .ref a])) rfl (by rw [hml]; rfl) c2 (argsL := [.ref b, .int (Int32.ofNat 0), .int (Int32.ofNat A.slots.size), .null]) (rest := []) rfl rfl (by show 2 * 0 + 0 ≤ _; decide) (hb hbytes d6) (⟨rfl, hB.mv X0.warmed.alike hh0, f1.al X0.warmed.alike, f2.al X0.warmed.alike, hA.mv X0.warmed.alike hh0, s1.there X0.warmed.alike hh0, hz, l0, by omega, l2, fun i hi => by rw [Nat.zero_add]; exact hp i hi⟩)
  have e0 := Got.mv _ s₁ s _ _ hh0.symm (Vm.Alike.refl _) rfl E3
  obtain rfl := e0.1
  have c4 : Steps p.tables e below (s₁.setTop (entryFrame m #[.ref a, .ref b] 2)) (T3.setTop (mkF m 9 #[.val (.ref a), .val (.ref b)] [])) := g3
  exact ⟨T3, none, _, _, _, X3, by simp, rfl, by omega, (fun _ => rfl), e0, fun fs hl => c4.trans (X3.returnOut hexec hret (hb hbytes d9) hl)⟩
theorem pays {l : Launch} {R : Room} {p : Program} {e : Env} {below : List Frame} {s : State} {sargs : Array Value} {len W : Nat} (a : Addr) (D : Cell) (fV fC : Field) (b : Addr) (A : Cell) (z : Int32) (htab : tab.before sargs s = true) (hfr : 4 ≤ R.frames) (hlo : W + 65 ≤ R.locals) :
    Back l R p e below s sargs yN len W (fun A₁ a₁ => A₁.cells + 1 ≤ R.cells ∧ A₁.slots + A.slots.size ≤ R.slots ∧ P a D fV fC b A z a₁ A₁.U) (fun A₁ _ v₁ B₁ => E a D fV fC A v₁ A₁.U B₁.U ∧ B₁.locs = A₁.locs ++ [⟨a, fC.slot⟩, ⟨a, fV.slot⟩] ∧ B₁.cells = A₁.cells + 1 ∧ B₁.slots = A₁.slots + A.slots.size) :=
  (law l a D fV fC b A z).pays htab hfr (by omega)
end New1
/-- the byte, read back as charAt reads it, is the char -/
theorem lo8_mask {x : Int32} (h0 : ¬ x < 0) (h1 : ¬ 255 < x) : lo8 x &&& 255 = x := by
  have t : ∀ k : Fin 256, lo8 (Int32.ofNat k.val) &&& 255 = Int32.ofNat k.val := by decide +kernel
  rw [Int32.lt_iff_toInt_lt] at h0 h1
  have e0 : (0 : Int32).toInt = 0 := rfl
  have e1 : (255 : Int32).toInt = 255 := rfl
  obtain ⟨k, hk⟩ : ∃ k : Nat, x.toInt = k := ⟨x.toInt.toNat, by omega⟩
  have hx : x = Int32.ofNat k := Int32.toInt_inj.mp (by rw [hk, Int32.toInt_ofNat_small (by omega)])
  rw [hx]
  exact t ⟨k, by omega⟩
end StrChars
namespace StrChars.Road
open Jvm Sem ClassFile Op Lib Jvm.Stand Jvm.Free Jvm.Free.XT
open Jvm.Lib.Cold (StaticIs)
abbrev ST : String := "java/lang/String"
/-- every table word that New1's law asks, flat -/
abbrev words : List Jvm.Cond := [.code New1.yN New1.yB 2 none, .initialized ST, .methodLink ST 27 New4.yN, .instanceMethod New4.yN,
  .code New4.yN New4.yB 6 none, .fieldLink ST 38 ST "COMPACT_STRINGS" "Z", .laysFinal ST ST "value" "[B", .fieldLink ST 9 ST "value" "[B", .laysFinal ST ST "coder" "B", .fieldLink ST 15 ST "coder" "B",
  .methodLink ST 1 Lib.objectInit, .instanceMethod Lib.objectInit, .code Lib.objectInit ⟨#[0xb1]⟩ 1 none, .methodLink ST 177 Cmp3.yN, .static Cmp3.yN, .methodLink ST 47 CodL.yN, .static CodL.yN,
  .code Cmp3.yN Cmp3.yB 6 (some (.array .byte)), .initialized U16, .arrayClass .byte, .methodLink U16 115 Cmp5.yN, .static Cmp5.yN, .code Cmp5.yN Cmp5.yB 7 (some .int), .code CodL.yN CodL.yB 2 (some .byte)]
theorem tab_of {a : Array Value} {s : State} (h : ∀ w ∈ words, w.before a s = true) : New1.tab.before a s = true := by
  have h5 : Cmp5.tab.before a s = true := unparts (wk h (.code Cmp5.yN Cmp5.yB 7 (some .int))) (wks h (.initialized Cmp5.yN.cls :: Cmp5.site))
  have hc : CodL.tab.before a s = true := unparts (wk h (.code CodL.yN CodL.yB 2 (some .byte))) (wks h (.initialized CodL.yN.cls :: CodL.site))
  have q5 : ∀ w ∈ Cmp5.tab :: words, w.before a s = true := fun w hw => (List.mem_cons.mp hw).elim (fun e => e ▸ h5) (h w)
  have h3 : Cmp3.tab.before a s = true := unparts (wk q5 (.code Cmp3.yN Cmp3.yB 6 (some (.array .byte)))) (wks q5 (.initialized Cmp3.yN.cls :: Cmp3.site))
  have q3 : ∀ w ∈ Cmp3.tab :: CodL.tab :: words, w.before a s = true := fun w hw => (List.mem_cons.mp hw).elim (fun e => e ▸ h3) fun hw => (List.mem_cons.mp hw).elim (fun e => e ▸ hc) (h w)
  have h4 : New4.tab.before a s = true := unparts (wk q3 (.code New4.yN New4.yB 6 none)) (wks q3 (.initialized New4.yN.cls :: New4.site))
  have q4 : ∀ w ∈ New4.tab :: words, w.before a s = true := fun w hw => (List.mem_cons.mp hw).elim (fun e => e ▸ h4) (h w)
  exact unparts (wk q4 (.code New1.yN New1.yB 2 none)) (wks q4 (.initialized New1.yN.cls :: New1.site))
/-- the words ride from the start Z to the walk's own state -/
theorem moved {Z s : State} {a0 args : Array Value} (hZ : Z.Warmed39 s.vm) (hw : ∀ d ∈ words, d.before a0 Z = true) : ∀ d ∈ words, d.before args s = true := fun d hd => by
  have q := hw d hd
  have t : ∀ d ∈ words, d = .arrayClass .byte ∨ (d.onTables && d.keepsFace) = true := by decide +kernel
  rcases t d hd with rfl | t
  · exact RoadKit.mvA hZ q
  · exact RoadKit.mv hZ q t
/-- WHAT COMES BACK, over the tables of the start Z: h the heap at the call, h' behind it -/
def Q (Z : State) (x : Addr) (A : Cell) (h : Heap) (v : Option Value) (h' : Heap) (L : List Loc) : Prop := v = none ∧ (∀ y ∈ L, y.base = x) ∧ RoadKit.Keep h h' [x] ∧ h'.size = h.size + 1 ∧ RoadKit.Exa Z h' x ST ∧ RoadKit.Fld Z h' x ST "value" "[B" (.ref h.size) ∧ RoadKit.Fld Z h' x ST "coder" "B" (.int 0) ∧
  (∃ V : Cell, RoadKit.Arr Z h' h.size V .byte ∧ V.vm = .none ∧ Z.vm.findClass "[B" = some V.cls ∧ V.slots.size = A.slots.size ∧ ∀ j, j < A.slots.size → V.slots[j]? = some (.int (lo8 (cv A j)))) ∧
  ∀ (O n d : String) (w : Value), RoadKit.Fld Z h x O n d w → RoadKit.slotOf Z O n d ≠ RoadKit.slotOf Z ST "value" "[B" → RoadKit.slotOf Z O n d ≠ RoadKit.slotOf Z ST "coder" "B" → RoadKit.Fld Z h' x O n d w
/-- **new String(chars) AT A CALL, IN THE ROAD'S FORM**: for specialBack behind newO: x the fresh String, b the char[] with the cell A -/
theorem back {p : Program} {l : Launch} {e : Env} {R : Room} {s : State} {args : Array Value} {below : List Frame} {len W : Nat} {Z : State} {a0 : Array Value} {h : Heap} (hZ : Z.Warmed39 s.vm) (hw : ∀ d ∈ words, d.before a0 Z = true) {kI : Nat} (wi : (Jvm.Cond.instantiable ST kI).before a0 Z = true)
    {x b : Addr} {A : Cell} {z : Int32} {v0 c0 : Value} (E : RoadKit.Exa Z h x ST) (V : RoadKit.Fld Z h x ST "value" "[B" v0) (C : RoadKit.Fld Z h x ST "coder" "B" c0) (K : RoadKit.Arr Z h b A .char) (hty : Typed .char A) (S : RoadKit.Sta Z h ST "COMPACT_STRINGS" "Z" (.int z)) (hz : ¬ z = 0)
    (l0 : 0 < A.slots.size) (l2 : A.slots.size ≤ 536870912) (hp : ∀ i, i < A.slots.size → ¬ 255 < cv A i) (hfr : 4 ≤ R.frames) (hlo : W + 65 ≤ R.locals) :
    Back l R p e below s args New1.yN len W (fun P a => a = #[.ref x, .ref b] ∧ P.U.heap = h ∧ P.cells + 1 ≤ R.cells ∧ P.slots + A.slots.size ≤ R.slots)
      (fun P _ v B => ∃ L, Q Z x A h v B.U.heap L ∧ B.locs = P.locs ++ L ∧ B.cells = P.cells + 1 ∧ B.slots = P.slots + A.slots.size) := by
  intro m meth c P g ig mk a X hg hsize hdg hW hn hp'
  obtain ⟨rfl, rfl, r1, r2⟩ := hp'
  have al : Z.vm.Alike P.U.vm := hZ.alike.trans X.warmed.alike
  obtain ⟨D, cfV, kV, iV, fV, hD, gV, stV, knV, obV, asV, slV⟩ := id V
  obtain ⟨D', cfC, kC, iC, fC, hD', gC, stC, -, -, asC, slC⟩ := id C
  cases hD.symm.trans hD'
  obtain ⟨D2, kD, e1, e2, e3, e4, e5⟩ := id E
  cases hD.symm.trans e1
  obtain ⟨c2, k2, i1, i2, i3, -⟩ := Cond.instantiable_spec wi
  cases e2.symm.trans i1
  cases e3.symm.trans i2
  obtain ⟨kU, u1, u2⟩ := al.2.2 _ _ e3
  have hB : Blank ST x D P.U := ⟨hD, ⟨knV, fun q hq => by rw [hq] at obV; cases obV⟩, by rw [al.findClass]; exact e2, kU, u1, by rw [u2]; exact i3, by rw [u2]; exact e5 i3⟩
  have F1 : Found ST "value" "[B" fV P.U := ⟨SBG.found_only al ⟨cfV, kV, iV, gV⟩, stV⟩
  have F2 : Found ST "coder" "B" fC P.U := ⟨SBG.found_only al ⟨cfC, kC, iC, gC⟩, stC⟩
  have hA : Ch b A P.U := ⟨⟨K.1, State.isArrayOf_alike al K.2.1, K.2.2, by omega⟩, hty⟩
  have hS : StaticIs P.U ST "COMPACT_STRINGS" "Z" (.int z) := by
    obtain ⟨cfS, iS, kS, fS, st, cS, t1, t2, t3, t4, t5, t6, t7⟩ := S
    exact StaticIs.there (s := { Z with heap := P.U.heap }) ⟨cfS, iS, kS, fS, st, cS, t1, t2, t3, t4, t5, (fun q => by rw [q] at t6; cases t6), t7⟩ al rfl
  obtain ⟨v, B, X', ⟨⟨hv, E', V', q1, q2, q3, q4, q5, q6, q7, q8, q9, q10, q11⟩, hl, hc, hs⟩, st⟩ := New1.pays x D fV fC b A z (tab_of (moved hZ hw)) hfr hlo m meth c P g ig mk _ X hg hsize hdg hW hn ⟨r1, r2, rfl, hB, F1, F2, hA, hS, hz, l0, l2, hp⟩
  have al' : Z.vm.Alike B.U.vm := hZ.alike.trans X'.warmed.alike
  have hsz : E'.slots.size = D.slots.size := by
    obtain ⟨-, -, -, kB, w1, w2, w3⟩ := q1
    obtain ⟨kB', y1, y2⟩ := al'.2.2 _ _ e3
    rw [q2.2.1] at w1
    cases w1.symm.trans y1
    rw [w3, e5 i3, y2]
  refine ⟨v, B, X', ⟨_, ⟨hv, ?_, ⟨by omega, fun y cy hy hn' => q10 y cy (by simpa using hn') hy, fun y cy hy => ?_⟩, q11, ⟨E', _, q1.1, by rw [q2.2.1]; exact e2, by rw [q2.2.1]; exact e3, by rw [q2.1]; exact obV, fun _ => by rw [hsz]; exact e5 i3⟩,
    ⟨E', cfV, kV, iV, fV, q1.1, gV, stV, by rw [q2.1]; exact knV, by rw [q2.1]; exact obV, by rw [q2.2.1]; exact asV, q3⟩, ⟨E', cfC, kC, iC, fC, q1.1, gC, stC, by rw [q2.1]; exact knV, by rw [q2.1]; exact obV, by rw [q2.2.1]; exact asC, q4⟩,
    ⟨V', ⟨q5.1, State.isArrayOf_alike al'.symm q5.2.1, q5.2.2.1⟩, q6, by rw [← al'.findClass]; exact q7, q8, fun j hj => by have := q9 j hj; rwa [Nat.zero_add] at this⟩, fun O n d w F n1 n2 => ?_⟩, hl, hc, hs⟩, st⟩
  · intro y hy
    simp only [List.mem_cons, List.not_mem_nil, or_false] at hy
    rcases hy with rfl | rfl <;> rfl
  · by_cases q : y = x
    · subst q
      cases hD.symm.trans hy
      exact ⟨E', q1.1, q2.2.1, q2.1, hsz⟩
    · exact ⟨cy, q10 y cy q hy, rfl, rfl, rfl⟩
  · obtain ⟨D3, cf, k, i, f, g1, g2, g3, g4, g5, g6, g7⟩ := F
    cases hD.symm.trans g1
    simp only [RoadKit.slotOf, g2, gV, gC, Option.map_some, Option.getD_some] at n1 n2
    exact ⟨E', cf, k, i, f, q1.1, g2, g3, by rw [q2.1]; exact g4, by rw [q2.1]; exact g5, by rw [q2.2.1]; exact g6, by rw [q2.2.2 f.slot (by simp [n1, n2])]; exact g7⟩
end StrChars.Road
namespace StrChars.Road
open Jvm Sem ClassFile Op Lib Jvm.Stand Jvm.Free Jvm.Free.XT
/-- WHAT COMES BACK, the byte[] as a list of values -/
def QA (Z : State) (x : Addr) (zn : Int32) (cs : List Int32) (h : Heap) (v : Option Value) (h' : Heap) (L : List Loc) : Prop := v = none ∧ (∀ y ∈ L, y.base = x) ∧ RoadKit.Keep h h' [x] ∧ h'.size = h.size + 1 ∧ RoadKit.Exa Z h' x ST ∧ RoadKit.Fld Z h' x ST "value" "[B" (.ref h.size) ∧ RoadKit.Fld Z h' x ST "coder" "B" (.int 0) ∧
  (∃ kb, Z.vm.findClass "[B" = some kb ∧ RoadKit.Arv Z h' h.size kb .byte zn (cs.map fun c => .int (lo8 c)) (.int 0)) ∧
  ∀ (O n d : String) (w : Value), RoadKit.Fld Z h x O n d w → RoadKit.slotOf Z O n d ≠ RoadKit.slotOf Z ST "value" "[B" → RoadKit.slotOf Z O n d ≠ RoadKit.slotOf Z ST "coder" "B" → RoadKit.Fld Z h' x O n d w
/-- **new String(chars) AT A CALL, THE ARRAYS AS LISTS**: the char[] at b holds cs, not empty, no char above 255 -/
theorem backArv {p : Program} {l : Launch} {e : Env} {R : Room} {s : State} {args : Array Value} {below : List Frame} {len W : Nat} {Z : State} {a0 : Array Value} {h : Heap} (hZ : Z.Warmed39 s.vm) (hw : ∀ d ∈ words, d.before a0 Z = true) {kI : Nat} (wi : (Jvm.Cond.instantiable ST kI).before a0 Z = true)
    {x b : Addr} {k : ClassId} {zn z : Int32} {cs : List Int32} {dv v0 c0 : Value} (E : RoadKit.Exa Z h x ST) (V : RoadKit.Fld Z h x ST "value" "[B" v0) (C : RoadKit.Fld Z h x ST "coder" "B" c0) (K : RoadKit.Arv Z h b k .char zn (cs.map Value.int) dv) (S : RoadKit.Sta Z h ST "COMPACT_STRINGS" "Z" (.int z)) (hz : ¬ z = 0)
    (hlen : zn.toNatClampNeg = cs.length) (h0 : 0 < cs.length) (hbig : cs.length ≤ 536870912) (hall : ∀ c ∈ cs, ¬ 255 < c) (hfr : 4 ≤ R.frames) (hlo : W + 65 ≤ R.locals) :
    Back l R p e below s args New1.yN len W (fun P a => a = #[.ref x, .ref b] ∧ P.U.heap = h ∧ P.cells + 1 ≤ R.cells ∧ P.slots + cs.length ≤ R.slots)
      (fun P _ v B => ∃ L, QA Z x zn cs h v B.U.heap L ∧ B.locs = P.locs ++ L ∧ B.cells = P.cells + 1 ∧ B.slots = P.slots + cs.length) := by
  obtain ⟨A, K1, K2, K3, K4, K5, K6⟩ := K
  have e : A.slots.size = cs.length := K3.trans hlen
  have hat : ∀ (i : Nat) (hi : i < cs.length), A.slots[i]? = some (.int cs[i]) := fun i hi => by rw [K5 i (by omega)]; simp [List.getD_eq_getElem?_getD, hi]
  have hcv : ∀ (i : Nat) (hi : i < cs.length), cv A i = cs[i] := fun i hi => by unfold cv; rw [hat i hi]
  have hty : Typed .char A := fun i v hv => by
    have hi : i < A.slots.size := (Array.getElem?_eq_some_iff.mp hv).1
    have q := K5 i hi
    rw [hv] at q
    rw [Option.some.inj q]
    exact K6 i hi
  refine Back.mono (back hZ hw wi E V C K1 hty S hz (by omega) (by omega) (fun i hi => by rw [hcv i (by omega)]; exact hall _ (List.getElem_mem _)) hfr hlo) (fun P a hp => ⟨hp.1, hp.2.1, hp.2.2.1, by rw [e]; exact hp.2.2.2⟩) (fun P a v B hp hq => ?_)
  obtain ⟨L, ⟨q1, q2, q3, q4, q5, q6, q7, ⟨V', v1, v2, v3, v4, v5⟩, q9⟩, hl, hc, hs⟩ := hq
  refine ⟨L, ⟨q1, q2, q3, q4, q5, q6, q7, ⟨V'.cls, v3, V', v1, rfl, by rw [v4, e, hlen], K4, fun i hi => ?_, fun i hi => ?_⟩, q9⟩, hl, hc, by rw [hs, e]⟩
  · have hi' : i < cs.length := by omega
    rw [v5 i (by omega), hcv i hi']; simp [List.getD_eq_getElem?_getD, hi']
  · have hi' : i < cs.length := by omega
    simp only [List.getD_eq_getElem?_getD, List.getElem?_map, List.getElem?_eq_getElem hi', Option.map_some, Option.getD_some]
    exact fits_lo8 _
end StrChars.Road
namespace StrChars.Road
open Jvm Sem ClassFile Op Lib Jvm.Stand Jvm.Free Jvm.Free.XT
/-- WHAT COMES BACK, in the writer's own shape -/
def QV (Z : State) (x : Addr) (N : Int32) (bs : List Int32) (h : Heap) (n0 : Nat) (v : Option Value) (h' : Heap) (L : List Loc) : Prop := v = none ∧ RoadKit.Fr n0 L ∧ RoadKit.Keep h h' [x] ∧ RoadKit.Exa Z h' x ST ∧ RoadKit.Fld Z h' x ST "coder" "B" (.int 0) ∧
  ∃ (t : Addr) (kb : ClassId), n0 ≤ t ∧ h.size ≤ t ∧ ¬ t = x ∧ RoadKit.Fld Z h' x ST "value" "[B" (.ref t) ∧ RoadKit.Arv Z h' t kb .byte N (bs.map Value.int) (.int 0)
/-- **new String(chars) AT A CALL, FOR THE WRITER**: a char[] of n known ints, each 0 to 255 -/
theorem backV {p : Program} {l : Launch} {e : Env} {R : Room} {s : State} {args : Array Value} {below : List Frame} {len W : Nat} {Z : State} {a0 : Array Value} {h : Heap} (hZ : Z.Warmed39 s.vm) (hw : ∀ d ∈ words, d.before a0 Z = true) {kI : Nat} (wi : (Jvm.Cond.instantiable ST kI).before a0 Z = true)
    {x b : Addr} {kC : ClassId} {cs bs : List Int32} {d v0 c0 : Value} {z N : Int32} {n n0 : Nat} (hx0 : n0 ≤ x) (hh0 : n0 ≤ h.size) (E : RoadKit.Exa Z h x ST) (V : RoadKit.Fld Z h x ST "value" "[B" v0) (C : RoadKit.Fld Z h x ST "coder" "B" c0) (K : RoadKit.Arv Z h b kC .char N (cs.map Value.int) d) (S : RoadKit.Sta Z h ST "COMPACT_STRINGS" "Z" (.int z)) (hz : ¬ z = 0)
    (hn : cs.length = n) (hN : N = Int32.ofNat n) (l0 : 0 < n) (l2 : n ≤ 4000) (hp : ∀ c ∈ cs, ¬ c < 0 ∧ ¬ (255 : Int32) < c) (hb : bs = cs.map (fun c => c.toInt8.toInt32)) (hfr : 4 ≤ R.frames) (hlo : W + 65 ≤ R.locals) :
    Back l R p e below s args (⟨"java/lang/String", "<init>", "([C)V"⟩ : MethodName) len W (fun P a => a = #[.ref x, .ref b] ∧ P.U.heap = h ∧ P.cells + 1 ≤ R.cells ∧ P.slots + n ≤ R.slots)
      (fun P _ v B => ∃ L, QV Z x N bs h n0 v B.U.heap L ∧ B.locs = P.locs ++ L ∧ B.cells = P.cells + 1 ∧ B.slots = P.slots + n) := by
  subst hn hN hb
  refine Back.mono (backArv hZ hw wi E V C K S hz (n32 (by omega)) l0 (by omega) (fun c hc => (hp c hc).2) hfr hlo) (fun P a hp => hp) (fun P a v B hp hq => ?_)
  obtain ⟨L, ⟨q1, q2, q3, q4, q5, q6, q7, ⟨kb, v1, v2⟩, q9⟩, hl, hc, hs⟩ := hq
  exact ⟨L, ⟨q1, fun y hy => by rw [q2 y hy]; exact hx0, q3, q5, q7, h.size, kb, hh0, Nat.le_refl _, Nat.ne_of_gt E.lt, q6, by rw [List.map_map]; exact v2⟩, hl, hc, hs⟩
end StrChars.Road
namespace StrChars
open Jvm Sem ClassFile Op Lib Jvm.Stand Jvm.Free.XT Jvm.Free.ALB Jvm.Free.JM Jvm.Free
open Jvm.Lib.Cold (StaticIs)
def hi8 (x : Int32) : Int32 := lo8 (x >>> ((8 : Int32) &&& 31))
/-- what StringUTF16.getChar makes of two bytes -/
def pairCh (u v : Int32) : Int32 := (((u &&& 255) <<< ((0 : Int32) &&& 31)) ||| ((v &&& 255) <<< ((8 : Int32) &&& 31))).toUInt32.toUInt16.toUInt32.toInt32
theorem lo8_and (x : Int32) : (lo8 x &&& 255).toBitVec.toNat = x.toBitVec.toNat % 256 := by
  have h : (lo8 x).toBitVec = (x.toBitVec.signExtend 8).signExtend 32 := by rw [lo8, Int8.toBitVec_toInt32, Int32.toBitVec_toInt8]
  rw [Int32.toBitVec_and, BitVec.toNat_and, h]
  have e : ((x.toBitVec.signExtend 8).signExtend 32).toNat % 256 = x.toBitVec.toNat % 256 := by
    rw [BitVec.toNat_signExtend]
    have hlt := x.toBitVec.isLt
    simp only [BitVec.toNat_setWidth, BitVec.toNat_signExtend]
    split <;> split <;> omega
  rw [← e]
  exact Nat.and_two_pow_sub_one_eq_mod _ 8
theorem pair_says {c : Int32} (h0 : ¬ c < 0) (h1 : ¬ 65535 < c) : pairCh (lo8 c) (hi8 c) = c := by
  rw [Int32.lt_iff_toInt_lt] at h0 h1
  have e0 : (0 : Int32).toInt = 0 := rfl
  have e1 : (65535 : Int32).toInt = 65535 := rfl
  have hc : c.toInt = c.toBitVec.toNat := by
    have := c.toBitVec.isLt
    have e : c.toInt = c.toBitVec.toInt := rfl
    rw [e] at h0 h1
    rw [e]
    rw [BitVec.toInt_eq_toNat_cond] at h0 h1 ⊢
    split at h0 <;> split <;> omega
  have hn : c.toBitVec.toNat < 65536 := by omega
  have a1 := lo8_and c
  have a2 : (hi8 c &&& 255).toBitVec.toNat = c.toBitVec.toNat / 256 := by
    rw [hi8, lo8_and]
    have e : ((8 : Int32) &&& 31) = 8 := by decide
    rw [e, Int32.toBitVec_shiftRight]
    have e2 : ((8 : Int32).toBitVec.smod 32) = 8#32 := by decide
    rw [e2, BitVec.sshiftRight_eq', BitVec.toNat_sshiftRight_of_msb_false (by rw [BitVec.msb_eq_false_iff_two_mul_lt]; omega)]
    show c.toBitVec.toNat >>> 8 % 256 = _
    rw [Nat.shiftRight_eq_div_pow]
    omega
  unfold pairCh
  apply Int32.toBitVec_inj.mp
  apply BitVec.eq_of_toNat_eq
  have f0 : ((0 : Int32) &&& 31) = 0 := by decide
  have f8 : ((8 : Int32) &&& 31) = 8 := by decide
  rw [f0, f8]
  have g : (((lo8 c &&& 255) <<< (0 : Int32)) ||| ((hi8 c &&& 255) <<< (8 : Int32))).toBitVec.toNat = c.toBitVec.toNat := by
    rw [Int32.toBitVec_or, Int32.toBitVec_shiftLeft, Int32.toBitVec_shiftLeft]
    have s0 : ((0 : Int32).toBitVec.smod 32) = 0#32 := by decide
    have s8 : ((8 : Int32).toBitVec.smod 32) = 8#32 := by decide
    rw [s0, s8, BitVec.toNat_or]
    simp only [BitVec.shiftLeft_eq', BitVec.toNat_shiftLeft, a1, a2]
    show (c.toBitVec.toNat % 256) <<< 0 % 2 ^ 32 ||| (c.toBitVec.toNat / 256) <<< 8 % 2 ^ 32 = _
    rw [Nat.shiftLeft_zero, Nat.mod_eq_of_lt (show c.toBitVec.toNat % 256 < 2 ^ 32 by omega), Nat.mod_eq_of_lt (show (c.toBitVec.toNat / 256) <<< 8 < 2 ^ 32 by rw [Nat.shiftLeft_eq]; omega), Nat.or_comm, ← Nat.shiftLeft_add_eq_or_of_lt (by omega), Nat.shiftLeft_eq]
    omega
  show BitVec.toNat (((((lo8 c &&& 255) <<< (0 : Int32)) ||| ((hi8 c &&& 255) <<< (8 : Int32))).toBitVec.setWidth 16).setWidth 32) = _
  rw [BitVec.toNat_setWidth, BitVec.toNat_setWidth, g]
  omega
end StrChars
namespace StrChars
open Jvm Sem ClassFile Op Lib Jvm.Stand Jvm.Free.XT Jvm.Free.ALB Jvm.Free.JM Jvm.Free
open Jvm.Lib.Cold (StaticIs)
/-- the array's cell V codes the n chars f 0 .. f (n - 1) by the coder cd, as the JDK does: coder 1 just where some char is above 255 -/
def Cod (cd : Int32) (n : Nat) (f : Nat → Int32) (V : Cell) : Prop := (cd = 0 ∧ V.slots.size = n ∧ ∀ j, j < n → V.slots[j]? = some (.int (lo8 (f j))) ∧ ¬ 255 < f j) ∨ (cd = 1 ∧ V.slots.size = 2 * n ∧ (∀ j, j < n → V.slots[2 * j]? = some (.int (lo8 (f j))) ∧ V.slots[2 * j + 1]? = some (.int (hi8 (f j)))) ∧ ∃ j, j < n ∧ 255 < f j)
/-- **x is a String of the n chars f 0 .. f (n - 1)**, Latin-1 or UTF-16; its array at t has the cell V -/
def Txt (x t : Addr) (V : Cell) (cd : Int32) (n : Nat) (f : Nat → Int32) (U : State) : Prop := Exact "java/lang/String" x U ∧ Has x "java/lang/String" "value" "[B" (.ref t) U ∧ Has x "java/lang/String" "coder" "B" (.int cd) U ∧ XT.Arr .byte t V U ∧ Cod cd n f V ∧ ∀ j, j < n → ¬ f j < 0 ∧ ¬ 65535 < f j
theorem Txt.mv {x t : Addr} {V : Cell} {cd : Int32} {n : Nat} {f : Nat → Int32} {U U' : State} (h : Txt x t V cd n f U) (hal : U.vm.Alike U'.vm) (hh : U'.heap = U.heap) : Txt x t V cd n f U' := ⟨h.1.mv hal hh, h.2.1.mv hal hh, h.2.2.1.mv hal hh, h.2.2.2.1.mv hal hh, h.2.2.2.2⟩
end StrChars
namespace StrChars.Road
open Jvm Sem ClassFile Op Lib Jvm.Stand Jvm.Free Jvm.Free.XT
open Jvm.Lib.Cold (StaticIs)
theorem consq {a : Array Value} {s : State} {c : Jvm.Cond} {L : List Jvm.Cond} (h0 : c.before a s = true) (h : ∀ w ∈ L, w.before a s = true) : ∀ w ∈ c :: L, w.before a s = true := fun w hw => (List.mem_cons.mp hw).elim (fun e => e ▸ h0) (h w)
/-- the bytes of the chars cs, low before high -/
def wideBytes : List Int32 → List Value
  | [] => []
  | c :: cs => .int (lo8 c) :: .int (hi8 c) :: wideBytes cs
theorem wide_lo (d : Value) : ∀ (cs : List Int32) (j : Nat), j < cs.length → (wideBytes cs).getD (2 * j) d = .int (lo8 (cs.getD j 0))
  | [], j, h => absurd h (Nat.not_lt_zero j)
  | c :: cs, 0, _ => rfl
  | c :: cs, j + 1, h => by
    have q := wide_lo d cs j (by simpa using h)
    rw [show 2 * (j + 1) = 2 * j + 1 + 1 from by omega]
    simpa [wideBytes] using q
theorem wide_hi (d : Value) : ∀ (cs : List Int32) (j : Nat), j < cs.length → (wideBytes cs).getD (2 * j + 1) d = .int (hi8 (cs.getD j 0))
  | [], j, h => absurd h (Nat.not_lt_zero j)
  | c :: cs, 0, _ => rfl
  | c :: cs, j + 1, h => by
    have q := wide_hi d cs j (by simpa using h)
    rw [show 2 * (j + 1) + 1 = 2 * j + 1 + 1 + 1 from by omega]
    simpa [wideBytes] using q
theorem low_at (d : Value) (cs : List Int32) (j : Nat) (h : j < cs.length) : (cs.map fun c => Value.int (lo8 c)).getD j d = .int (lo8 (cs.getD j 0)) := by
  simp [List.getD_eq_getElem?_getD, h]
/-- an array of N2 bytes vs codes the chars cs by the coder cd -/
def CodA (cs : List Int32) (cd N2 : Int32) (vs : List Value) : Prop := (cd = 0 ∧ N2 = Int32.ofNat cs.length ∧ vs = (cs.map fun c => Value.int (lo8 c)) ∧ ∀ c ∈ cs, ¬ 255 < c) ∨ (cd = 1 ∧ N2 = Int32.ofNat (2 * cs.length) ∧ vs = wideBytes cs ∧ ∃ c ∈ cs, 255 < c)
theorem CodA.cod {cs : List Int32} {cd N2 : Int32} {vs : List Value} {V : Cell} (h : CodA cs cd N2 vs) (hn : 2 * cs.length < 2 ^ 31) (hs : V.slots.size = N2.toNatClampNeg) (hv : RoadKit.Has V vs (.int 0)) : Cod cd cs.length (fun j => cs.getD j 0) V := by
  rcases h with ⟨rfl, rfl, rfl, h⟩ | ⟨rfl, rfl, rfl, c, hc, hw⟩
  · rw [n32 (by omega)] at hs
    exact Or.inl ⟨rfl, hs, fun j hj => ⟨by rw [hv j (by omega), low_at _ _ _ hj], by
      have e : cs.getD j 0 = cs[j] := by simp [List.getD_eq_getElem?_getD, hj]
      show ¬ 255 < cs.getD j 0
      rw [e]; exact h _ (List.getElem_mem _)⟩⟩
  · rw [n32 (by omega)] at hs
    obtain ⟨j, hj, rfl⟩ := List.getElem_of_mem hc
    exact Or.inr ⟨rfl, hs, fun j hj => ⟨by rw [hv _ (by omega), wide_lo _ _ _ hj], by rw [hv _ (by omega), wide_hi _ _ _ hj]⟩, j, hj, by
      have e : cs.getD j 0 = cs[j] := by simp [List.getD_eq_getElem?_getD, hj]
      show 255 < cs.getD j 0
      rw [e]; exact hw⟩
/-- an object of exactly java/lang/String, its two fields found: as the laws ask it -/
theorem strObj {Z U : State} {a0 : Array Value} {kI : Nat} (wi : (Jvm.Cond.instantiable ST kI).before a0 Z = true) (al : Z.vm.Alike U.vm) {x : Addr} {v0 c0 : Value} (E : RoadKit.Exa Z U.heap x ST) (V : RoadKit.Fld Z U.heap x ST "value" "[B" v0) (C : RoadKit.Fld Z U.heap x ST "coder" "B" c0) :
    ∃ (D : Cell) (fV fC : Field), Blank ST x D U ∧ Found ST "value" "[B" fV U ∧ Found ST "coder" "B" fC U ∧ D.slots[fV.slot]? = some v0 ∧ D.slots[fC.slot]? = some c0 ∧ RoadKit.slotOf Z ST "value" "[B" = fV.slot ∧ RoadKit.slotOf Z ST "coder" "B" = fC.slot := by
  obtain ⟨D, cfV, kV, iV, fV, hD, gV, stV, knV, obV, asV, slV⟩ := V
  obtain ⟨D', cfC, kC, iC, fC, hD', gC, stC, -, -, asC, slC⟩ := C
  cases hD.symm.trans hD'
  obtain ⟨D2, kD, e1, e2, e3, e4, e5⟩ := E
  cases hD.symm.trans e1
  obtain ⟨c2, k2, i1, i2, i3, -⟩ := Cond.instantiable_spec wi
  cases e2.symm.trans i1
  cases e3.symm.trans i2
  obtain ⟨kU, u1, u2⟩ := al.2.2 _ _ e3
  exact ⟨D, fV, fC, ⟨hD, ⟨knV, fun q hq => by rw [hq] at obV; cases obV⟩, by rw [al.findClass]; exact e2, kU, u1, by rw [u2]; exact i3, by rw [u2]; exact e5 i3⟩, ⟨SBG.found_only al ⟨cfV, kV, iV, gV⟩, stV⟩, ⟨SBG.found_only al ⟨cfC, kC, iC, gC⟩, stC⟩, slV, slC, by simp [RoadKit.slotOf, gV], by simp [RoadKit.slotOf, gC]⟩
theorem sta_is {Z U : State} (al : Z.vm.Alike U.vm) {C n d : String} {v : Value} (S : RoadKit.Sta Z U.heap C n d v) : StaticIs U C n d v := by
  obtain ⟨cfS, iS, kS, fS, st, cS, t1, t2, t3, t4, t5, t6, t7⟩ := S
  exact StaticIs.there (s := { Z with heap := U.heap }) ⟨cfS, iS, kS, fS, st, cS, t1, t2, t3, t4, t5, (fun q => by rw [q] at t6; cases t6), t7⟩ al rfl
end StrChars.Road
namespace StrChars
open Jvm Sem ClassFile Op Lib Jvm.Stand Jvm.Free.XT Jvm.Free.ALB Jvm.Free.JM Jvm.Free
open Jvm.Lib.Cold (StaticIs)
/-- what place i of a byte[]'s cell holds -/
def yv (A : Cell) (i : Nat) : Int32 := match A.slots[i]? with | some (.int x) => x | _ => 0
theorem yv_get {a : Addr} {A : Cell} {U : State} (h : XT.Arr .byte a A U) (ht : Typed .byte A) {i : Nat} (hi : i < A.slots.size) : A.slots[i]? = some (.int (yv A i)) := by
  have e := Array.getElem?_eq_getElem hi
  have f := ht i _ e
  unfold yv; rw [e]
  generalize A.slots[i] = v at f
  cases v <;> simp [fits] at f ⊢
/-- the two arrays are equal, place for place -/
def EqC (A B : Cell) : Prop := A.slots.size = B.slots.size ∧ ∀ i, i < A.slots.size → yv A i = yv B i
/-- a boolean that says whether p -/
def Says01 (q : Prop) (r : Option Value) (s u : State) : Prop := ∃ v : Int32, r = some (.int v) ∧ u.heap = s.heap ∧ ((v = 1 ∧ q) ∨ (v = 0 ∧ ¬ q))
theorem Says01.mv {q : Prop} : ∀ r (U U' V V' : State), U'.heap = U.heap → V.vm.Alike V'.vm → V'.heap = V.heap → Says01 q r U V → Says01 q r U' V' :=
  fun r U U' V V' h1 _ h2 ⟨v, a, b, c⟩ => ⟨v, a, by rw [h1, h2]; exact b, c⟩
namespace LEq
def yN : MethodName := ⟨"java/lang/StringLatin1", "equals", "([B[B)Z"⟩
abbrev yB : ByteArray := jdk_43_method_13_code
theorem d0 : decode yB 0 = .ok (.aload_n 0, 1) := by decide +kernel
theorem d1 : decode yB 1 = .ok (.arraylength, 1) := by decide +kernel
theorem d2 : decode yB 2 = .ok (.aload_n 1, 1) := by decide +kernel
theorem d3 : decode yB 3 = .ok (.arraylength, 1) := by decide +kernel
theorem d4 : decode yB 4 = .ok (.if_icmp (.ne) 30, 3) := by decide +kernel
theorem d7 : decode yB 7 = .ok (.iconst 0, 1) := by decide +kernel
theorem d8 : decode yB 8 = .ok (.istore_n 2, 1) := by decide +kernel
theorem d9 : decode yB 9 = .ok (.iload_n 2, 1) := by decide +kernel
theorem d10 : decode yB 10 = .ok (.aload_n 0, 1) := by decide +kernel
theorem d11 : decode yB 11 = .ok (.arraylength, 1) := by decide +kernel
theorem d12 : decode yB 12 = .ok (.if_icmp (.ge) 20, 3) := by decide +kernel
theorem d15 : decode yB 15 = .ok (.aload_n 0, 1) := by decide +kernel
theorem d16 : decode yB 16 = .ok (.iload_n 2, 1) := by decide +kernel
theorem d17 : decode yB 17 = .ok (.baload, 1) := by decide +kernel
theorem d18 : decode yB 18 = .ok (.aload_n 1, 1) := by decide +kernel
theorem d19 : decode yB 19 = .ok (.iload_n 2, 1) := by decide +kernel
theorem d20 : decode yB 20 = .ok (.baload, 1) := by decide +kernel
theorem d21 : decode yB 21 = .ok (.if_icmp (.eq) 5, 3) := by decide +kernel
theorem d24 : decode yB 24 = .ok (.iconst 0, 1) := by decide +kernel
theorem d25 : decode yB 25 = .ok (.ireturn, 1) := by decide +kernel
theorem d26 : decode yB 26 = .ok (.iinc 2 1, 3) := by decide +kernel
theorem d29 : decode yB 29 = .ok (.goto (-20), 3) := by decide +kernel
theorem d32 : decode yB 32 = .ok (.iconst 1, 1) := by decide +kernel
theorem d33 : decode yB 33 = .ok (.ireturn, 1) := by decide +kernel
theorem d34 : decode yB 34 = .ok (.iconst 0, 1) := by decide +kernel
theorem d35 : decode yB 35 = .ok (.ireturn, 1) := by decide +kernel
def site : List Cond := []
def tab : Cond := tabOf yN yB 3 (some .boolean) site
def P (a : Addr) (A : Cell) (b : Addr) (B : Cell) (args : Array Value) (s : State) : Prop := args = #[.ref a, .ref b] ∧ XT.Arr .byte a A s ∧ Typed .byte A ∧ XT.Arr .byte b B s ∧ Typed .byte B
/-- whether two byte[] are equal, place for place -/
theorem law (l : Launch) (a : Addr) (A : Cell) (b : Addr) (B : Cell) : Law l yN 2 2 0 0 yB 3 (some .boolean) site (P a A b B) (Says01 (EqC A B)) [] 0 0 := by
  refine Law.of_walk (plainFor_of_name (by decide +kernel)) (by decide +kernel) (by decide +kernel) (by decide) (fun _ _ h => by rw [h.1]; rfl) (fun _ U U' hal hh h => ⟨h.1, h.2.1.mv hal hh, h.2.2.1, h.2.2.2.1.mv hal hh, h.2.2.2.2⟩) (fun r U U' V V' h1 hal h2 h => Says01.mv r U U' V V' h1 hal h2 h) ?_
  intro p e s m args below meth c s₁ X0 hexec hbytes hml hret hlk hnm hown hh0 W hP
  obtain ⟨rfl, hA, tA, hB, tB⟩ := hP
  have a31 := hA.2.2.2
  have b31 := hB.2.2.2
  have hA0 := hA.mv X0.warmed.alike hh0
  have hB0 := hB.mv X0.warmed.alike hh0
  have c1 : Steps p.tables e below (s₁.setTop (entryFrame m #[.ref a, .ref b] 3)) (s₁.setTop (mkF m 0 #[.val (.ref a), .val (.ref b), .unset] [])) := entry rfl
  have c2 : Steps p.tables e below (s₁.setTop (entryFrame m #[.ref a, .ref b] 3)) (s₁.setTop (mkF m 4 #[.val (.ref a), .val (.ref b), .unset] [.int (Int32.ofNat B.slots.size), .int (Int32.ofNat A.slots.size)])) := c1.trans (by
    refine XS.aloadN X0.here hexec rfl (hb hbytes d0) rfl rfl ?_
    refine X0.alen hexec hA0 rfl rfl (hb hbytes d1) ?_
    refine XS.aloadN X0.here hexec rfl (hb hbytes d2) rfl rfl ?_
    refine X0.alen hexec hB0 rfl rfl (hb hbytes d3) ?_
    exact Steps.refl _)
  by_cases hs : A.slots.size = B.slots.size
  · have c3 : Steps p.tables e below (s₁.setTop (entryFrame m #[.ref a, .ref b] 3)) (s₁.setTop (mkF m 9 #[.val (.ref a), .val (.ref b), .val (.int 0)] [])) := c2.trans (by
      refine XS.icmpNo X0.here hexec rfl (hb hbytes d4) rfl (ii_ne_f (by rw [hs])) ?_
      refine iconstV X0.here hexec rfl 0 (hb hbytes d7) (by decide) ?_
      refine XS.istoreN X0.here hexec rfl (hb hbytes d8) rfl rfl ?_
      exact Steps.refl _)
    have loop : ∀ (r i : Nat), i + r = A.slots.size → (∀ j, j < i → yv A j = yv B j) → Steps p.tables e below (s₁.setTop (entryFrame m #[.ref a, .ref b] 3)) (s₁.setTop (mkF m 9 #[.val (.ref a), .val (.ref b), .val (.int (Int32.ofNat i))] [])) → ∃ (pc : Nat) (Ls : Array Slot) (v : Int32), (pc = 25 ∨ pc = 33) ∧ ((v = 1 ∧ EqC A B) ∨ (v = 0 ∧ ¬ EqC A B)) ∧ Steps p.tables e below (s₁.setTop (entryFrame m #[.ref a, .ref b] 3)) (s₁.setTop (mkF m pc Ls [.int v])) := by
      intro r
      induction r with
      | zero =>
        intro i hi he cl
        exact ⟨33, _, 1, Or.inr rfl, Or.inl ⟨rfl, hs, fun j hj => he j (by omega)⟩, cl.trans (by
          refine XS.iloadN X0.here hexec rfl (hb hbytes d9) rfl ?_
          refine XS.aloadN X0.here hexec rfl (hb hbytes d10) rfl rfl ?_
          refine X0.alen hexec hA0 rfl rfl (hb hbytes d11) ?_
          refine XS.icmpYes X0.here hexec rfl (pc0 := 12) rfl (hb hbytes d12) rfl (ii_ge_t (nlt32 (by omega) (by omega))) (by decide) rfl ?_
          refine iconstV X0.here hexec rfl 1 (hb hbytes d32) (by decide) ?_
          exact Steps.refl _)⟩
      | succ r ih =>
        intro i hi he cl
        have c4 : Steps p.tables e below (s₁.setTop (entryFrame m #[.ref a, .ref b] 3)) (s₁.setTop (mkF m 21 #[.val (.ref a), .val (.ref b), .val (.int (Int32.ofNat i))] [.int (yv B i), .int (yv A i)])) := cl.trans (by
          refine XS.iloadN X0.here hexec rfl (hb hbytes d9) rfl ?_
          refine XS.aloadN X0.here hexec rfl (hb hbytes d10) rfl rfl ?_
          refine X0.alen hexec hA0 rfl rfl (hb hbytes d11) ?_
          refine XS.icmpNo X0.here hexec rfl (hb hbytes d12) rfl (ii_ge_f (lt32 (by omega) (by omega))) ?_
          refine XS.aloadN X0.here hexec rfl (hb hbytes d15) rfl rfl ?_
          refine XS.iloadN X0.here hexec rfl (hb hbytes d16) rfl ?_
          refine X0.aget hexec hA0 rfl (yv_get hA tA (i := i) (by omega)) rfl rfl (hb hbytes d17) ?_
          refine XS.aloadN X0.here hexec rfl (hb hbytes d18) rfl rfl ?_
          refine XS.iloadN X0.here hexec rfl (hb hbytes d19) rfl ?_
          refine X0.aget hexec hB0 rfl (yv_get hB tB (i := i) (by omega)) rfl rfl (hb hbytes d20) ?_
          exact Steps.refl _)
        by_cases hv : yv A i = yv B i
        · have c5 : Steps p.tables e below (s₁.setTop (entryFrame m #[.ref a, .ref b] 3)) (s₁.setTop (mkF m 9 #[.val (.ref a), .val (.ref b), .val (.int (Int32.ofNat i + 1))] [])) := c4.trans (by
            refine XS.icmpYes X0.here hexec rfl (pc0 := 21) rfl (hb hbytes d21) rfl (ii_eq_t hv) (by decide) rfl ?_
            refine iincV X0.here hexec rfl 1 (hb hbytes d26) (by decide) rfl rfl ?_
            refine XS.goto X0.here hexec rfl (pc0 := 29) rfl (hb hbytes d29) (by decide) rfl ?_
            exact Steps.refl _)
          rw [succ32] at c5
          exact ih (i + 1) (by omega) (fun j hj => by
            by_cases e : j = i
            · rw [e]; exact hv
            · exact he j (by omega)) c5
        · exact ⟨25, _, 0, Or.inl rfl, Or.inr ⟨rfl, fun q => hv (q.2 i (by omega))⟩, c4.trans (by
            refine XS.icmpNo X0.here hexec rfl (hb hbytes d21) rfl (ii_eq_f hv) ?_
            refine iconstV X0.here hexec rfl 0 (hb hbytes d24) (by decide) ?_
            exact Steps.refl _)⟩
    obtain ⟨pc, Ls, v, hpc, hv, cz⟩ := loop A.slots.size 0 (by omega) (fun j hj => absurd hj (Nat.not_lt_zero j)) c3
    have nv : narrow .boolean (.int v) = .int v := by rcases hv with ⟨rfl, -⟩ | ⟨rfl, -⟩ <;> rfl
    rcases hpc with rfl | rfl
    · exact ⟨s₁, some (.int v), _, _, _, X0, rfl, rfl, rfl, (fun h => by cases h), ⟨v, rfl, hh0, hv⟩, fun fs hl => cz.trans (X0.ireturnOut hexec hret nv (Or.inr (Or.inl rfl)) (hb hbytes d25) hl)⟩
    · exact ⟨s₁, some (.int v), _, _, _, X0, rfl, rfl, rfl, (fun h => by cases h), ⟨v, rfl, hh0, hv⟩, fun fs hl => cz.trans (X0.ireturnOut hexec hret nv (Or.inr (Or.inl rfl)) (hb hbytes d33) hl)⟩
  · have c3 : Steps p.tables e below (s₁.setTop (entryFrame m #[.ref a, .ref b] 3)) (s₁.setTop (mkF m 35 #[.val (.ref a), .val (.ref b), .unset] [.int 0])) := c2.trans (by
      refine XS.icmpYes X0.here hexec rfl (pc0 := 4) rfl (hb hbytes d4) rfl (ii_ne_t (ne32 a31 b31 hs)) (by decide) rfl ?_
      refine iconstV X0.here hexec rfl 0 (hb hbytes d34) (by decide) ?_
      exact Steps.refl _)
    exact ⟨s₁, some (.int 0), _, _, _, X0, rfl, rfl, rfl, (fun h => by cases h), ⟨0, rfl, hh0, Or.inr ⟨rfl, fun q => hs q.1⟩⟩, fun fs hl => c3.trans (X0.ireturnOut hexec hret rfl (Or.inr (Or.inl rfl)) (hb hbytes d35) hl)⟩
end LEq
theorem Cod.ty {cd : Int32} {n : Nat} {f : Nat → Int32} {V : Cell} (h : Cod cd n f V) : Typed .byte V := fun i v hv => by
  have hi : i < V.slots.size := (Array.getElem?_eq_some_iff.mp hv).1
  rcases h with ⟨-, k1, k2⟩ | ⟨-, k1, k2, -⟩
  · rw [(k2 i (by omega)).1] at hv; cases hv; exact fits_lo8 _
  · rcases Nat.mod_two_eq_zero_or_one i with e | e
    · obtain ⟨j, rfl⟩ : ∃ j, i = 2 * j := ⟨i / 2, by omega⟩
      rw [(k2 j (by omega)).1] at hv; cases hv; exact fits_lo8 _
    · obtain ⟨j, rfl⟩ : ∃ j, i = 2 * j + 1 := ⟨i / 2, by omega⟩
      rw [(k2 j (by omega)).2] at hv; cases hv; exact fits_lo8 _
/-- the same text -/
def SameT (n : Nat) (f : Nat → Int32) (k : Nat) (g : Nat → Int32) : Prop := n = k ∧ ∀ j, j < n → f j = g j
theorem lo8_inj {x y : Int32} (h0 : ¬ x < 0) (h1 : ¬ 255 < x) (k0 : ¬ y < 0) (k1 : ¬ 255 < y) (h : lo8 x = lo8 y) : x = y := by
  rw [← lo8_mask h0 h1, ← lo8_mask k0 k1, h]
/-- arrays coded by one coder are equal just where the texts are -/
theorem Cod.eqv {cd : Int32} {n k : Nat} {f g : Nat → Int32} {V V' : Cell} (h : Cod cd n f V) (h' : Cod cd k g V') (hf : ∀ j, j < n → ¬ f j < 0 ∧ ¬ 65535 < f j) (hg : ∀ j, j < k → ¬ g j < 0 ∧ ¬ 65535 < g j) : EqC V V' ↔ SameT n f k g := by
  have yvv : ∀ {W : Cell} {i : Nat} {x : Int32}, W.slots[i]? = some (.int x) → yv W i = x := fun q => by unfold yv; rw [q]
  rcases h with ⟨rfl, k1, k2⟩ | ⟨rfl, k1, k2, -⟩
  · rcases h' with ⟨-, m1, m2⟩ | ⟨e, -⟩
    · constructor
      · rintro ⟨e1, e2⟩
        refine ⟨by omega, fun j hj => ?_⟩
        have q := e2 j (by omega)
        rw [yvv (k2 j hj).1, yvv (m2 j (by omega)).1] at q
        exact lo8_inj (hf j hj).1 (k2 j hj).2 (hg j (by omega)).1 (m2 j (by omega)).2 q
      · rintro ⟨rfl, e2⟩
        refine ⟨by omega, fun j hj => ?_⟩
        rw [yvv (k2 j (by omega)).1, yvv (m2 j (by omega)).1, e2 j (by omega)]
    · exact absurd e (by decide)
  · rcases h' with ⟨e, -⟩ | ⟨-, m1, m2, -⟩
    · exact absurd e (by decide)
    · constructor
      · rintro ⟨e1, e2⟩
        refine ⟨by omega, fun j hj => ?_⟩
        have q1 := e2 (2 * j) (by omega)
        have q2 := e2 (2 * j + 1) (by omega)
        rw [yvv (k2 j hj).1, yvv (m2 j (by omega)).1] at q1
        rw [yvv (k2 j hj).2, yvv (m2 j (by omega)).2] at q2
        rw [← pair_says (hf j hj).1 (hf j hj).2, ← pair_says (hg j (by omega)).1 (hg j (by omega)).2, q1, q2]
      · rintro ⟨rfl, e2⟩
        refine ⟨by omega, fun i hi => ?_⟩
        rcases Nat.mod_two_eq_zero_or_one i with e | e
        · obtain ⟨j, rfl⟩ : ∃ j, i = 2 * j := ⟨i / 2, by omega⟩
          rw [yvv (k2 j (by omega)).1, yvv (m2 j (by omega)).1, e2 j (by omega)]
        · obtain ⟨j, rfl⟩ : ∃ j, i = 2 * j + 1 := ⟨i / 2, by omega⟩
          rw [yvv (k2 j (by omega)).2, yvv (m2 j (by omega)).2, e2 j (by omega)]
/-- two codings differ: so do the texts -/
theorem Cod.dif {cd cd' : Int32} {n k : Nat} {f g : Nat → Int32} {V V' : Cell} (h : Cod cd n f V) (h' : Cod cd' k g V') (hne : ¬ cd = cd') : ¬ SameT n f k g := by
  rintro ⟨rfl, e⟩
  rcases h with ⟨rfl, -, k2⟩ | ⟨rfl, -, -, j, hj, hw⟩
  · rcases h' with ⟨rfl, -⟩ | ⟨-, -, -, j, hj, hw⟩
    · exact hne rfl
    · exact (k2 j hj).2 (by rw [e j hj]; exact hw)
  · rcases h' with ⟨-, -, m2⟩ | ⟨rfl, -⟩
    · exact (m2 j hj).2 (by rw [← e j hj]; exact hw)
    · exact hne rfl
/-- an object of exactly C is an instance of C -/
theorem cinst {p : Program} {l : Launch} {e : Env} {R : Room} {s : State} {m : MethodId} {args : Array Value} {below : List Frame} {meth : Method} {c : Code} {T : State} {locs : List Loc} {cells slots : Nat} (X : Stand p l e R s m args below meth c T locs cells slots) (hexec : p.tables.exec = Jvm.exec) {own C : String} {index : Nat} (hown : s.vm.findClass own = some m.cls) (hlink : (Cond.classLink own index C).before args s = true) {a : Addr} (hE : Exact C a T)
    {g : JFrame} (hg : g.method = m) {rest : List Value} (hstack : g.stack = .ref a :: rest) (hdg : decode c.code g.pc = .ok (.instanceof index, 3)) :
    ∃ T', Stand p l e R s m args below meth c T' locs cells slots ∧ T'.heap = T.heap ∧ ∀ target, Steps p.tables e below (T'.setTop { g with pc := g.pc + 3, stack := .int 1 :: rest }) target → Steps p.tables e below (T.setTop g) target := by
  obtain ⟨cB, h1, D, h2, h3, h4⟩ := hE
  have h1' : s.vm.findClass C = some cB := by rw [← X.warmed.alike.findClass]; exact h1
  obtain ⟨vm', X', st⟩ := X.instanceofYes hexec hown hlink h2 h4 h1' (by rw [h3]; exact Jvm.Free.SB.assignable_self _ _) hg hstack hdg
  exact ⟨_, X', rfl, st⟩
theorem cself {p : Program} {l : Launch} {e : Env} {R : Room} {s : State} {m : MethodId} {args : Array Value} {below : List Frame} {meth : Method} {c : Code} {T : State} {locs : List Loc} {cells slots : Nat} (X : Stand p l e R s m args below meth c T locs cells slots) (hexec : p.tables.exec = Jvm.exec) {own C : String} {index : Nat} (hown : s.vm.findClass own = some m.cls) (hlink : (Cond.classLink own index C).before args s = true) {a : Addr} (hE : Exact C a T)
    {g : JFrame} (hg : g.method = m) {rest : List Value} (hstack : g.stack = .ref a :: rest) (hdg : decode c.code g.pc = .ok (.checkcast index, 3)) :
    ∃ T', Stand p l e R s m args below meth c T' locs cells slots ∧ T'.heap = T.heap ∧ ∀ target, Steps p.tables e below (T'.setTop { g with pc := g.pc + 3, stack := .ref a :: rest }) target → Steps p.tables e below (T.setTop g) target := by
  obtain ⟨cB, h1, D, h2, h3, h4⟩ := hE
  have h1' : s.vm.findClass C = some cB := by rw [← X.warmed.alike.findClass]; exact h1
  obtain ⟨vm', X', st⟩ := X.checkcastYes hexec hown hlink h2 h4 h1' (by rw [h3]; exact Jvm.Free.SB.assignable_self _ _) hg hstack hdg
  exact ⟨_, X', rfl, fun t h => st t (by rw [← hstack] at h; exact h)⟩
namespace SEq
def yN : MethodName := ⟨"java/lang/String", "equals", "(Ljava/lang/Object;)Z"⟩
abbrev yB : ByteArray := jdk_42_method_66_code
theorem d0 : decode yB 0 = .ok (.aload_n 0, 1) := by decide +kernel
theorem d1 : decode yB 1 = .ok (.aload_n 1, 1) := by decide +kernel
theorem d2 : decode yB 2 = .ok (.if_acmp (.ne) 5, 3) := by decide +kernel
theorem d5 : decode yB 5 = .ok (.iconst 1, 1) := by decide +kernel
theorem d6 : decode yB 6 = .ok (.ireturn, 1) := by decide +kernel
theorem d7 : decode yB 7 = .ok (.aload_n 1, 1) := by decide +kernel
theorem d8 : decode yB 8 = .ok (.instanceof 10, 3) := by decide +kernel
theorem d11 : decode yB 11 = .ok (.ifCond (.eq) 43, 3) := by decide +kernel
theorem d14 : decode yB 14 = .ok (.aload_n 1, 1) := by decide +kernel
theorem d15 : decode yB 15 = .ok (.checkcast 10, 3) := by decide +kernel
theorem d18 : decode yB 18 = .ok (.astore_n 2, 1) := by decide +kernel
theorem d19 : decode yB 19 = .ok (.getstatic 38, 3) := by decide +kernel
theorem d22 : decode yB 22 = .ok (.ifCond (.eq) 14, 3) := by decide +kernel
theorem d25 : decode yB 25 = .ok (.aload_n 0, 1) := by decide +kernel
theorem d26 : decode yB 26 = .ok (.getfield 15, 3) := by decide +kernel
theorem d29 : decode yB 29 = .ok (.aload_n 2, 1) := by decide +kernel
theorem d30 : decode yB 30 = .ok (.getfield 15, 3) := by decide +kernel
theorem d33 : decode yB 33 = .ok (.if_icmp (.ne) 21, 3) := by decide +kernel
theorem d36 : decode yB 36 = .ok (.aload_n 0, 1) := by decide +kernel
theorem d37 : decode yB 37 = .ok (.getfield 9, 3) := by decide +kernel
theorem d40 : decode yB 40 = .ok (.aload_n 2, 1) := by decide +kernel
theorem d41 : decode yB 41 = .ok (.getfield 9, 3) := by decide +kernel
theorem d44 : decode yB 44 = .ok (.invokestatic 541, 3) := by decide +kernel
theorem d47 : decode yB 47 = .ok (.ifCond (.eq) 7, 3) := by decide +kernel
theorem d50 : decode yB 50 = .ok (.iconst 1, 1) := by decide +kernel
theorem d51 : decode yB 51 = .ok (.goto 4, 3) := by decide +kernel
theorem d54 : decode yB 54 = .ok (.iconst 0, 1) := by decide +kernel
theorem d55 : decode yB 55 = .ok (.ireturn, 1) := by decide +kernel
def site : List Cond := [.classLink "java/lang/String" 10 "java/lang/String", .fieldLink "java/lang/String" 38 "java/lang/String" "COMPACT_STRINGS" "Z", .fieldLink "java/lang/String" 15 "java/lang/String" "coder" "B", .fieldLink "java/lang/String" 9 "java/lang/String" "value" "[B", LEq.tab] ++ staticW "java/lang/String" 541 LEq.yN
def tab : Cond := tabOf yN yB 3 (some .boolean) site
def P (x t : Addr) (V : Cell) (cd : Int32) (n : Nat) (f : Nat → Int32) (y t' : Addr) (V' : Cell) (cd' : Int32) (k : Nat) (g : Nat → Int32) (z : Int32) (args : Array Value) (s : State) : Prop := args = #[.ref x, .ref y] ∧ Txt x t V cd n f s ∧ Txt y t' V' cd' k g s ∧ StaticIs s "java/lang/String" "COMPACT_STRINGS" "Z" (.int z) ∧ ¬ z = 0
/-- equals(Object) of two Strings: whether the texts are the same -/
theorem law (l : Launch) (x t : Addr) (V : Cell) (cd : Int32) (n : Nat) (f : Nat → Int32) (y t' : Addr) (V' : Cell) (cd' : Int32) (k : Nat) (g : Nat → Int32) (z : Int32) : Law l yN 2 1 1 14 yB 3 (some .boolean) site (P x t V cd n f y t' V' cd' k g z) (Says01 (SameT n f k g)) [] 0 0 := by
  refine Law.of_walk (plainFor_of_name (by decide +kernel)) (by decide +kernel) (by decide +kernel) (by decide) (fun _ _ h => by rw [h.1]; rfl) (fun _ U U' hal hh h => ⟨h.1, h.2.1.mv hal hh, h.2.2.1.mv hal hh, h.2.2.2.1.there hal hh, h.2.2.2.2⟩) (fun r U U' V V' h1 hal h2 h => Says01.mv r U U' V V' h1 hal h2 h) ?_
  intro p e s m args below meth c s₁ X0 hexec hbytes hml hret hlk hnm hown hh0 W hP
  obtain ⟨rfl, hx, hy, s1, hz⟩ := hP
  have c1 : Steps p.tables e below (s₁.setTop (entryFrame m #[.ref x, .ref y] 3)) (s₁.setTop (mkF m 2 #[.val (.ref x), .val (.ref y), .unset] [.ref y, .ref x])) := Steps.trans (entry rfl) (by
    show Steps p.tables e below (s₁.setTop (mkF m 0 #[.val (.ref x), .val (.ref y), .unset] [])) _
    refine XS.aloadN X0.here hexec rfl (hb hbytes d0) rfl rfl ?_
    refine XS.aloadN X0.here hexec rfl (hb hbytes d1) rfl rfl ?_
    exact Steps.refl _)
  by_cases hxy : x = y
  · have c2 : Steps p.tables e below (s₁.setTop (entryFrame m #[.ref x, .ref y] 3)) (s₁.setTop (mkF m 6 #[.val (.ref x), .val (.ref y), .unset] [.int 1])) := c1.trans (by
      refine acmpNo X0.here hexec rfl (hb hbytes d2) rfl rfl rfl (by simp [acmp, hxy]) ?_
      refine iconstV X0.here hexec rfl 1 (hb hbytes d5) (by decide) ?_
      exact Steps.refl _)
    subst hxy
    have ec : cd = cd' := by
      obtain ⟨D, fd, a1, a2, a3⟩ := hx.2.2.1
      obtain ⟨D', fd', b1, b2, b3⟩ := hy.2.2.1
      cases a1.symm.trans b1
      obtain ⟨q1, q2, q3, q4⟩ := a2.1
      obtain ⟨r1, r2, r3, r4⟩ := b2.1
      cases q4.symm.trans r4
      cases a3.symm.trans b3; rfl
    have et : t = t' := by
      obtain ⟨D, fd, a1, a2, a3⟩ := hx.2.1
      obtain ⟨D', fd', b1, b2, b3⟩ := hy.2.1
      cases a1.symm.trans b1
      obtain ⟨q1, q2, q3, q4⟩ := a2.1
      obtain ⟨r1, r2, r3, r4⟩ := b2.1
      cases q4.symm.trans r4
      cases a3.symm.trans b3; rfl
    subst ec et
    have ev : V = V' := by cases hx.2.2.2.1.1.symm.trans hy.2.2.2.1.1; rfl
    subst ev
    have hs : SameT n f k g := (Cod.eqv hx.2.2.2.2.1 hy.2.2.2.2.1 hx.2.2.2.2.2 hy.2.2.2.2.2).mp ⟨rfl, fun _ _ => rfl⟩
    exact ⟨s₁, some (.int 1), _, _, _, X0, rfl, rfl, rfl, (fun h => by cases h), ⟨1, rfl, hh0, Or.inl ⟨rfl, hs⟩⟩, fun fs hl => c2.trans (X0.ireturnOut hexec hret rfl (Or.inr (Or.inl rfl)) (hb hbytes d6) hl)⟩
  · have c2 : Steps p.tables e below (s₁.setTop (entryFrame m #[.ref x, .ref y] 3)) (s₁.setTop (mkF m 8 #[.val (.ref x), .val (.ref y), .unset] [.ref y])) := c1.trans (by
      refine acmpYes X0.here hexec rfl (pc0 := 2) rfl (hb hbytes d2) rfl rfl rfl (by simp [acmp, hxy]) (by decide) rfl ?_
      refine XS.aloadN X0.here hexec rfl (hb hbytes d7) rfl rfl ?_
      exact Steps.refl _)
    obtain ⟨T3, X3, q3, st3⟩ := cinst X0 hexec hown (wk W (.classLink "java/lang/String" 10 "java/lang/String")) (hy.mv X0.warmed.alike hh0).1 (g := (mkF m 8 #[.val (.ref x), .val (.ref y), .unset] [.ref y])) rfl (rest := []) rfl (hb hbytes d8)
    have hh3 := q3.trans hh0
    have c4 : Steps p.tables e below (s₁.setTop (entryFrame m #[.ref x, .ref y] 3)) (T3.setTop (mkF m 15 #[.val (.ref x), .val (.ref y), .unset] [.ref y])) := (c2.trans (st3 _ (Steps.refl _))).trans (by
      refine XS.ifNo X3.here hexec rfl (hb hbytes d11) rfl (i0_eq_f (by decide)) ?_
      refine XS.aloadN X3.here hexec rfl (hb hbytes d14) rfl rfl ?_
      exact Steps.refl _)
    obtain ⟨T5, X5, q5, st5⟩ := cself X3 hexec hown (wk W (.classLink "java/lang/String" 10 "java/lang/String")) (hy.mv X3.warmed.alike hh3).1 (g := (mkF m 15 #[.val (.ref x), .val (.ref y), .unset] [.ref y])) rfl (rest := []) rfl (hb hbytes d15)
    have hh5 := q5.trans hh3
    have c6 : Steps p.tables e below (s₁.setTop (entryFrame m #[.ref x, .ref y] 3)) (T5.setTop (mkF m 19 #[.val (.ref x), .val (.ref y), .val (.ref y)] [])) := (c4.trans (st5 _ (Steps.refl _))).trans (by
      refine XS.astoreN X5.here hexec rfl (hb hbytes d18) rfl rfl rfl ?_
      exact Steps.refl _)
    obtain ⟨T7, X7, q7, st7⟩ := X5.sget hexec hown (wk W (.fieldLink "java/lang/String" 38 "java/lang/String" "COMPACT_STRINGS" "Z")) s1 (fun _ _ h => by rw [hh5]; exact h) (g := (mkF m 19 #[.val (.ref x), .val (.ref y), .val (.ref y)] [])) rfl (hb hbytes d19)
    have hh7 := q7.trans hh5
    have c8 : Steps p.tables e below (s₁.setTop (entryFrame m #[.ref x, .ref y] 3)) (T7.setTop (mkF m 26 #[.val (.ref x), .val (.ref y), .val (.ref y)] [.ref x])) := (c6.trans (st7 _ (Steps.refl _))).trans (by
      refine XS.ifNo X7.here hexec rfl (hb hbytes d22) rfl (i0_eq_f hz) ?_
      refine XS.aloadN X7.here hexec rfl (hb hbytes d25) rfl rfl ?_
      exact Steps.refl _)
    obtain ⟨T9, X9, q9, st9⟩ := X7.hget hexec hown (wk W (.fieldLink "java/lang/String" 15 "java/lang/String" "coder" "B")) (hx.mv X7.warmed.alike hh7).2.2.1 (g := (mkF m 26 #[.val (.ref x), .val (.ref y), .val (.ref y)] [.ref x])) rfl (rest := []) rfl (hb hbytes d26)
    have hh9 := q9.trans hh7
    have c10 : Steps p.tables e below (s₁.setTop (entryFrame m #[.ref x, .ref y] 3)) (T9.setTop (mkF m 30 #[.val (.ref x), .val (.ref y), .val (.ref y)] [.ref y, .int cd])) := (c8.trans (st9 _ (Steps.refl _))).trans (by
      refine XS.aloadN X9.here hexec rfl (hb hbytes d29) rfl rfl ?_
      exact Steps.refl _)
    obtain ⟨T11, X11, q11, st11⟩ := X9.hget hexec hown (wk W (.fieldLink "java/lang/String" 15 "java/lang/String" "coder" "B")) (hy.mv X9.warmed.alike hh9).2.2.1 (g := (mkF m 30 #[.val (.ref x), .val (.ref y), .val (.ref y)] [.ref y, .int cd])) rfl (rest := [.int cd]) rfl (hb hbytes d30)
    have hh11 := q11.trans hh9
    have c12 : Steps p.tables e below (s₁.setTop (entryFrame m #[.ref x, .ref y] 3)) (T11.setTop (mkF m 33 #[.val (.ref x), .val (.ref y), .val (.ref y)] [.int cd', .int cd])) := c10.trans (st11 _ (Steps.refl _))
    by_cases hcd : cd = cd'
    · subst hcd
      have c13 : Steps p.tables e below (s₁.setTop (entryFrame m #[.ref x, .ref y] 3)) (T11.setTop (mkF m 37 #[.val (.ref x), .val (.ref y), .val (.ref y)] [.ref x])) := c12.trans (by
        refine XS.icmpNo X11.here hexec rfl (hb hbytes d33) rfl (ii_ne_f rfl) ?_
        refine XS.aloadN X11.here hexec rfl (hb hbytes d36) rfl rfl ?_
        exact Steps.refl _)
      obtain ⟨T14, X14, q14, st14⟩ := X11.hget hexec hown (wk W (.fieldLink "java/lang/String" 9 "java/lang/String" "value" "[B")) (hx.mv X11.warmed.alike hh11).2.1 (g := (mkF m 37 #[.val (.ref x), .val (.ref y), .val (.ref y)] [.ref x])) rfl (rest := []) rfl (hb hbytes d37)
      have hh14 := q14.trans hh11
      have c15 : Steps p.tables e below (s₁.setTop (entryFrame m #[.ref x, .ref y] 3)) (T14.setTop (mkF m 41 #[.val (.ref x), .val (.ref y), .val (.ref y)] [.ref y, .ref t])) := (c13.trans (st14 _ (Steps.refl _))).trans (by
        refine XS.aloadN X14.here hexec rfl (hb hbytes d40) rfl rfl ?_
        exact Steps.refl _)
      obtain ⟨T16, X16, q16, st16⟩ := X14.hget hexec hown (wk W (.fieldLink "java/lang/String" 9 "java/lang/String" "value" "[B")) (hy.mv X14.warmed.alike hh14).2.1 (g := (mkF m 41 #[.val (.ref x), .val (.ref y), .val (.ref y)] [.ref y, .ref t])) rfl (rest := [.ref t]) rfl (hb hbytes d41)
      have hh16 := q16.trans hh14
      have c17 : Steps p.tables e below (s₁.setTop (entryFrame m #[.ref x, .ref y] 3)) (T16.setTop (mkF m 44 #[.val (.ref x), .val (.ref y), .val (.ref y)] [.ref t', .ref t])) := c15.trans (st16 _ (Steps.refl _))
      obtain ⟨v18, T18, X18, E18, g18⟩ := X16.callS hexec (LEq.law l t V t' V') hown (wks W (staticW "java/lang/String" 541 LEq.yN)) (wk W LEq.tab) (W := 0) (Nat.le_of_ble_eq_true rfl) (Nat.le_of_ble_eq_true rfl) (Nat.le_refl _) (Nat.le_refl _) (g := (mkF m 44 #[.val (.ref x), .val (.ref y), .val (.ref y)] [.ref t', .ref t])) rfl (by rw [hml]; rfl) c17 (argsL := [.ref t, .ref t']) (rest := []) rfl rfl (by show 2 * 0 + 0 ≤ _; decide) (hb hbytes d44) (⟨rfl, hx.2.2.2.1.mv X16.warmed.alike hh16, hx.2.2.2.2.1.ty, hy.2.2.2.1.mv X16.warmed.alike hh16, hy.2.2.2.2.1.ty⟩)
      obtain ⟨v, rfl, q18, hv⟩ := E18
      have iff := Cod.eqv hx.2.2.2.2.1 hy.2.2.2.2.1 hx.2.2.2.2.2 hy.2.2.2.2.2
      rcases hv with ⟨rfl, he⟩ | ⟨rfl, he⟩
      · have c19 : Steps p.tables e below (s₁.setTop (entryFrame m #[.ref x, .ref y] 3)) (T18.setTop (mkF m 55 #[.val (.ref x), .val (.ref y), .val (.ref y)] [.int 1])) := Steps.trans g18 (by
          refine XS.ifNo X18.here hexec rfl (hb hbytes d47) rfl (i0_eq_f (by decide)) ?_
          refine iconstV X18.here hexec rfl 1 (hb hbytes d50) (by decide) ?_
          refine XS.goto X18.here hexec rfl (pc0 := 51) rfl (hb hbytes d51) (by decide) rfl ?_
          exact Steps.refl _)
        exact ⟨T18, some (.int 1), _, _, _, X18, rfl, rfl, rfl, (fun h => by cases h), ⟨1, rfl, q18.trans hh16, Or.inl ⟨rfl, iff.mp he⟩⟩, fun fs hl => c19.trans (X18.ireturnOut hexec hret rfl (Or.inr (Or.inl rfl)) (hb hbytes d55) hl)⟩
      · have c19 : Steps p.tables e below (s₁.setTop (entryFrame m #[.ref x, .ref y] 3)) (T18.setTop (mkF m 55 #[.val (.ref x), .val (.ref y), .val (.ref y)] [.int 0])) := Steps.trans g18 (by
          refine XS.ifYes X18.here hexec rfl (pc0 := 47) rfl (hb hbytes d47) rfl (i0_eq_t rfl) (by decide) rfl ?_
          refine iconstV X18.here hexec rfl 0 (hb hbytes d54) (by decide) ?_
          exact Steps.refl _)
        exact ⟨T18, some (.int 0), _, _, _, X18, rfl, rfl, rfl, (fun h => by cases h), ⟨0, rfl, q18.trans hh16, Or.inr ⟨rfl, fun q => he (iff.mpr q)⟩⟩, fun fs hl => c19.trans (X18.ireturnOut hexec hret rfl (Or.inr (Or.inl rfl)) (hb hbytes d55) hl)⟩
    · have c13 : Steps p.tables e below (s₁.setTop (entryFrame m #[.ref x, .ref y] 3)) (T11.setTop (mkF m 55 #[.val (.ref x), .val (.ref y), .val (.ref y)] [.int 0])) := c12.trans (by
        refine XS.icmpYes X11.here hexec rfl (pc0 := 33) rfl (hb hbytes d33) rfl (ii_ne_t hcd) (by decide) rfl ?_
        refine iconstV X11.here hexec rfl 0 (hb hbytes d54) (by decide) ?_
        exact Steps.refl _)
      exact ⟨T11, some (.int 0), _, _, _, X11, rfl, rfl, rfl, (fun h => by cases h), ⟨0, rfl, hh11, Or.inr ⟨rfl, Cod.dif hx.2.2.2.2.1 hy.2.2.2.2.1 hcd⟩⟩, fun fs hl => c13.trans (X11.ireturnOut hexec hret rfl (Or.inr (Or.inl rfl)) (hb hbytes d55) hl)⟩
theorem pays {l : Launch} {R : Room} {p : Program} {e : Env} {below : List Frame} {s : State} {sargs : Array Value} {len W : Nat} (x t : Addr) (V : Cell) (cd : Int32) (n : Nat) (f : Nat → Int32) (y t' : Addr) (V' : Cell) (cd' : Int32) (k : Nat) (g : Nat → Int32) (z : Int32) (htab : tab.before sargs s = true) (hfr : 2 ≤ R.frames) (hlo : W + 28 ≤ R.locals) :
    Back l R p e below s sargs yN len W (fun A₁ a₁ => A₁.cells + 0 ≤ R.cells ∧ A₁.slots + 0 ≤ R.slots ∧ P x t V cd n f y t' V' cd' k g z a₁ A₁.U) (fun A₁ _ v₁ B₁ => Says01 (SameT n f k g) v₁ A₁.U B₁.U ∧ B₁.locs = A₁.locs ++ [] ∧ B₁.cells = A₁.cells + 0 ∧ B₁.slots = A₁.slots + 0) :=
  (law l x t V cd n f y t' V' cd' k g z).pays htab hfr (by omega)
end SEq
end StrChars
namespace StrChars.Road
open Jvm Sem ClassFile Op Lib Jvm.Stand Jvm.Free Jvm.Free.XT
open Jvm.Lib.Cold (StaticIs)
/-- the words of String.equals(Object) -/
abbrev wordsEq : List Jvm.Cond := [.code SEq.yN SEq.yB 3 (some .boolean), .initialized ST, .classLink ST 10 ST, .fieldLink ST 38 ST "COMPACT_STRINGS" "Z", .fieldLink ST 15 ST "coder" "B", .fieldLink ST 9 ST "value" "[B", .methodLink ST 541 LEq.yN, .static LEq.yN, .code LEq.yN LEq.yB 3 (some .boolean), .initialized "java/lang/StringLatin1"]
theorem tabEq_of {a : Array Value} {s : State} (h : ∀ w ∈ wordsEq, w.before a s = true) : SEq.tab.before a s = true := by
  have hl : LEq.tab.before a s = true := unparts (wk h (.code LEq.yN LEq.yB 3 (some .boolean))) (wks h (.initialized LEq.yN.cls :: LEq.site))
  have q := consq hl h
  exact unparts (wk q (.code SEq.yN SEq.yB 3 (some .boolean))) (wks q (.initialized SEq.yN.cls :: SEq.site))
theorem movedEq {Z s : State} {a0 args : Array Value} (hZ : Z.Warmed39 s.vm) (hw : ∀ d ∈ wordsEq, d.before a0 Z = true) : ∀ d ∈ wordsEq, d.before args s = true := fun d hd => by
  have t : ∀ d ∈ wordsEq, (d.onTables && d.keepsFace) = true := by decide +kernel
  exact RoadKit.mv hZ (hw d hd) (t d hd)
/-- the road's facts of a String, as the laws ask it -/
theorem txt_of {Z U : State} {a0 : Array Value} {kI : Nat} (wi : (Jvm.Cond.instantiable ST kI).before a0 Z = true) (al : Z.vm.Alike U.vm) {x t : Addr} {kb : ClassId} {cs : List Int32} {cd N2 : Int32} {vs : List Value} (E : RoadKit.Exa Z U.heap x ST) (V : RoadKit.Fld Z U.heap x ST "value" "[B" (.ref t)) (C : RoadKit.Fld Z U.heap x ST "coder" "B" (.int cd)) (K : RoadKit.Arv Z U.heap t kb .byte N2 vs (.int 0)) (hc : CodA cs cd N2 vs) (hb : ∀ c ∈ cs, ¬ c < 0 ∧ ¬ (65535 : Int32) < c) (l2 : cs.length ≤ 4000) :
    ∃ A, Txt x t A cd cs.length (fun j => cs.getD j 0) U := by
  obtain ⟨A, K1, K2, K3, K4, K5, K6⟩ := K
  have hcod := hc.cod (by omega) K3 K5
  obtain ⟨D, fV, fC, hB, F1, F2, g1, g2, -, -⟩ := strObj wi al E V C
  exact ⟨A, ⟨_, hB.2.2.1, D, hB.1, rfl, by cases q : D.vm <;> first | rfl | exact absurd q (hB.2.1.2 _)⟩, Has.of hB F1 g1, Has.of hB F2 g2, ⟨K1.1, State.isArrayOf_alike al K1.2.1, K1.2.2, by rcases hcod with ⟨-, q, -⟩ | ⟨-, q, -⟩ <;> omega⟩, hcod, fun j hj => by
    have e : cs.getD j 0 = cs[j] := by simp [List.getD_eq_getElem?_getD, hj]
    show ¬ cs.getD j 0 < 0 ∧ ¬ 65535 < cs.getD j 0
    rw [e]; exact hb _ (List.getElem_mem _)⟩
theorem same_list (cs ds : List Int32) : SameT cs.length (fun j => cs.getD j 0) ds.length (fun j => ds.getD j 0) ↔ cs = ds := by
  constructor
  · rintro ⟨e, q⟩
    refine List.ext_getElem e fun j h1 h2 => ?_
    have := q j h1
    simpa [List.getD_eq_getElem?_getD, h1, h2] using this
  · rintro rfl
    exact ⟨rfl, fun _ _ => rfl⟩
/-- **equals(Object) OF TWO SUCH STRINGS**: 1 just where the chars are the same -/
theorem eqW {p : Program} {l : Launch} {e : Env} {R : Room} {s : State} {args : Array Value} {below : List Frame} {len W : Nat} {Z : State} {a0 : Array Value} {h : Heap} (hZ : Z.Warmed39 s.vm) (hw : ∀ d ∈ wordsEq, d.before a0 Z = true) {kI : Nat} (wi : (Jvm.Cond.instantiable ST kI).before a0 Z = true)
    {x t : Addr} {kb : ClassId} {cs : List Int32} {cd N2 : Int32} {vs : List Value} (E : RoadKit.Exa Z h x ST) (V : RoadKit.Fld Z h x ST "value" "[B" (.ref t)) (C : RoadKit.Fld Z h x ST "coder" "B" (.int cd)) (K : RoadKit.Arv Z h t kb .byte N2 vs (.int 0)) (hc : CodA cs cd N2 vs) (hb : ∀ c ∈ cs, ¬ c < 0 ∧ ¬ (65535 : Int32) < c) (l2 : cs.length ≤ 4000)
    {y t' : Addr} {kb' : ClassId} {ds : List Int32} {cd' N2' : Int32} {vs' : List Value} (E' : RoadKit.Exa Z h y ST) (V' : RoadKit.Fld Z h y ST "value" "[B" (.ref t')) (C' : RoadKit.Fld Z h y ST "coder" "B" (.int cd')) (K' : RoadKit.Arv Z h t' kb' .byte N2' vs' (.int 0)) (hc' : CodA ds cd' N2' vs') (hb' : ∀ c ∈ ds, ¬ c < 0 ∧ ¬ (65535 : Int32) < c) (l2' : ds.length ≤ 4000)
    {z : Int32} (S : RoadKit.Sta Z h ST "COMPACT_STRINGS" "Z" (.int z)) (hz : ¬ z = 0) (hfr : 2 ≤ R.frames) (hlo : W + 28 ≤ R.locals) :
    Back l R p e below s args (⟨"java/lang/String", "equals", "(Ljava/lang/Object;)Z"⟩ : MethodName) len W (fun P a => a = #[.ref x, .ref y] ∧ P.U.heap = h ∧ P.cells + 0 ≤ R.cells ∧ P.slots + 0 ≤ R.slots)
      (fun P _ v B => ∃ L, (((v = some (.int 1) ∧ cs = ds) ∨ (v = some (.int 0) ∧ ¬ cs = ds)) ∧ L = [] ∧ B.U.heap = h) ∧ B.locs = P.locs ++ L ∧ B.cells = P.cells + 0 ∧ B.slots = P.slots + 0) := by
  intro m meth c P g ig mk a X hg hsize hdg hW hn hp'
  obtain ⟨rfl, rfl, r1, r2⟩ := hp'
  have al : Z.vm.Alike P.U.vm := hZ.alike.trans X.warmed.alike
  obtain ⟨A, hx⟩ := txt_of wi al E V C K hc hb l2
  obtain ⟨A', hy⟩ := txt_of wi al E' V' C' K' hc' hb' l2'
  obtain ⟨v, B, X', ⟨⟨w, hv, hh, hq⟩, hl, hk, hs⟩, st⟩ := SEq.pays x t A cd cs.length (fun j => cs.getD j 0) y t' A' cd' ds.length (fun j => ds.getD j 0) z (tabEq_of (movedEq hZ hw)) hfr hlo m meth c P g ig mk _ X hg hsize hdg hW hn ⟨r1, r2, rfl, hx, hy, sta_is al S, hz⟩
  refine ⟨v, B, X', ⟨[], ⟨?_, rfl, hh⟩, hl, hk, hs⟩, st⟩
  rcases hq with ⟨rfl, q⟩ | ⟨rfl, q⟩
  · exact Or.inl ⟨hv, (same_list cs ds).mp q⟩
  · exact Or.inr ⟨hv, fun e => q ((same_list cs ds).mpr e)⟩
end StrChars.Road
namespace StrChars.Road
open Jvm Sem ClassFile Op Lib Jvm.Stand Jvm.Free Jvm.Free.XT
open Jvm.Lib.Cold (StaticIs)
/-- what backV says of its String, as the contracts of this text ask it: cs's low bytes, coder 0 -/
theorem codOf {cs : List Int32} {n : Nat} (hn : cs.length = n) (hb : ∀ c ∈ cs, ¬ 255 < c) : CodA cs 0 (Int32.ofNat n) ((cs.map lo8).map Value.int) := Or.inl ⟨rfl, by rw [hn], by simp [List.map_map, Function.comp_def], hb⟩
end StrChars.Road
end Jvm.Pilot.@@N@@
namespace Jvm.Pilot.@@N@@
open Jvm Jvm.ClassFile Sem Op Lib Jvm.Free Jvm.Stand Jvm.LawKit Jvm.RoadKit Bundle Jvm.Pilot.@@N@@.Jvm.D
theorem ow {Z : State} {a0 : Array Value} (hw : ∀ d ∈ tables_1, d.before a0 Z = true) (i : Nat) {d : Jvm.Cond} (h : tables_1[i]? = some d := by rfl) : d.before a0 Z = true := hw d (List.mem_of_getElem? h)
open Jvm.Free.SB Jvm.Free.SBG Bundle in
theorem own_safeN {Z : State} {EL : List (String × Nat)} {vm : Vm} {h : Heap} {x : Addr} (hal : Z.vm.Alike vm) (E : Exa Z h x "java/lang/String") (F : Fld Z h x "java/lang/String" "value" "[B" .null) : Safe Z EL vm h x := fun B => by
  obtain ⟨cell, k, e1, e2, e3, -, -⟩ := E
  have nm : ∀ {n : String} {c : ClassId}, vm.findClass n = some c → c = cell.cls → n = "java/lang/String" := fun {n c} f e => by
    subst e
    rw [hal.findClass] at f
    obtain ⟨k1, q1, q2⟩ := Vm.findClass_spec f
    obtain ⟨k2, q3, q4⟩ := Vm.findClass_spec e2
    cases q1.symm.trans q3
    exact q2.symm.trans q4
  obtain ⟨p, -, u, a, -, q, -, G, rfl | rfl⟩ := B
  · obtain ⟨cell', cf, kk, i, f, f1, f2, f3, f4, f5, f6, f7⟩ := F
    have hq : h[q.sa]? = some q.sC := G.ha
    obtain ⟨cS, ⟨⟨s1, s2, s3, ⟨cv, kv, iv, s4, s4'⟩, ⟨cc, kc, ic, s5, s5'⟩, s6, s7, s8, s9, -⟩, hfS, hcS⟩, -⟩ := G
    obtain ⟨kv', z4⟩ := ff_back (U := Wst Z vm h) hal s4
    cases f1.symm.trans hq
    have z := z4.symm.trans f2
    simp only [Option.some.injEq, Prod.mk.injEq] at z
    rw [← z.2.2.2, s8] at f7
    cases f7
  · cases (show h[q.sd]? = some q.SA from G.hd).symm.trans e1
    obtain ⟨cS, -, -, f, -⟩ := G
    exact absurd (nm f rfl) (by decide)
theorem own_wI {Z : State} {a0 : Array Value} (hw : ∀ d ∈ tables_1, d.before a0 Z = true) : ∀ d ∈ StrChars.Road.words, d.before a0 Z = true := fun d hd => hw d ((by decide +kernel : ∀ d ∈ StrChars.Road.words, d ∈ tables_1) d hd)
theorem own_wE {Z : State} {a0 : Array Value} (hw : ∀ d ∈ tables_1, d.before a0 Z = true) : ∀ d ∈ StrChars.Road.wordsEq, d.before a0 Z = true := fun d hd => hw d ((by decide +kernel : ∀ d ∈ StrChars.Road.wordsEq, d ∈ tables_1) d hd)
theorem own_wS {Z : State} {a0 : Array Value} (hw : ∀ d ∈ tables_1, d.before a0 Z = true) : ∀ d ∈ Bundle.stringAtoms, d.before a0 Z = true := fun d hd => hw d ((by decide +kernel : ∀ d ∈ Bundle.stringAtoms, d ∈ tables_1) d hd)
abbrev own_EL : List (String × Nat) := [("java/lang/String", 7)]
theorem own_lit_0 : (∀ c ∈ ("" : String).toList, c.toNat < 256) ∧ ("" : String).toList.map (fun c => Value.int (Jvm.Lit.byteI c.toNat.toUInt16)) = [] := ⟨by decide, rfl⟩
theorem own_EW {Z : State} {a0 : Array Value} (hw : ∀ d ∈ tables_1, d.before a0 Z = true) : EW Z a0 own_EL := EW.cons (ow hw 18) own_lit_0.1 EW.nil
def own_cs (n a b : Int32) : List Int32 := if n = (0 : Int32) then [] else if n = (1 : Int32) then [a] else [a, b]
theorem own_cs0 {n a b : Int32} (h : n = (0 : Int32)) : own_cs n a b = [] := if_pos h
theorem own_cs1 {n a b : Int32} (h : ¬ n = (0 : Int32)) (h1 : n = (1 : Int32)) : own_cs n a b = [a] := (if_neg h).trans (if_pos h1)
theorem own_cs2 {n a b : Int32} (h : ¬ n = (0 : Int32)) (h1 : ¬ n = (1 : Int32)) : own_cs n a b = [a, b] := (if_neg h).trans (if_neg h1)
theorem own_csl (n a b : Int32) : (own_cs n a b).length ≤ 4000 := by unfold own_cs; split; simp; split <;> simp
theorem own_csr {n a b : Int32} (ha : ¬ a < 0 ∧ ¬ (255 : Int32) < a) (hb : ¬ b < 0 ∧ ¬ (255 : Int32) < b) : ∀ c ∈ own_cs n a b, ¬ c < 0 ∧ ¬ (255 : Int32) < c := by
  unfold own_cs
  intro c hc
  split at hc
  · cases hc
  · split at hc
    · simp only [List.mem_cons, List.not_mem_nil, or_false] at hc; subst hc; exact ha
    · simp only [List.mem_cons, List.not_mem_nil, or_false] at hc
      rcases hc with rfl | rfl
      · exact ha
      · exact hb
theorem own_hp2 {a b : Int32} (h : ¬ a < 0 ∧ ¬ (255 : Int32) < a) (h' : ¬ b < 0 ∧ ¬ (255 : Int32) < b) : ∀ c ∈ ([(nar .char a), (nar .char b)] : List Int32), ¬ c < 0 ∧ ¬ (255 : Int32) < c := by
  intro c hc; simp only [List.mem_cons, List.not_mem_nil, or_false] at hc
  rcases hc with rfl | rfl
  · rw [own_narid h]; exact h
  · rw [own_narid h']; exact h'
theorem own_nby (c : Int32) : nar .byte (c.toInt8.toInt32) = c.toInt8.toInt32 := by
  have q1 := c_i2b c
  have q2 := c_i2b c.toInt8.toInt32
  rw [← Int32.toInt_inj]
  show (c.toInt8.toInt32.toInt8.toInt32).toInt = _
  omega
def own_N (n : Int32) : Prop := n = 0 ∨ n = 1 ∨ n = 2
theorem own_names {n m a b c d : Int32} (hn : own_N n) (hm : own_N m) : (own_cs n a b = own_cs m c d) ↔ (n = m ∧ (n < (1 : Int32) ∨ a = c) ∧ (n < (2 : Int32) ∨ b = d)) := by
  have d1 : ¬ ((1 : Int32) = 0) := by decide
  have d2 : ¬ ((2 : Int32) = 0) := by decide
  have d3 : ¬ ((2 : Int32) = 1) := by decide
  have d4 : ¬ ((0 : Int32) = 1) := by decide
  have d5 : ¬ ((0 : Int32) = 2) := by decide
  have d6 : ¬ ((1 : Int32) = 2) := by decide
  have e1 : (0 : Int32) < 1 := by decide
  have e2 : (0 : Int32) < 2 := by decide
  have e3 : (1 : Int32) < 2 := by decide
  have e4 : ¬ ((1 : Int32) < 1) := by decide
  have e5 : ¬ ((2 : Int32) < 1) := by decide
  have e6 : ¬ ((2 : Int32) < 2) := by decide
  rcases hn with rfl | rfl | rfl <;> rcases hm with rfl | rfl | rfl <;> simp [own_cs, d1, d2, d3, d4, d5, d6, e1, e2, e3, e4, e5, e6]
theorem own_biC {P Q : Prop} [Decidable P] [Decidable Q] (h : P ↔ Q) : own_bi P = own_bi Q := by
  by_cases q : P
  · rw [own_bi1 q, own_bi1 (h.mp q)]
  · rw [own_bi0 q, own_bi0 (fun z => q (h.mpr z))]
theorem own_n3 (x : Int32) : own_N ((x &&& (3 : Int32)) % (3 : Int32)) := by
  have h1 := c_mask x 3 2 (by decide) (by decide)
  have h2 := (c_irem (x &&& 3) 3 3 (by decide)).1 (by omega)
  unfold own_N
  simp only [← Int32.toInt_inj]
  have e0 : (0 : Int32).toInt = 0 := by decide
  have e1 : (1 : Int32).toInt = 1 := by decide
  have e2 : (2 : Int32).toInt = 2 := by decide
  omega
theorem own_255 (x : Int32) : ¬ ((x &&& (255 : Int32)).toUInt32.toUInt16.toUInt32.toInt32) < 0 ∧ ¬ (255 : Int32) < ((x &&& (255 : Int32)).toUInt32.toUInt16.toUInt32.toInt32) := by
  have h1 := c_mask x 255 8 (by decide) (by decide)
  rw [i2c_mask x, Int32.lt_iff_toInt_lt, Int32.lt_iff_toInt_lt]
  have e0 : (0 : Int32).toInt = 0 := by decide
  have e1 : (255 : Int32).toInt = 255 := by decide
  omega
theorem own_nz {f : Int32} (h : f = 0 ∨ f = 1) : nar .boolean f = f := by
  rcases h with rfl | rfl <;> decide
theorem d3_0 : decode jdk_42_method_149_code 0 = .ok (.aload_n 0, 1) := by decide +kernel
theorem d3_1 : decode jdk_42_method_149_code 1 = .ok (.invokespecial 1, 3) := by decide +kernel
theorem d3_4 : decode jdk_42_method_149_code 4 = .ok (.iload_n 3, 1) := by decide +kernel
theorem d3_5 : decode jdk_42_method_149_code 5 = .ok (.ifCond .ne 22, 3) := by decide +kernel
theorem d3_8 : decode jdk_42_method_149_code 8 = .ok (.aload_n 0, 1) := by decide +kernel
theorem d3_9 : decode jdk_42_method_149_code 9 = .ok (.ldc 7, 2) := by decide +kernel
theorem d3_11 : decode jdk_42_method_149_code 11 = .ok (.getfield 9, 3) := by decide +kernel
theorem d3_14 : decode jdk_42_method_149_code 14 = .ok (.putfield 9, 3) := by decide +kernel
theorem d3_17 : decode jdk_42_method_149_code 17 = .ok (.aload_n 0, 1) := by decide +kernel
theorem d3_18 : decode jdk_42_method_149_code 18 = .ok (.ldc 7, 2) := by decide +kernel
theorem d3_20 : decode jdk_42_method_149_code 20 = .ok (.getfield 15, 3) := by decide +kernel
theorem d3_23 : decode jdk_42_method_149_code 23 = .ok (.putfield 15, 3) := by decide +kernel
theorem d3_26 : decode jdk_42_method_149_code 26 = .ok (.return_, 1) := by decide +kernel
theorem pn_0 : plainName "java/lang/String" = true := by first | (simp [plainName, overriddenIn]; done) | decide +kernel
theorem ef_siv (m : MethodId) (x0 : Addr) (x1 : Addr) (x2 : Int32) (x3 : Int32) : entryFrame m #[(.ref x0), (.ref x1), (.int x2), (.int x3), .null] 6 = mkF m 0 #[.val (.ref x0), .val (.ref x1), .val (.int x2), .val (.int x3), .val .null, .unset] [] := by first | (simp [entryFrame, mkF, argsToLocals, Value.category]; done) | rfl
def Qsiv (Z : State) (s_ : Addr) (a : Addr) (ka : ClassId) (h0 : Heap) (n0 : Nat) (v : Option Value) (h : Heap) (L : List Loc) : Prop := ∃ (t_ : Addr) (kb_ : ClassId), v = none ∧ Fr n0 L ∧ Keep h0 h [s_] ∧ s_ ≠ t_ ∧ Exa Z h s_ "java/lang/String" ∧ Fld Z h s_ "java/lang/String" "coder" "B" (.int 0) ∧ Fld Z h s_ "java/lang/String" "value" "[B" (.ref t_) ∧ Arv Z h t_ kb_ .byte (0 : Int32) [] (.int 0)
set_option maxRecDepth 65536 in
set_option maxHeartbeats 40000000 in
theorem siv (l : Launch) (Z : State) (a0 : Array Value) (hw : ∀ d ∈ tables_1, d.before a0 Z = true) (ws : List Jvm.Cond) (s_ : Addr) (a : Addr) (ka : ClassId) (h0 : Heap) (n0 : Nat) (O : Old Z n0 h0) (E_s_ : Exa Z h0 s_ "java/lang/String") (F_s__String_value : Fld Z h0 s_ "java/lang/String" "value" "[B" .null) (F_s__String_coder : Fld Z h0 s_ "java/lang/String" "coder" "B" (.int 0)) (g_s_ : n0 ≤ s_) (V_a : Arv Z h0 a ka .char (0 : Int32) [] (.int 0)) (nsa : s_ ≠ a) :
    MetFree l (⟨"java/lang/String", "<init>", "([CIILjava/lang/Void;)V"⟩ : MethodName) (head1 (Jvm.Cond.code (⟨"java/lang/String", "<init>", "([CIILjava/lang/Void;)V"⟩ : MethodName) jdk_42_method_149_code 6 none :: ws) ({ frames := 1, cells := 4, slots := 8, locals := 12 } : Room)) (fun a' U' => a' = #[(.ref s_), (.ref a), (.int 0), (.int 0), .null] ∧ Z.Warmed39 U'.vm ∧ U'.heap = h0 ∧ CHv Z own_EL U'.vm h0) (fun _ _ _ _ _ => True) (fun _ U' o' W' => ∃ v' L', o' = .returned v' ∧ Qsiv Z s_ a ka h0 n0 v' W'.heap L' ∧ CHr Z own_EL U'.vm U'.heap W'.vm W'.heap ∧ ReturnedEndW U' o' W' L' ({ frames := 1, cells := 4, slots := 8, locals := 12 } : Room).cells ({ frames := 1, cells := 4, slots := 8, locals := 12 } : Room).slots) := by
  refine MetFree.of_bodySF (plainFor_of_name pn_0) hisR ?_
  intro p e s m args below meth c s₁ Bd hml0 hP hK
  obtain ⟨rfl, hZ, hh, HC⟩ := hP
  have hx := Bd.exec
  have hby := Bd.bytes
  have hml : c.maxLocals = 6 := hml0
  have hown : s.vm.findClass "java/lang/String" = some m.cls := findClass_of_methodNamed Bd.named
  have hnm := (name_of_methodNamed Bd.named Bd.method).1
  have X0 : Stand p l e ({ frames := 1, cells := 4, slots := 8, locals := 12 } : Room) (s.setVm s.vm) m #[(.ref s_), (.ref a), (.int 0), (.int 0), .null] below meth c s₁ [] 0 0 := Stand.of_body Bd
  have e0 : s₁.heap = h0 := by rw [← hh, Bd.state]; rfl
  have N0 := Fr.nil n0
  have K0 := Keep.refl h0 [s_]
  have CR := CHr.refl HC
  have hS : s.Since s.vm h0.size := (State.WarmedH.refl s).since _
  have hk : h0.size ≤ h0.size := Nat.le_refl _
  refine own_start (ef_siv m s_ a (0 : Int32) (0 : Int32)) (Q := fun o' t' => ∃ v' L', o' = .returned v' ∧ Qsiv Z s_ a ka h0 n0 v' t'.heap L' ∧ CHr Z own_EL s.vm s.heap t'.vm t'.heap ∧ ReturnedEndW s o' t' L' ({ frames := 1, cells := 4, slots := 8, locals := 12 } : Room).cells ({ frames := 1, cells := 4, slots := 8, locals := 12 } : Room).slots) ?_
  show own_Fin p e below (s₁.setTop (mkF m 0 #[.val (.ref s_), .val (.ref a), .val (.int 0), .val (.int 0), .val .null, .unset] [])) _
  refine own_go (fun _ k => XS.aloadN X0.here hx rfl (hb hby d3_0) rfl rfl k) ?_
  show own_Fin p e below (s₁.setTop (mkF m 1 #[.val (.ref s_), .val (.ref a), .val (.int 0), .val (.int 0), .val .null, .unset] [(.ref s_)])) _
  obtain ⟨T1, X1, e1, st1⟩ := initO X0 hx hZ hown (ow hw 15) (ow hw 16) (ow hw 17) e0 (g := (mkF m 1 #[.val (.ref s_), .val (.ref a), .val (.int 0), .val (.int 0), .val .null, .unset] [(.ref s_)])) rfl (by rw [hml]; rfl) rfl (hb hby d3_1) (by decide) (W := 0) (by show 2 * 0 + _ ≤ _; exact Nat.le_of_eq rfl) (by decide)
  refine own_go (fun _ k => st1 _ k) ?_
  show own_Fin p e below (T1.setTop (mkF m 4 #[.val (.ref s_), .val (.ref a), .val (.int 0), .val (.int 0), .val .null, .unset] [])) _
  refine own_go (fun _ k => XS.iloadN X1.here hx rfl (hb hby d3_4) rfl (XS.ifNo X1.here hx rfl (hb hby d3_5) rfl ((if0 _ _).trans (teq (by decide : (0 : Int32) = (0 : Int32))).2) (XS.aloadN X1.here hx rfl (hb hby d3_8) rfl rfl k))) ?_
  show own_Fin p e below (T1.setTop (mkF m 9 #[.val (.ref s_), .val (.ref a), .val (.int 0), .val (.int 0), .val .null, .unset] [(.ref s_)])) _
  have S_s_ := own_safeN (EL := own_EL) hZ.alike E_s_ F_s__String_value
  obtain ⟨b2, T2, h2, k2, t2, kb2, X2, e2, E2, hS, hk, hZ, hown, L2_0, L2_1, L2_2, L2_3, -, -, CQ2, -, ne2, st2⟩ := ldcCH X1 hx hZ hown (ow hw 18) (own_wS hw) e1 hS hk (own_EW hw) (List.mem_of_getElem? (i := 0) rfl) HC (vs := []) (z := (0 : Int32)) (own_lit_0) (by decide) (by decide) (g := (mkF m 9 #[.val (.ref s_), .val (.ref a), .val (.int 0), .val (.int 0), .val .null, .unset] [(.ref s_)])) rfl (hb hby d3_9) (n := 0) (by decide) (by decide) (by decide) (by decide)
  refine own_go (fun _ k => st2 _ k) ?_
  have CR := CR.trans CQ2
  have S_s_ := CHr.safe CQ2 E_s_.lt S_s_
  have E_s_ := E_s_.ext E2
  have F_s__String_value := F_s__String_value.ext E2
  have F_s__String_coder := F_s__String_coder.ext E2
  have V_a := V_a.ext E2
  have O := O.ext E2
  have K3 := K0.ext E2
  have HC := CQ2.1
  have ne_s__b2 := (ne2 _ S_s_).1
  have ne_s__t2 := (ne2 _ S_s_).2
  have E_b2 := L2_0
  have F_b2_String_coder := L2_1
  have F_b2_String_value := L2_2
  have V_t2 := L2_3
  show own_Fin p e below (T2.setTop (mkF m 11 #[.val (.ref s_), .val (.ref a), .val (.int 0), .val (.int 0), .val .null, .unset] [(.ref b2), (.ref s_)])) _
  obtain ⟨T4, X4, e4, st4⟩ := getF X2 hx hZ hown (host := "") (Or.inl (ow hw 24)) Via.refl e2 F_b2_String_value (g := (mkF m 11 #[.val (.ref s_), .val (.ref a), .val (.int 0), .val (.int 0), .val .null, .unset] [(.ref b2), (.ref s_)])) rfl rfl (hb hby d3_11)
  refine own_go (fun _ k => st4 _ k) ?_
  show own_Fin p e below (T4.setTop (mkF m 14 #[.val (.ref s_), .val (.ref a), .val (.int 0), .val (.int 0), .val .null, .unset] [(.ref t2), (.ref s_)])) _
  obtain ⟨T5, h5, X5, e5, W5, st5⟩ := putF X4 hx hZ hown (host := "") (Or.inl (ow hw 24)) Via.refl e4 F_s__String_value E_s_ (Or.inr ⟨(ow hw 20), rfl, hnm⟩) (ow hw 5) (ty := (.array .byte)) (by decide) rfl rfl (g := (mkF m 14 #[.val (.ref s_), .val (.ref a), .val (.int 0), .val (.int 0), .val .null, .unset] [(.ref t2), (.ref s_)])) rfl rfl (hb hby d3_14)
  refine own_go (fun _ k => st5 _ k) ?_
  have Sq := S_s_
  have CR := CR.trans (CHr.wr W5 Sq HC)
  have S_s_ := Safe.wr W5 Sq HC S_s_
  have HC := CHv.wr W5 Sq HC
  have E_s_ := E_s_.wr W5
  have F_s__String_coder := F_s__String_coder.other W5 (Or.inr (slot_ne (Or.inr (ow hw 21)) (Or.inr (ow hw 20)) (by decide) (t := .byte) (t' := (.array .byte)) (by decide) (by decide)))
  have V_a := V_a.other W5 (Ne.symm nsa)
  have E_b2 := E_b2.wr W5
  have F_b2_String_coder := F_b2_String_coder.other W5 (Or.inl (Ne.symm ne_s__b2))
  have F_b2_String_value := F_b2_String_value.other W5 (Or.inl (Ne.symm ne_s__b2))
  have V_t2 := V_t2.other W5 (Ne.symm ne_s__t2)
  have O := O.wr W5 g_s_
  have K6 := K3.wr W5 (Or.inl (List.mem_of_getElem? (i := 0) rfl))
  have hk := Nat.le_trans hk (Nat.le_of_eq (Wr.size W5).symm)
  have F_s__String_value := F_s__String_value.same W5
  have N5 := Fr.snoc X5 N0 g_s_
  show own_Fin p e below (T5.setTop (mkF m 17 #[.val (.ref s_), .val (.ref a), .val (.int 0), .val (.int 0), .val .null, .unset] [])) _
  refine own_go (fun _ k => XS.aloadN X5.here hx rfl (hb hby d3_17) rfl rfl k) ?_
  show own_Fin p e below (T5.setTop (mkF m 18 #[.val (.ref s_), .val (.ref a), .val (.int 0), .val (.int 0), .val .null, .unset] [(.ref s_)])) _
  obtain ⟨b7, T7, h7, k7, t7, kb7, X7, e7, E7, hS, hk, hZ, hown, L7_0, L7_1, L7_2, L7_3, -, -, CQ7, -, ne7, st7⟩ := ldcCH X5 hx hZ hown (ow hw 18) (own_wS hw) e5 hS hk (own_EW hw) (List.mem_of_getElem? (i := 0) rfl) HC (vs := []) (z := (0 : Int32)) (own_lit_0) (by decide) (by decide) (g := (mkF m 18 #[.val (.ref s_), .val (.ref a), .val (.int 0), .val (.int 0), .val .null, .unset] [(.ref s_)])) rfl (hb hby d3_18) (n := 0) (by decide) (by decide) (by decide) (by decide)
  refine own_go (fun _ k => st7 _ k) ?_
  have CR := CR.trans CQ7
  have S_s_ := CHr.safe CQ7 E_s_.lt S_s_
  have E_s_ := E_s_.ext E7
  have F_s__String_value := F_s__String_value.ext E7
  have F_s__String_coder := F_s__String_coder.ext E7
  have V_a := V_a.ext E7
  have E_b2 := E_b2.ext E7
  have F_b2_String_coder := F_b2_String_coder.ext E7
  have F_b2_String_value := F_b2_String_value.ext E7
  have V_t2 := V_t2.ext E7
  have O := O.ext E7
  have K8 := K6.ext E7
  have HC := CQ7.1
  have ne_s__b7 := (ne7 _ S_s_).1
  have ne_s__t7 := (ne7 _ S_s_).2
  have E_b7 := L7_0
  have F_b7_String_coder := L7_1
  have F_b7_String_value := L7_2
  have V_t7 := L7_3
  show own_Fin p e below (T7.setTop (mkF m 20 #[.val (.ref s_), .val (.ref a), .val (.int 0), .val (.int 0), .val .null, .unset] [(.ref b7), (.ref s_)])) _
  obtain ⟨T9, X9, e9, st9⟩ := getF X7 hx hZ hown (host := "") (Or.inl (ow hw 25)) Via.refl e7 F_b7_String_coder (g := (mkF m 20 #[.val (.ref s_), .val (.ref a), .val (.int 0), .val (.int 0), .val .null, .unset] [(.ref b7), (.ref s_)])) rfl rfl (hb hby d3_20)
  refine own_go (fun _ k => st9 _ k) ?_
  show own_Fin p e below (T9.setTop (mkF m 23 #[.val (.ref s_), .val (.ref a), .val (.int 0), .val (.int 0), .val .null, .unset] [(.int 0), (.ref s_)])) _
  obtain ⟨T10, h10, X10, e10, W10, st10⟩ := putF X9 hx hZ hown (host := "") (Or.inl (ow hw 25)) Via.refl e9 F_s__String_coder E_s_ (Or.inr ⟨(ow hw 21), rfl, hnm⟩) (ow hw 5) (ty := .byte) (by decide) rfl rfl (g := (mkF m 23 #[.val (.ref s_), .val (.ref a), .val (.int 0), .val (.int 0), .val .null, .unset] [(.int 0), (.ref s_)])) rfl rfl (hb hby d3_23)
  refine own_go (fun _ k => st10 _ k) ?_
  have Sq := S_s_
  have CR := CR.trans (CHr.wr W10 Sq HC)
  have S_s_ := Safe.wr W10 Sq HC S_s_
  have HC := CHv.wr W10 Sq HC
  have E_s_ := E_s_.wr W10
  have F_s__String_value := F_s__String_value.other W10 (Or.inr (slot_ne (Or.inr (ow hw 20)) (Or.inr (ow hw 21)) (by decide) (t := (.array .byte)) (t' := .byte) (by decide) (by decide)))
  have V_a := V_a.other W10 (Ne.symm nsa)
  have E_b2 := E_b2.wr W10
  have F_b2_String_coder := F_b2_String_coder.other W10 (Or.inl (Ne.symm ne_s__b2))
  have F_b2_String_value := F_b2_String_value.other W10 (Or.inl (Ne.symm ne_s__b2))
  have V_t2 := V_t2.other W10 (Ne.symm ne_s__t2)
  have E_b7 := E_b7.wr W10
  have F_b7_String_coder := F_b7_String_coder.other W10 (Or.inl (Ne.symm ne_s__b7))
  have F_b7_String_value := F_b7_String_value.other W10 (Or.inl (Ne.symm ne_s__b7))
  have V_t7 := V_t7.other W10 (Ne.symm ne_s__t7)
  have O := O.wr W10 g_s_
  have K11 := K8.wr W10 (Or.inl (List.mem_of_getElem? (i := 0) rfl))
  have hk := Nat.le_trans hk (Nat.le_of_eq (Wr.size W10).symm)
  have F_s__String_coder := F_s__String_coder.same W10
  have N10 := Fr.snoc X10 N5 g_s_
  show own_Fin p e below (T10.setTop (mkF m 26 #[.val (.ref s_), .val (.ref a), .val (.int 0), .val (.int 0), .val .null, .unset] [])) _
  obtain ⟨fs, hr, hrun, hended, hE⟩ := X10.leaveW hS (Nat.le_trans hk (Nat.le_of_eq (congrArg Array.size e10).symm)) (v := none) (fun _ => rfl)
  refine ⟨_, _, ?_, hrun, hended, _, _, rfl, ?_, ?_, ⟨_, rfl⟩, hE.2.1, hE.2.2.1, hE.2.2.2.mono (by decide) (by decide)⟩
  ·exact X10.returnOut hx Bd.returns (hb hby d3_26) hr
  ·show Qsiv Z s_ a ka h0 n0 _ T10.heap _
   rw [e10]
   exact ⟨t2, kb2, rfl, N10, K11, ne_s__t2, E_s_, F_s__String_coder, F_s__String_value, V_t2⟩
  ·show CHr Z own_EL s.vm s.heap T10.vm T10.heap
   rw [hh, e10]
   exact CR.trans (CHv.at X10 hZ (own_EW hw) HC)
theorem d2_0 : decode jdk_42_method_3_code 0 = .ok (.aload_n 0, 1) := by decide +kernel
theorem d2_1 : decode jdk_42_method_3_code 1 = .ok (.aload_n 1, 1) := by decide +kernel
theorem d2_2 : decode jdk_42_method_3_code 2 = .ok (.iconst 0, 1) := by decide +kernel
theorem d2_3 : decode jdk_42_method_3_code 3 = .ok (.aload_n 1, 1) := by decide +kernel
theorem d2_4 : decode jdk_42_method_3_code 4 = .ok (.arraylength, 1) := by decide +kernel
theorem d2_5 : decode jdk_42_method_3_code 5 = .ok (.aconst_null, 1) := by decide +kernel
theorem d2_6 : decode jdk_42_method_3_code 6 = .ok (.invokespecial 27, 3) := by decide +kernel
theorem pd_0 : parseMethodDescriptor "([CIILjava/lang/Void;)V" = some ⟨[(.array .char), .int, .int, (.object "java/lang/Void")], none⟩ := by decide +kernel
theorem d2_9 : decode jdk_42_method_3_code 9 = .ok (.return_, 1) := by decide +kernel
theorem ef_sie (m : MethodId) (x0 : Addr) (x1 : Addr) : entryFrame m #[(.ref x0), (.ref x1)] 2 = mkF m 0 #[.val (.ref x0), .val (.ref x1)] [] := by first | (simp [entryFrame, mkF, argsToLocals, Value.category]; done) | rfl
def Qsie (Z : State) (s_ : Addr) (a : Addr) (ka : ClassId) (h0 : Heap) (n0 : Nat) (v : Option Value) (h : Heap) (L : List Loc) : Prop := ∃ (t_ : Addr) (kb_ : ClassId), v = none ∧ Fr n0 L ∧ Keep h0 h [s_] ∧ s_ ≠ t_ ∧ Exa Z h s_ "java/lang/String" ∧ Fld Z h s_ "java/lang/String" "coder" "B" (.int 0) ∧ Fld Z h s_ "java/lang/String" "value" "[B" (.ref t_) ∧ Arv Z h t_ kb_ .byte (0 : Int32) [] (.int 0)
set_option maxRecDepth 65536 in
set_option maxHeartbeats 40000000 in
theorem sie (l : Launch) (Z : State) (a0 : Array Value) (hw : ∀ d ∈ tables_1, d.before a0 Z = true) (ws : List Jvm.Cond) (s_ : Addr) (a : Addr) (ka : ClassId) (h0 : Heap) (n0 : Nat) (O : Old Z n0 h0) (E_s_ : Exa Z h0 s_ "java/lang/String") (F_s__String_value : Fld Z h0 s_ "java/lang/String" "value" "[B" .null) (F_s__String_coder : Fld Z h0 s_ "java/lang/String" "coder" "B" (.int 0)) (g_s_ : n0 ≤ s_) (V_a : Arv Z h0 a ka .char (0 : Int32) [] (.int 0)) (nsa : s_ ≠ a) :
    MetFree l (⟨"java/lang/String", "<init>", "([C)V"⟩ : MethodName) (head1 (Jvm.Cond.code (⟨"java/lang/String", "<init>", "([C)V"⟩ : MethodName) jdk_42_method_3_code 2 none :: ws) ({ frames := 2, cells := 4, slots := 8, locals := 29 } : Room)) (fun a' U' => a' = #[(.ref s_), (.ref a)] ∧ Z.Warmed39 U'.vm ∧ U'.heap = h0 ∧ CHv Z own_EL U'.vm h0) (fun _ _ _ _ _ => True) (fun _ U' o' W' => ∃ v' L', o' = .returned v' ∧ Qsie Z s_ a ka h0 n0 v' W'.heap L' ∧ CHr Z own_EL U'.vm U'.heap W'.vm W'.heap ∧ ReturnedEndW U' o' W' L' ({ frames := 2, cells := 4, slots := 8, locals := 29 } : Room).cells ({ frames := 2, cells := 4, slots := 8, locals := 29 } : Room).slots) := by
  refine MetFree.of_bodySF (plainFor_of_name pn_0) hisR ?_
  intro p e s m args below meth c s₁ Bd hml0 hP hK
  obtain ⟨rfl, hZ, hh, HC⟩ := hP
  have hx := Bd.exec
  have hby := Bd.bytes
  have hml : c.maxLocals = 2 := hml0
  have hown : s.vm.findClass "java/lang/String" = some m.cls := findClass_of_methodNamed Bd.named
  have hnm := (name_of_methodNamed Bd.named Bd.method).1
  have X0 : Stand p l e ({ frames := 2, cells := 4, slots := 8, locals := 29 } : Room) (s.setVm s.vm) m #[(.ref s_), (.ref a)] below meth c s₁ [] 0 0 := Stand.of_body Bd
  have e0 : s₁.heap = h0 := by rw [← hh, Bd.state]; rfl
  have N0 := Fr.nil n0
  have K0 := Keep.refl h0 [s_]
  have CR := CHr.refl HC
  have hS : s.Since s.vm h0.size := (State.WarmedH.refl s).since _
  have hk : h0.size ≤ h0.size := Nat.le_refl _
  refine own_start (ef_sie m s_ a) (Q := fun o' t' => ∃ v' L', o' = .returned v' ∧ Qsie Z s_ a ka h0 n0 v' t'.heap L' ∧ CHr Z own_EL s.vm s.heap t'.vm t'.heap ∧ ReturnedEndW s o' t' L' ({ frames := 2, cells := 4, slots := 8, locals := 29 } : Room).cells ({ frames := 2, cells := 4, slots := 8, locals := 29 } : Room).slots) ?_
  show own_Fin p e below (s₁.setTop (mkF m 0 #[.val (.ref s_), .val (.ref a)] [])) _
  refine own_go (fun _ k => XS.aloadN X0.here hx rfl (hb hby d2_0) rfl rfl (XS.aloadN X0.here hx rfl (hb hby d2_1) rfl rfl (XS.iconst X0.here hx rfl (hb hby d2_2) (XS.aloadN X0.here hx rfl (hb hby d2_3) rfl rfl k)))) ?_
  show own_Fin p e below (s₁.setTop (mkF m 4 #[.val (.ref s_), .val (.ref a)] [(.ref a), (.int 0), (.ref a), (.ref s_)])) _
  obtain ⟨cl13, A13, -, S13, M13, -, -⟩ := id V_a
  refine own_go (fun _ k => X0.arraylength hx (own_eqE e0 A13.1) (State.isArrayOf_alike hZ.alike A13.2.1) (g := (mkF m 4 #[.val (.ref s_), .val (.ref a)] [(.ref a), (.int 0), (.ref a), (.ref s_)])) rfl rfl (hb hby d2_4) _ (by rw [len_of S13 M13]; exact k)) ?_
  show own_Fin p e below (s₁.setTop (mkF m 5 #[.val (.ref s_), .val (.ref a)] [(.int 0), (.int 0), (.ref a), (.ref s_)])) _
  refine own_go (fun _ k => XS.aconstNull X0.here hx rfl (hb hby d2_5) k) ?_
  show own_Fin p e below (s₁.setTop (mkF m 6 #[.val (.ref s_), .val (.ref a)] [.null, (.int 0), (.int 0), (.ref a), (.ref s_)])) _
  obtain ⟨_, _, ⟨T14, L14, k14, n14⟩, -, X14, hS14, hg14, ⟨Lc14, hQ14, l14, y14, z14, CQ14⟩, st14⟩ := X0.specialBackS hx (y := (⟨"java/lang/String", "<init>", "([CIILjava/lang/Void;)V"⟩ : MethodName)) rfl hown (mvT hZ (ow hw 11)) (mvT hZ (ow hw 12)) (mvT hZ (ow hw 14)) (by decide) (backOfSH (W := 0) (siv l Z a0 hw [] s_ a ka h0 n0 O E_s_ F_s__String_value F_s__String_coder g_s_ V_a nsa) hZ (ow hw 14) (ow hw 6) (by decide) (by decide) (own_EW hw) HC) (g := (mkF m 6 #[.val (.ref s_), .val (.ref a)] [.null, (.int 0), (.int 0), (.ref a), (.ref s_)])) rfl (by rw [hml]; rfl) (Steps.refl _) (a := s_) (argsL := [(.ref a), (.int 0), (.int 0), .null]) (rest := []) (lenOf pd_0 rfl) rfl (by show 2 * 0 + _ ≤ _; exact Nat.le_of_eq rfl) (hb hby d2_6) (fun _ _ => ⟨rfl, e0, (by decide : 0 + 4 ≤ _), (by decide : 0 + 8 ≤ _)⟩)
  dsimp only [Pt.U, Pt.locs, Pt.cells, Pt.slots] at X14 l14 y14 z14 st14 hQ14
  subst l14 y14 z14
  obtain ⟨X14, hS, hZ, hown⟩ := rebS hS (Nat.le_trans hk (Nat.le_of_eq (congrArg Array.size e0).symm)) X14 hS14 hg14 hZ hown
  obtain ⟨t_15, kb_16, rfl, N14q, Kq14, P14_0, P14_1, P14_2, P14_3, P14_4⟩ := hQ14
  refine own_go (fun _ k => st14.trans k) ?_
  have N14 := Fr.app N0 N14q
  have CR := CR.trans CQ14
  have HC := CQ14.1
  have E_s_ := E_s_.keep Kq14
  clear F_s__String_value
  clear F_s__String_coder
  have V_a := V_a.keep Kq14 (ninS (Ne.symm nsa) nin0)
  have O := O.keep Kq14 (allS g_s_ all0)
  have K17 := K0.trans Kq14 (allS (Or.inl (List.mem_of_getElem? (i := 0) rfl)) all0)
  have hk := Nat.le_refl T14.heap.size
  have E_s_ := P14_1
  have F_s__String_coder := P14_2
  have F_s__String_value := P14_3
  have V_t_15 := P14_4
  show own_Fin p e below (T14.setTop (mkF m 9 #[.val (.ref s_), .val (.ref a)] [])) _
  obtain ⟨fs, hr, hrun, hended, hE⟩ := X14.leaveW hS hk (v := none) (fun _ => rfl)
  refine ⟨_, _, ?_, hrun, hended, _, _, rfl, ?_, ?_, ⟨_, rfl⟩, hE.2.1, hE.2.2.1, hE.2.2.2.mono (by decide) (by decide)⟩
  ·exact X14.returnOut hx Bd.returns (hb hby d2_9) hr
  ·show Qsie Z s_ a ka h0 n0 _ T14.heap _
   exact ⟨t_15, kb_16, rfl, N14, K17, P14_0, E_s_, F_s__String_coder, F_s__String_value, V_t_15⟩
  ·show CHr Z own_EL s.vm s.heap T14.vm T14.heap
   rw [hh]
   exact CR.trans (CHv.at X14 hZ (own_EW hw) HC)
theorem d13_0 : decode jdk_43_method_3_code 0 = .ok (.iload_n 0, 1) := by decide +kernel
theorem d13_1 : decode jdk_43_method_3_code 1 = .ok (.sipush 255, 3) := by decide +kernel
theorem d13_4 : decode jdk_43_method_3_code 4 = .ok (.if_icmp .gt 7, 3) := by decide +kernel
theorem d13_7 : decode jdk_43_method_3_code 7 = .ok (.iconst 1, 1) := by decide +kernel
theorem d13_8 : decode jdk_43_method_3_code 8 = .ok (.goto 4, 3) := by decide +kernel
theorem d13_12 : decode jdk_43_method_3_code 12 = .ok (.ireturn, 1) := by decide +kernel
theorem pn_1 : plainName "java/lang/StringLatin1" = true := by first | (simp [plainName, overriddenIn]; done) | decide +kernel
theorem ef_cen (m : MethodId) (x0 : Int32) : entryFrame m #[(.int x0)] 1 = mkF m 0 #[.val (.int x0)] [] := by first | (simp [entryFrame, mkF, argsToLocals, Value.category]; done) | rfl
def Qcen (Z : State) (c_ : Int32) (h0 : Heap) (n0 : Nat) (v : Option Value) (h : Heap) (L : List Loc) : Prop := v = some (.int 1) ∧ Fr n0 L ∧ h = h0
set_option maxRecDepth 65536 in
set_option maxHeartbeats 40000000 in
theorem cen (l : Launch) (Z : State) (a0 : Array Value) (hw : ∀ d ∈ tables_1, d.before a0 Z = true) (ws : List Jvm.Cond) (c_ : Int32) (h0 : Heap) (n0 : Nat) (hce : ¬ ((255 : Int32) < c_)) :
    MetFree l (⟨"java/lang/StringLatin1", "canEncode", "(C)Z"⟩ : MethodName) (head1 (Jvm.Cond.code (⟨"java/lang/StringLatin1", "canEncode", "(C)Z"⟩ : MethodName) jdk_43_method_3_code 1 (some .boolean) :: ws) ({ frames := 0, cells := 0, slots := 0, locals := 0 } : Room)) (fun a' U' => a' = #[(.int c_)] ∧ Z.Warmed39 U'.vm ∧ U'.heap = h0) (fun _ _ _ _ _ => True) (fun _ U' o' W' => ∃ v' L', o' = .returned v' ∧ Qcen Z c_ h0 n0 v' W'.heap L' ∧ FrameEnd U' o' W' L' ({ frames := 0, cells := 0, slots := 0, locals := 0 } : Room).cells ({ frames := 0, cells := 0, slots := 0, locals := 0 } : Room).slots) := by
  refine MetFree.of_bodySF (plainFor_of_name pn_1) hisR ?_
  intro p e s m args below meth c s₁ Bd hml0 hP hK
  obtain ⟨rfl, hZ, hh⟩ := hP
  have hx := Bd.exec
  have hby := Bd.bytes
  have hml : c.maxLocals = 1 := hml0
  have hown : s.vm.findClass "java/lang/StringLatin1" = some m.cls := findClass_of_methodNamed Bd.named
  have hnm := (name_of_methodNamed Bd.named Bd.method).1
  have X0 : Stand p l e ({ frames := 0, cells := 0, slots := 0, locals := 0 } : Room) s m #[(.int c_)] below meth c s₁ [] 0 0 := Stand.of_body Bd
  have e0 : s₁.heap = h0 := by rw [← hh, Bd.state]; rfl
  have N0 := Fr.nil n0
  refine own_start (ef_cen m c_) (Q := fun o' t' => ∃ v' L', o' = .returned v' ∧ Qcen Z c_ h0 n0 v' t'.heap L' ∧ FrameEnd s o' t' L' ({ frames := 0, cells := 0, slots := 0, locals := 0 } : Room).cells ({ frames := 0, cells := 0, slots := 0, locals := 0 } : Room).slots) ?_
  show own_Fin p e below (s₁.setTop (mkF m 0 #[.val (.int c_)] [])) _
  refine own_go (fun _ k => XS.iloadN X0.here hx rfl (hb hby d13_0) rfl (XS.sipush X0.here hx rfl (hb hby d13_1) (XS.icmpNo X0.here hx rfl (hb hby d13_4) rfl (flt hce).2.2.1 (XS.iconst X0.here hx rfl (hb hby d13_7) (XS.goto X0.here hx rfl (pc0 := 8) (pc' := 12) rfl (hb hby d13_8) (by decide) (by decide) k))))) ?_
  show own_Fin p e below (s₁.setTop (mkF m 12 #[.val (.int c_)] [(.int 1)])) _
  obtain ⟨fs, hr, hrun, hended, hW, hsame⟩ := X0.leave (v := some (.int 1)) (fun h => by rw [Bd.returns] at h; cases h)
  refine ⟨_, _, ?_, hrun, hended, _, _, rfl, ?_, ⟨_, rfl⟩, hW, hsame.mono (by decide) (by decide)⟩
  ·exact retN X0 hx (t := .boolean) Bd.returns (by simp) (hb hby d13_12) hr
  ·show Qcen Z c_ h0 n0 _ s₁.heap _
   rw [e0]
   exact ⟨rfl, N0, rfl⟩
theorem d14_0 : decode jdk_43_method_46_code 0 = .ok (.iconst 1, 1) := by decide +kernel
theorem d14_1 : decode jdk_43_method_46_code 1 = .ok (.newarray .byte, 2) := by decide +kernel
theorem d14_3 : decode jdk_43_method_46_code 3 = .ok (.dup, 1) := by decide +kernel
theorem d14_4 : decode jdk_43_method_46_code 4 = .ok (.iconst 0, 1) := by decide +kernel
theorem d14_5 : decode jdk_43_method_46_code 5 = .ok (.iload_n 0, 1) := by decide +kernel
theorem d14_6 : decode jdk_43_method_46_code 6 = .ok (.i2b, 1) := by decide +kernel
theorem d14_7 : decode jdk_43_method_46_code 7 = .ok (.bastore, 1) := by decide +kernel
theorem d14_8 : decode jdk_43_method_46_code 8 = .ok (.areturn, 1) := by decide +kernel
theorem ef_tob (m : MethodId) (x0 : Int32) : entryFrame m #[(.int x0)] 1 = mkF m 0 #[.val (.int x0)] [] := by first | (simp [entryFrame, mkF, argsToLocals, Value.category]; done) | rfl
def Qtob (Z : State) (c_ : Int32) (h0 : Heap) (n0 : Nat) (v : Option Value) (h : Heap) (L : List Loc) : Prop := ∃ (b_ : Addr) (k_ : ClassId), v = some (.ref b_) ∧ Fr n0 L ∧ Keep h0 h [] ∧ h0.size ≤ b_ ∧ Arv Z h b_ k_ .byte (1 : Int32) [(.int (nar .byte (c_.toInt8.toInt32)))] (.int 0)
set_option maxRecDepth 65536 in
set_option maxHeartbeats 40000000 in
theorem tob (l : Launch) (Z : State) (a0 : Array Value) (hw : ∀ d ∈ tables_1, d.before a0 Z = true) (ws : List Jvm.Cond) (c_ : Int32) (h0 : Heap) (n0 : Nat) (O : Old Z n0 h0) :
    MetFree l (⟨"java/lang/StringLatin1", "toBytes", "(C)[B"⟩ : MethodName) (head1 (Jvm.Cond.code (⟨"java/lang/StringLatin1", "toBytes", "(C)[B"⟩ : MethodName) jdk_43_method_46_code 1 (some (.array .byte)) :: ws) ({ frames := 0, cells := 1, slots := 1, locals := 0 } : Room)) (fun a' U' => a' = #[(.int c_)] ∧ Z.Warmed39 U'.vm ∧ U'.heap = h0) (fun _ _ _ _ _ => True) (fun _ U' o' W' => ∃ v' L', o' = .returned v' ∧ Qtob Z c_ h0 n0 v' W'.heap L' ∧ FrameEnd U' o' W' L' ({ frames := 0, cells := 1, slots := 1, locals := 0 } : Room).cells ({ frames := 0, cells := 1, slots := 1, locals := 0 } : Room).slots) := by
  refine MetFree.of_bodySF (plainFor_of_name pn_1) hisR ?_
  intro p e s m args below meth c s₁ Bd hml0 hP hK
  obtain ⟨rfl, hZ, hh⟩ := hP
  have hx := Bd.exec
  have hby := Bd.bytes
  have hml : c.maxLocals = 1 := hml0
  have hown : s.vm.findClass "java/lang/StringLatin1" = some m.cls := findClass_of_methodNamed Bd.named
  have hnm := (name_of_methodNamed Bd.named Bd.method).1
  have X0 : Stand p l e ({ frames := 0, cells := 1, slots := 1, locals := 0 } : Room) s m #[(.int c_)] below meth c s₁ [] 0 0 := Stand.of_body Bd
  have e0 : s₁.heap = h0 := by rw [← hh, Bd.state]; rfl
  have N0 := Fr.nil n0
  have K0 := Keep.refl h0 []
  refine own_start (ef_tob m c_) (Q := fun o' t' => ∃ v' L', o' = .returned v' ∧ Qtob Z c_ h0 n0 v' t'.heap L' ∧ FrameEnd s o' t' L' ({ frames := 0, cells := 1, slots := 1, locals := 0 } : Room).cells ({ frames := 0, cells := 1, slots := 1, locals := 0 } : Room).slots) ?_
  show own_Fin p e below (s₁.setTop (mkF m 0 #[.val (.int c_)] [])) _
  refine own_go (fun _ k => XS.iconst X0.here hx rfl (hb hby d14_0) k) ?_
  show own_Fin p e below (s₁.setTop (mkF m 1 #[.val (.int c_)] [(.int 1)])) _
  obtain ⟨T20, h20, k20, X20, e20, E20, A20, st20⟩ := newP X0 hx hZ (ow hw 19) e0 (g := (mkF m 1 #[.val (.int c_)] [(.int 1)])) rfl (hb hby d14_1) rfl (by decide) (cap := 1) (by decide) (by decide) (by decide) (by decide)
  obtain ⟨b20, g20⟩ : ∃ z, z = h0.size := ⟨_, rfl⟩
  rw [← g20] at A20 st20
  refine own_go (fun _ k => st20 _ k) ?_
  have g_b20 : n0 ≤ b20 := Nat.le_trans (own_osz O) (Nat.le_of_eq g20.symm)
  have sz_b20 : h0.size ≤ b20 := Nat.le_trans K0.1 (Nat.le_of_eq g20.symm)
  have O := O.ext E20
  have K21 := K0.ext E20
  have V_b20 : Arv Z h20 b20 k20 .byte (1 : Int32) [(.int 0)] (.int 0) := (Arv.new A20 (by decide)).pad (pad_rep [] (.int 0) 1)
  show own_Fin p e below (T20.setTop (mkF m 3 #[.val (.int c_)] [(.ref b20)])) _
  refine own_go (fun _ k => XS.dup X20.here hx rfl (hb hby d14_3) rfl rfl (XS.iconst X20.here hx rfl (hb hby d14_4) (XS.iloadN X20.here hx rfl (hb hby d14_5) rfl (XS.i2b X20.here hx rfl (hb hby d14_6) rfl k)))) ?_
  show own_Fin p e below (T20.setTop (mkF m 7 #[.val (.int c_)] [(.int (c_.toInt8.toInt32)), (.int 0), (.ref b20), (.ref b20)])) _
  obtain ⟨cl22, A22, q22, S22, M22, H22, G22⟩ := id V_b20
  have hin22 : ¬ ((0 : Int32) < 0 ∨ cl22.slots.size ≤ ((0 : Int32)).toNatClampNeg) := inb_of S22 ⟨by decide, by decide⟩
  obtain ⟨T22, h22, X22, e22, W22, st22⟩ := stB X20 hx hZ e20 A22 (j := (0 : Int32)) hin22 (g := (mkF m 7 #[.val (.int c_)] [(.int (c_.toInt8.toInt32)), (.int 0), (.ref b20), (.ref b20)])) rfl rfl (hb hby d14_7)
  refine own_go (fun _ k => st22 _ k) ?_
  have O := O.wr W22 g_b20
  have K23 := K21.wr W22 (Or.inr sz_b20)
  have V_b20 : Arv Z h22 b20 k20 .byte (1 : Int32) [(.int (nar .byte (c_.toInt8.toInt32)))] (.int 0) := Arv.set A22 q22 S22 M22 H22 G22 (fits_nar_byte _) W22 0 rfl (Nat.le_of_ble_eq_true rfl)
  have N22 := Fr.snoc X22 N0 g_b20
  show own_Fin p e below (T22.setTop (mkF m 8 #[.val (.int c_)] [(.ref b20)])) _
  obtain ⟨fs, hr, hrun, hended, hW, hsame⟩ := X22.leave (v := some (.ref b20)) (fun h => by rw [Bd.returns] at h; cases h)
  refine ⟨_, _, ?_, hrun, hended, _, _, rfl, ?_, ⟨_, rfl⟩, hW, hsame.mono (by decide) (by decide)⟩
  ·exact X22.areturnOut hx rfl Bd.returns rfl (hb hby d14_8) hr
  ·show Qtob Z c_ h0 n0 _ T22.heap _
   rw [e22]
   exact ⟨b20, k20, rfl, N22, K23, sz_b20, V_b20⟩
theorem d15_0 : decode jdk_42_method_151_code 0 = .ok (.aload_n 0, 1) := by decide +kernel
theorem d15_1 : decode jdk_42_method_151_code 1 = .ok (.invokespecial 1, 3) := by decide +kernel
theorem d15_4 : decode jdk_42_method_151_code 4 = .ok (.aload_n 0, 1) := by decide +kernel
theorem d15_5 : decode jdk_42_method_151_code 5 = .ok (.aload_n 1, 1) := by decide +kernel
theorem d15_6 : decode jdk_42_method_151_code 6 = .ok (.putfield 9, 3) := by decide +kernel
theorem d15_9 : decode jdk_42_method_151_code 9 = .ok (.aload_n 0, 1) := by decide +kernel
theorem d15_10 : decode jdk_42_method_151_code 10 = .ok (.iload_n 2, 1) := by decide +kernel
theorem d15_11 : decode jdk_42_method_151_code 11 = .ok (.putfield 15, 3) := by decide +kernel
theorem d15_14 : decode jdk_42_method_151_code 14 = .ok (.return_, 1) := by decide +kernel
theorem ef_sbb (m : MethodId) (x0 : Addr) (x1 : Addr) (x2 : Int32) : entryFrame m #[(.ref x0), (.ref x1), (.int x2)] 3 = mkF m 0 #[.val (.ref x0), .val (.ref x1), .val (.int x2)] [] := by first | (simp [entryFrame, mkF, argsToLocals, Value.category]; done) | rfl
def Qsbb (Z : State) (s_ : Addr) (t_ : Addr) (h0 : Heap) (n0 : Nat) (v : Option Value) (h : Heap) (L : List Loc) : Prop := v = none ∧ Fr n0 L ∧ Keep h0 h [s_] ∧ Exa Z h s_ "java/lang/String" ∧ Fld Z h s_ "java/lang/String" "coder" "B" (.int 0) ∧ Fld Z h s_ "java/lang/String" "value" "[B" (.ref t_)
set_option maxRecDepth 65536 in
set_option maxHeartbeats 40000000 in
theorem sbb (l : Launch) (Z : State) (a0 : Array Value) (hw : ∀ d ∈ tables_1, d.before a0 Z = true) (ws : List Jvm.Cond) (s_ : Addr) (t_ : Addr) (h0 : Heap) (n0 : Nat) (O : Old Z n0 h0) (E_s_ : Exa Z h0 s_ "java/lang/String") (F_s__String_value : Fld Z h0 s_ "java/lang/String" "value" "[B" .null) (F_s__String_coder : Fld Z h0 s_ "java/lang/String" "coder" "B" (.int 0)) (g_s_ : n0 ≤ s_) :
    MetFree l (⟨"java/lang/String", "<init>", "([BB)V"⟩ : MethodName) (head1 (Jvm.Cond.code (⟨"java/lang/String", "<init>", "([BB)V"⟩ : MethodName) jdk_42_method_151_code 3 none :: ws) ({ frames := 1, cells := 0, slots := 0, locals := 12 } : Room)) (fun a' U' => a' = #[(.ref s_), (.ref t_), (.int 0)] ∧ Z.Warmed39 U'.vm ∧ U'.heap = h0) (fun _ _ _ _ _ => True) (fun _ U' o' W' => ∃ v' L', o' = .returned v' ∧ Qsbb Z s_ t_ h0 n0 v' W'.heap L' ∧ FrameEnd U' o' W' L' ({ frames := 1, cells := 0, slots := 0, locals := 12 } : Room).cells ({ frames := 1, cells := 0, slots := 0, locals := 12 } : Room).slots) := by
  refine MetFree.of_bodySF (plainFor_of_name pn_0) hisR ?_
  intro p e s m args below meth c s₁ Bd hml0 hP hK
  obtain ⟨rfl, hZ, hh⟩ := hP
  have hx := Bd.exec
  have hby := Bd.bytes
  have hml : c.maxLocals = 3 := hml0
  have hown : s.vm.findClass "java/lang/String" = some m.cls := findClass_of_methodNamed Bd.named
  have hnm := (name_of_methodNamed Bd.named Bd.method).1
  have X0 : Stand p l e ({ frames := 1, cells := 0, slots := 0, locals := 12 } : Room) s m #[(.ref s_), (.ref t_), (.int 0)] below meth c s₁ [] 0 0 := Stand.of_body Bd
  have e0 : s₁.heap = h0 := by rw [← hh, Bd.state]; rfl
  have N0 := Fr.nil n0
  have K0 := Keep.refl h0 [s_]
  refine own_start (ef_sbb m s_ t_ (0 : Int32)) (Q := fun o' t' => ∃ v' L', o' = .returned v' ∧ Qsbb Z s_ t_ h0 n0 v' t'.heap L' ∧ FrameEnd s o' t' L' ({ frames := 1, cells := 0, slots := 0, locals := 12 } : Room).cells ({ frames := 1, cells := 0, slots := 0, locals := 12 } : Room).slots) ?_
  show own_Fin p e below (s₁.setTop (mkF m 0 #[.val (.ref s_), .val (.ref t_), .val (.int 0)] [])) _
  refine own_go (fun _ k => XS.aloadN X0.here hx rfl (hb hby d15_0) rfl rfl k) ?_
  show own_Fin p e below (s₁.setTop (mkF m 1 #[.val (.ref s_), .val (.ref t_), .val (.int 0)] [(.ref s_)])) _
  obtain ⟨T25, X25, e25, st25⟩ := initO X0 hx hZ hown (ow hw 15) (ow hw 16) (ow hw 17) e0 (g := (mkF m 1 #[.val (.ref s_), .val (.ref t_), .val (.int 0)] [(.ref s_)])) rfl (by rw [hml]; rfl) rfl (hb hby d15_1) (by decide) (W := 0) (by show 2 * 0 + _ ≤ _; exact Nat.le_of_eq rfl) (by decide)
  refine own_go (fun _ k => st25 _ k) ?_
  show own_Fin p e below (T25.setTop (mkF m 4 #[.val (.ref s_), .val (.ref t_), .val (.int 0)] [])) _
  refine own_go (fun _ k => XS.aloadN X25.here hx rfl (hb hby d15_4) rfl rfl (XS.aloadN X25.here hx rfl (hb hby d15_5) rfl rfl k)) ?_
  show own_Fin p e below (T25.setTop (mkF m 6 #[.val (.ref s_), .val (.ref t_), .val (.int 0)] [(.ref t_), (.ref s_)])) _
  obtain ⟨T26, h26, X26, e26, W26, st26⟩ := putF X25 hx hZ hown (host := "") (Or.inl (ow hw 24)) Via.refl e25 F_s__String_value E_s_ (Or.inr ⟨(ow hw 20), rfl, hnm⟩) (ow hw 5) (ty := (.array .byte)) (by decide) rfl rfl (g := (mkF m 6 #[.val (.ref s_), .val (.ref t_), .val (.int 0)] [(.ref t_), (.ref s_)])) rfl rfl (hb hby d15_6)
  refine own_go (fun _ k => st26 _ k) ?_
  have E_s_ := E_s_.wr W26
  have F_s__String_coder := F_s__String_coder.other W26 (Or.inr (slot_ne (Or.inr (ow hw 21)) (Or.inr (ow hw 20)) (by decide) (t := .byte) (t' := (.array .byte)) (by decide) (by decide)))
  have O := O.wr W26 g_s_
  have K27 := K0.wr W26 (Or.inl (List.mem_of_getElem? (i := 0) rfl))
  have F_s__String_value := F_s__String_value.same W26
  have N26 := Fr.snoc X26 N0 g_s_
  show own_Fin p e below (T26.setTop (mkF m 9 #[.val (.ref s_), .val (.ref t_), .val (.int 0)] [])) _
  refine own_go (fun _ k => XS.aloadN X26.here hx rfl (hb hby d15_9) rfl rfl (XS.iloadN X26.here hx rfl (hb hby d15_10) rfl k)) ?_
  show own_Fin p e below (T26.setTop (mkF m 11 #[.val (.ref s_), .val (.ref t_), .val (.int 0)] [(.int 0), (.ref s_)])) _
  obtain ⟨T28, h28, X28, e28, W28, st28⟩ := putF X26 hx hZ hown (host := "") (Or.inl (ow hw 25)) Via.refl e26 F_s__String_coder E_s_ (Or.inr ⟨(ow hw 21), rfl, hnm⟩) (ow hw 5) (ty := .byte) (by decide) rfl rfl (g := (mkF m 11 #[.val (.ref s_), .val (.ref t_), .val (.int 0)] [(.int 0), (.ref s_)])) rfl rfl (hb hby d15_11)
  refine own_go (fun _ k => st28 _ k) ?_
  have E_s_ := E_s_.wr W28
  have F_s__String_value := F_s__String_value.other W28 (Or.inr (slot_ne (Or.inr (ow hw 20)) (Or.inr (ow hw 21)) (by decide) (t := (.array .byte)) (t' := .byte) (by decide) (by decide)))
  have O := O.wr W28 g_s_
  have K29 := K27.wr W28 (Or.inl (List.mem_of_getElem? (i := 0) rfl))
  have F_s__String_coder := F_s__String_coder.same W28
  have N28 := Fr.snoc X28 N26 g_s_
  show own_Fin p e below (T28.setTop (mkF m 14 #[.val (.ref s_), .val (.ref t_), .val (.int 0)] [])) _
  obtain ⟨fs, hr, hrun, hended, hW, hsame⟩ := X28.leave (v := none) (fun _ => rfl)
  refine ⟨_, _, ?_, hrun, hended, _, _, rfl, ?_, ⟨_, rfl⟩, hW, hsame.mono (by decide) (by decide)⟩
  ·exact X28.returnOut hx Bd.returns (hb hby d15_14) hr
  ·show Qsbb Z s_ t_ h0 n0 _ T28.heap _
   rw [e28]
   exact ⟨rfl, N28, K29, E_s_, F_s__String_coder, F_s__String_value⟩
theorem d12_0 : decode jdk_42_method_139_code 0 = .ok (.getstatic 38, 3) := by decide +kernel
theorem d12_3 : decode jdk_42_method_139_code 3 = .ok (.ifCond .eq 23, 3) := by decide +kernel
theorem d12_6 : decode jdk_42_method_139_code 6 = .ok (.iload_n 0, 1) := by decide +kernel
theorem d12_7 : decode jdk_42_method_139_code 7 = .ok (.invokestatic 1015, 3) := by decide +kernel
theorem pd_1 : parseMethodDescriptor "(C)Z" = some ⟨[.char], some .boolean⟩ := by decide +kernel
theorem d12_10 : decode jdk_42_method_139_code 10 = .ok (.ifCond .eq 16, 3) := by decide +kernel
theorem d12_13 : decode jdk_42_method_139_code 13 = .ok (.new 10, 3) := by decide +kernel
theorem d12_16 : decode jdk_42_method_139_code 16 = .ok (.dup, 1) := by decide +kernel
theorem d12_17 : decode jdk_42_method_139_code 17 = .ok (.iload_n 0, 1) := by decide +kernel
theorem d12_18 : decode jdk_42_method_139_code 18 = .ok (.invokestatic 1018, 3) := by decide +kernel
theorem pd_2 : parseMethodDescriptor "(C)[B" = some ⟨[.char], some (.array .byte)⟩ := by decide +kernel
theorem d12_21 : decode jdk_42_method_139_code 21 = .ok (.iconst 0, 1) := by decide +kernel
theorem d12_22 : decode jdk_42_method_139_code 22 = .ok (.invokespecial 209, 3) := by decide +kernel
theorem pd_3 : parseMethodDescriptor "([BB)V" = some ⟨[(.array .byte), .byte], none⟩ := by decide +kernel
theorem d12_25 : decode jdk_42_method_139_code 25 = .ok (.areturn, 1) := by decide +kernel
theorem ef_vof (m : MethodId) (x0 : Int32) : entryFrame m #[(.int x0)] 1 = mkF m 0 #[.val (.int x0)] [] := by first | (simp [entryFrame, mkF, argsToLocals, Value.category]; done) | rfl
def Qvof (Z : State) (c_ : Int32) (z : Int32) (h0 : Heap) (n0 : Nat) (v : Option Value) (h : Heap) (L : List Loc) : Prop := ∃ (s_ : Addr) (t_ : Addr) (kb_ : ClassId), v = some (.ref s_) ∧ Fr n0 L ∧ Keep h0 h [] ∧ h0.size ≤ s_ ∧ s_ ≠ t_ ∧ Exa Z h s_ "java/lang/String" ∧ Fld Z h s_ "java/lang/String" "coder" "B" (.int 0) ∧ Fld Z h s_ "java/lang/String" "value" "[B" (.ref t_) ∧ Arv Z h t_ kb_ .byte (1 : Int32) [(.int (nar .byte (c_.toInt8.toInt32)))] (.int 0)
set_option maxRecDepth 65536 in
set_option maxHeartbeats 40000000 in
theorem vof (l : Launch) (Z : State) (a0 : Array Value) (hw : ∀ d ∈ tables_1, d.before a0 Z = true) (ws : List Jvm.Cond) (c_ : Int32) (z : Int32) (h0 : Heap) (n0 : Nat) (O : Old Z n0 h0) (S_String_COMPACT_STRINGS : Sta Z Z.heap "java/lang/String" "COMPACT_STRINGS" "Z" (.int z)) (hz : ¬ (z = (0 : Int32))) (hce : ¬ ((255 : Int32) < c_)) :
    MetFree l (⟨"java/lang/String", "valueOf", "(C)Ljava/lang/String;"⟩ : MethodName) (head1 (Jvm.Cond.code (⟨"java/lang/String", "valueOf", "(C)Ljava/lang/String;"⟩ : MethodName) jdk_42_method_139_code 1 (some (.object "java/lang/String")) :: ws) ({ frames := 2, cells := 2, slots := 5, locals := 27 } : Room)) (fun a' U' => a' = #[(.int c_)] ∧ Z.Warmed39 U'.vm ∧ U'.heap = h0) (fun _ _ _ _ _ => True) (fun _ U' o' W' => ∃ v' L', o' = .returned v' ∧ Qvof Z c_ z h0 n0 v' W'.heap L' ∧ FrameEnd U' o' W' L' ({ frames := 2, cells := 2, slots := 5, locals := 27 } : Room).cells ({ frames := 2, cells := 2, slots := 5, locals := 27 } : Room).slots) := by
  refine MetFree.of_bodySF (plainFor_of_name pn_0) hisR ?_
  intro p e s m args below meth c s₁ Bd hml0 hP hK
  obtain ⟨rfl, hZ, hh⟩ := hP
  have hx := Bd.exec
  have hby := Bd.bytes
  have hml : c.maxLocals = 1 := hml0
  have hown : s.vm.findClass "java/lang/String" = some m.cls := findClass_of_methodNamed Bd.named
  have hnm := (name_of_methodNamed Bd.named Bd.method).1
  have X0 : Stand p l e ({ frames := 2, cells := 2, slots := 5, locals := 27 } : Room) s m #[(.int c_)] below meth c s₁ [] 0 0 := Stand.of_body Bd
  have e0 : s₁.heap = h0 := by rw [← hh, Bd.state]; rfl
  have N0 := Fr.nil n0
  have K0 := Keep.refl h0 []
  refine own_start (ef_vof m c_) (Q := fun o' t' => ∃ v' L', o' = .returned v' ∧ Qvof Z c_ z h0 n0 v' t'.heap L' ∧ FrameEnd s o' t' L' ({ frames := 2, cells := 2, slots := 5, locals := 27 } : Room).cells ({ frames := 2, cells := 2, slots := 5, locals := 27 } : Room).slots) ?_
  show own_Fin p e below (s₁.setTop (mkF m 0 #[.val (.int c_)] [])) _
  obtain ⟨T31, X31, e31, st31⟩ := getS2 X0 hx hZ hown (host := "") (Or.inl (ow hw 50)) Via.refl e0 (S_String_COMPACT_STRINGS.ext O.2) (g := (mkF m 0 #[.val (.int c_)] [])) rfl (hb hby d12_0)
  refine own_go (fun _ k => st31 _ k) ?_
  show own_Fin p e below (T31.setTop (mkF m 3 #[.val (.int c_)] [(.int z)])) _
  refine own_go (fun _ k => XS.ifNo X31.here hx rfl (hb hby d12_3) rfl ((if0 _ _).trans (feq hz).1) (XS.iloadN X31.here hx rfl (hb hby d12_6) rfl k)) ?_
  show own_Fin p e below (T31.setTop (mkF m 7 #[.val (.int c_)] [(.int c_)])) _
  obtain ⟨_, _, ⟨T32, L32, k32, n32⟩, -, X32, ⟨Lc32, hQ32, l32, y32, z32⟩, st32⟩ := Jvm.LawKit.callS X31 hx (y := (⟨"java/lang/StringLatin1", "canEncode", "(C)Z"⟩ : MethodName)) hown (mvT hZ (ow hw 68)) (mvT hZ (ow hw 69)) (mvT hZ (ow hw 53)) (mvT hZ (ow hw 70)) (by decide) (backOf (W := 0) (cen l Z a0 hw [] c_ h0 n0 hce) hZ (ow hw 70) (ow hw 53) (by decide) (by decide)) (g := (mkF m 7 #[.val (.int c_)] [(.int c_)])) rfl (by rw [hml]; rfl) (argsL := [(.int c_)]) (rest := []) (lenOf pd_1 rfl) rfl (by show 2 * 0 + _ ≤ _; exact Nat.le_of_eq rfl) (hb hby d12_7) (fun _ _ => ⟨rfl, e31, (by decide : 0 + 0 ≤ _), (by decide : 0 + 0 ≤ _)⟩)
  dsimp only [Pt.U, Pt.locs, Pt.cells, Pt.slots] at X32 l32 y32 z32 st32 hQ32
  subst l32 y32 z32
  obtain ⟨rfl, N32q, e32⟩ := hQ32
  refine own_go (fun _ k => st32 _ k) ?_
  have N32 := Fr.app N0 N32q
  show own_Fin p e below (T32.setTop (mkF m 10 #[.val (.int c_)] [(.int 1)])) _
  refine own_go (fun _ k => XS.ifNo X32.here hx rfl (hb hby d12_10) rfl ((if0 _ _).trans (feq (by decide : ¬ ((1 : Int32) = (0 : Int32)))).1) k) ?_
  show own_Fin p e below (T32.setTop (mkF m 13 #[.val (.int c_)] [])) _
  obtain ⟨T33, h33, X33, e33, E33, A33, D33, -, st33⟩ := newO X32 hx hZ hown (ow hw 49) (ow hw 5) (ow hw 6) e32 (g := (mkF m 13 #[.val (.int c_)] [])) rfl (hb hby d12_13) (by decide) (by decide)
  obtain ⟨b33, g33⟩ : ∃ z, z = h0.size := ⟨_, rfl⟩
  rw [← g33] at A33 D33 st33
  refine own_go (fun _ k => st33 _ k) ?_
  have g_b33 : n0 ≤ b33 := Nat.le_trans (own_osz O) (Nat.le_of_eq g33.symm)
  have sz_b33 : h0.size ≤ b33 := Nat.le_trans K0.1 (Nat.le_of_eq g33.symm)
  have O := O.ext E33
  have K34 := K0.ext E33
  have E_b33 := A33
  have F_b33_String_value : Fld Z h33 b33 "java/lang/String" "value" "[B" .null := D33 (Or.inr (ow hw 20)) (ty := (.array .byte)) (by decide)
  have F_b33_String_coder : Fld Z h33 b33 "java/lang/String" "coder" "B" (.int 0) := D33 (Or.inr (ow hw 21)) (ty := .byte) (by decide)
  show own_Fin p e below (T33.setTop (mkF m 16 #[.val (.int c_)] [(.ref b33)])) _
  refine own_go (fun _ k => XS.dup X33.here hx rfl (hb hby d12_16) rfl rfl (XS.iloadN X33.here hx rfl (hb hby d12_17) rfl k)) ?_
  show own_Fin p e below (T33.setTop (mkF m 18 #[.val (.int c_)] [(.int c_), (.ref b33), (.ref b33)])) _
  obtain ⟨_, _, ⟨T35, L35, k35, n35⟩, -, X35, ⟨Lc35, hQ35, l35, y35, z35⟩, st35⟩ := Jvm.LawKit.callS X33 hx (y := (⟨"java/lang/StringLatin1", "toBytes", "(C)[B"⟩ : MethodName)) hown (mvT hZ (ow hw 71)) (mvT hZ (ow hw 72)) (mvT hZ (ow hw 53)) (mvT hZ (ow hw 73)) (by decide) (backOf (W := 2) (tob l Z a0 hw [] c_ h33 n0 O ) hZ (ow hw 73) (ow hw 53) (by decide) (by decide)) (g := (mkF m 18 #[.val (.int c_)] [(.int c_), (.ref b33), (.ref b33)])) rfl (by rw [hml]; rfl) (argsL := [(.int c_)]) (rest := [(.ref b33), (.ref b33)]) (lenOf pd_2 rfl) rfl (by show 2 * 0 + _ ≤ _; exact Nat.le_of_eq rfl) (hb hby d12_18) (fun _ _ => ⟨rfl, e33, (by decide : 1 + 1 ≤ _), (by decide : 4 + 1 ≤ _)⟩)
  dsimp only [Pt.U, Pt.locs, Pt.cells, Pt.slots] at X35 l35 y35 z35 st35 hQ35
  subst l35 y35 z35
  obtain ⟨b_36, k_37, rfl, N35q, Kq35, P35_0, P35_1⟩ := hQ35
  refine own_go (fun _ k => st35 _ k) ?_
  have N35 := Fr.app N32 N35q
  have ne_b33_b_36 : b33 ≠ b_36 := Nat.ne_of_lt (Nat.lt_of_lt_of_le E_b33.lt P35_0)
  have g_b_36 : n0 ≤ b_36 := Nat.le_trans (own_osz O) P35_0
  have sz_b_36 : h0.size ≤ b_36 := Nat.le_trans K34.1 P35_0
  have E_b33 := E_b33.keep Kq35
  have F_b33_String_value := F_b33_String_value.keep Kq35 nin0
  have F_b33_String_coder := F_b33_String_coder.keep Kq35 nin0
  have O := O.keep Kq35 all0
  have K38 := K34.trans Kq35 all0
  have V_b_36 := P35_1
  show own_Fin p e below (T35.setTop (mkF m 21 #[.val (.int c_)] [(.ref b_36), (.ref b33), (.ref b33)])) _
  refine own_go (fun _ k => XS.iconst X35.here hx rfl (hb hby d12_21) k) ?_
  show own_Fin p e below (T35.setTop (mkF m 22 #[.val (.int c_)] [(.int 0), (.ref b_36), (.ref b33), (.ref b33)])) _
  obtain ⟨_, _, ⟨T39, L39, k39, n39⟩, -, X39, ⟨Lc39, hQ39, l39, y39, z39⟩, st39⟩ := X35.specialBack hx (y := (⟨"java/lang/String", "<init>", "([BB)V"⟩ : MethodName)) rfl hown (mvT hZ (ow hw 74)) (mvT hZ (ow hw 75)) (mvT hZ (ow hw 76)) (by decide) (backOf (W := 1) (sbb l Z a0 hw [] b33 b_36 (T35.heap) n0 O E_b33 F_b33_String_value F_b33_String_coder g_b33) hZ (ow hw 76) (ow hw 6) (by decide) (by decide)) (g := (mkF m 22 #[.val (.int c_)] [(.int 0), (.ref b_36), (.ref b33), (.ref b33)])) rfl (by rw [hml]; rfl) (Steps.refl _) (a := b33) (argsL := [(.ref b_36), (.int 0)]) (rest := [(.ref b33)]) (lenOf pd_3 rfl) rfl (by show 2 * 0 + _ ≤ _; exact Nat.le_of_eq rfl) (hb hby d12_22) (fun _ _ => ⟨rfl, rfl, (by decide : 2 + 0 ≤ _), (by decide : 5 + 0 ≤ _)⟩)
  dsimp only [Pt.U, Pt.locs, Pt.cells, Pt.slots] at X39 l39 y39 z39 st39 hQ39
  subst l39 y39 z39
  obtain ⟨rfl, N39q, Kq39, P39_0, P39_1, P39_2⟩ := hQ39
  refine own_go (fun _ k => st39.trans k) ?_
  have N39 := Fr.app N35 N39q
  have E_b33 := E_b33.keep Kq39
  clear F_b33_String_value
  clear F_b33_String_coder
  have V_b_36 := V_b_36.keep Kq39 (ninS (Ne.symm ne_b33_b_36) nin0)
  have O := O.keep Kq39 (allS g_b33 all0)
  have K40 := K38.trans Kq39 (allS (Or.inr sz_b33) all0)
  have E_b33 := P39_0
  have F_b33_String_coder := P39_1
  have F_b33_String_value := P39_2
  show own_Fin p e below (T39.setTop (mkF m 25 #[.val (.int c_)] [(.ref b33)])) _
  obtain ⟨fs, hr, hrun, hended, hW, hsame⟩ := X39.leave (v := some (.ref b33)) (fun h => by rw [Bd.returns] at h; cases h)
  refine ⟨_, _, ?_, hrun, hended, _, _, rfl, ?_, ⟨_, rfl⟩, hW, hsame.mono (by decide) (by decide)⟩
  ·exact X39.areturnOut hx rfl Bd.returns rfl (hb hby d12_25) hr
  ·show Qvof Z c_ z h0 n0 _ T39.heap _
   exact ⟨b33, b_36, k_37, rfl, N39, K40, sz_b33, ne_b33_b_36, E_b33, F_b33_String_coder, F_b33_String_value, V_b_36⟩
theorem d1_0 : decode method_2_code 0 = .ok (.iload_n 0, 1) := by decide +kernel
theorem d1_1 : decode method_2_code 1 = .ok (.ifCond .ne 14, 3) := by decide +kernel
theorem d1_4 : decode method_2_code 4 = .ok (.new 7, 3) := by decide +kernel
theorem d1_7 : decode method_2_code 7 = .ok (.dup, 1) := by decide +kernel
theorem d1_8 : decode method_2_code 8 = .ok (.iconst 0, 1) := by decide +kernel
theorem d1_9 : decode method_2_code 9 = .ok (.newarray .char, 2) := by decide +kernel
theorem d1_11 : decode method_2_code 11 = .ok (.invokespecial 9, 3) := by decide +kernel
theorem pd_4 : parseMethodDescriptor "([C)V" = some ⟨[(.array .char)], none⟩ := by decide +kernel
theorem d1_14 : decode method_2_code 14 = .ok (.areturn, 1) := by decide +kernel
theorem d1_15 : decode method_2_code 15 = .ok (.iload_n 0, 1) := by decide +kernel
theorem d1_16 : decode method_2_code 16 = .ok (.iconst 1, 1) := by decide +kernel
theorem d1_17 : decode method_2_code 17 = .ok (.if_icmp .ne 8, 3) := by decide +kernel
theorem d1_20 : decode method_2_code 20 = .ok (.iload_n 1, 1) := by decide +kernel
theorem d1_21 : decode method_2_code 21 = .ok (.invokestatic 12, 3) := by decide +kernel
theorem pd_5 : parseMethodDescriptor "(C)Ljava/lang/String;" = some ⟨[.char], some (.object "java/lang/String")⟩ := by decide +kernel
theorem d1_24 : decode method_2_code 24 = .ok (.areturn, 1) := by decide +kernel
theorem d1_25 : decode method_2_code 25 = .ok (.new 7, 3) := by decide +kernel
theorem d1_28 : decode method_2_code 28 = .ok (.dup, 1) := by decide +kernel
theorem d1_29 : decode method_2_code 29 = .ok (.iconst 2, 1) := by decide +kernel
theorem d1_30 : decode method_2_code 30 = .ok (.newarray .char, 2) := by decide +kernel
theorem d1_32 : decode method_2_code 32 = .ok (.dup, 1) := by decide +kernel
theorem d1_33 : decode method_2_code 33 = .ok (.iconst 0, 1) := by decide +kernel
theorem d1_34 : decode method_2_code 34 = .ok (.iload_n 1, 1) := by decide +kernel
theorem d1_35 : decode method_2_code 35 = .ok (.castore, 1) := by decide +kernel
theorem d1_36 : decode method_2_code 36 = .ok (.dup, 1) := by decide +kernel
theorem d1_37 : decode method_2_code 37 = .ok (.iconst 1, 1) := by decide +kernel
theorem d1_38 : decode method_2_code 38 = .ok (.iload_n 2, 1) := by decide +kernel
theorem d1_39 : decode method_2_code 39 = .ok (.castore, 1) := by decide +kernel
theorem d1_40 : decode method_2_code 40 = .ok (.invokespecial 9, 3) := by decide +kernel
theorem d1_43 : decode method_2_code 43 = .ok (.areturn, 1) := by decide +kernel
theorem pn_2 : plainName "com/example/crete/crete/TreeItemEqualsPinLaw" = true := by first | (simp [plainName, overriddenIn]; done) | decide +kernel
theorem ef_rmk (m : MethodId) (x0 : Int32) (x1 : Int32) (x2 : Int32) : entryFrame m #[(.int x0), (.int x1), (.int x2)] 3 = mkF m 0 #[.val (.int x0), .val (.int x1), .val (.int x2)] [] := by first | (simp [entryFrame, mkF, argsToLocals, Value.category]; done) | rfl
def Qrmk (Z : State) (n : Int32) (a : Int32) (b : Int32) (z : Int32) (h0 : Heap) (n0 : Nat) (v : Option Value) (h : Heap) (L : List Loc) : Prop := ∃ (s_ : Addr) (t_ : Addr) (kb_ : ClassId), v = some (.ref s_) ∧ Fr n0 L ∧ Keep h0 h [] ∧ h0.size ≤ s_ ∧ s_ ≠ t_ ∧ Exa Z h s_ "java/lang/String" ∧ Fld Z h s_ "java/lang/String" "coder" "B" (.int 0) ∧ Fld Z h s_ "java/lang/String" "value" "[B" (.ref t_) ∧ Arv Z h t_ kb_ .byte (Int32.ofNat (own_cs n a b).length) ((((own_cs n a b)).map (fun c => c.toInt8.toInt32)).map Value.int) (.int 0)
set_option maxRecDepth 65536 in
set_option maxHeartbeats 40000000 in
theorem rmk (l : Launch) (Z : State) (a0 : Array Value) (hw : ∀ d ∈ tables_1, d.before a0 Z = true) (ws : List Jvm.Cond) (n : Int32) (a : Int32) (b : Int32) (z : Int32) (h0 : Heap) (n0 : Nat) (O : Old Z n0 h0) (S_String_COMPACT_STRINGS : Sta Z Z.heap "java/lang/String" "COMPACT_STRINGS" "Z" (.int z)) (hz : ¬ (z = (0 : Int32))) (ha : ¬ a < 0 ∧ ¬ (255 : Int32) < a) (hb_ : ¬ b < 0 ∧ ¬ (255 : Int32) < b) :
    MetFree l (⟨"com/example/crete/crete/TreeItemEqualsPinLaw", "mk", "(ICC)Ljava/lang/String;"⟩ : MethodName) (head1 (Jvm.Cond.code (⟨"com/example/crete/crete/TreeItemEqualsPinLaw", "mk", "(ICC)Ljava/lang/String;"⟩ : MethodName) method_2_code 3 (some (.object "java/lang/String")) :: ws) ({ frames := 4, cells := 6, slots := 12, locals := 66 } : Room)) (fun a' U' => a' = #[(.int n), (.int a), (.int b)] ∧ Z.Warmed39 U'.vm ∧ U'.heap = h0 ∧ CHv Z own_EL U'.vm h0) (fun _ _ _ _ _ => True) (fun _ U' o' W' => ∃ v' L', o' = .returned v' ∧ Qrmk Z n a b z h0 n0 v' W'.heap L' ∧ CHr Z own_EL U'.vm U'.heap W'.vm W'.heap ∧ ReturnedEndW U' o' W' L' ({ frames := 4, cells := 6, slots := 12, locals := 66 } : Room).cells ({ frames := 4, cells := 6, slots := 12, locals := 66 } : Room).slots) := by
  refine MetFree.of_bodySF (plainFor_of_name pn_2) hisR ?_
  intro p e s m args below meth c s₁ Bd hml0 hP hK
  obtain ⟨rfl, hZ, hh, HC⟩ := hP
  have hx := Bd.exec
  have hby := Bd.bytes
  have hml : c.maxLocals = 3 := hml0
  have hown : s.vm.findClass "com/example/crete/crete/TreeItemEqualsPinLaw" = some m.cls := findClass_of_methodNamed Bd.named
  have hnm := (name_of_methodNamed Bd.named Bd.method).1
  have X0 : Stand p l e ({ frames := 4, cells := 6, slots := 12, locals := 66 } : Room) (s.setVm s.vm) m #[(.int n), (.int a), (.int b)] below meth c s₁ [] 0 0 := Stand.of_body Bd
  have e0 : s₁.heap = h0 := by rw [← hh, Bd.state]; rfl
  have N0 := Fr.nil n0
  have K0 := Keep.refl h0 []
  have CR := CHr.refl HC
  have hS : s.Since s.vm h0.size := (State.WarmedH.refl s).since _
  have hk : h0.size ≤ h0.size := Nat.le_refl _
  refine own_start (ef_rmk m n a b) (Q := fun o' t' => ∃ v' L', o' = .returned v' ∧ Qrmk Z n a b z h0 n0 v' t'.heap L' ∧ CHr Z own_EL s.vm s.heap t'.vm t'.heap ∧ ReturnedEndW s o' t' L' ({ frames := 4, cells := 6, slots := 12, locals := 66 } : Room).cells ({ frames := 4, cells := 6, slots := 12, locals := 66 } : Room).slots) ?_
  show own_Fin p e below (s₁.setTop (mkF m 0 #[.val (.int n), .val (.int a), .val (.int b)] [])) _
  refine own_go (fun _ k => XS.iloadN X0.here hx rfl (hb hby d1_0) rfl k) ?_
  show own_Fin p e below (s₁.setTop (mkF m 1 #[.val (.int n), .val (.int a), .val (.int b)] [(.int n)])) _
  by_cases hc1_42 : n = (0 : Int32)
  ·refine own_go (fun _ k => XS.ifNo X0.here hx rfl (hb hby d1_1) rfl ((if0 _ _).trans (teq hc1_42).2) k) ?_
   show own_Fin p e below (s₁.setTop (mkF m 4 #[.val (.int n), .val (.int a), .val (.int b)] [])) _
   obtain ⟨T43, h43, X43, e43, E43, A43, D43, -, st43⟩ := newO X0 hx hZ hown (ow hw 4) (ow hw 5) (ow hw 6) e0 (g := (mkF m 4 #[.val (.int n), .val (.int a), .val (.int b)] [])) rfl (hb hby d1_4) (by decide) (by decide)
   obtain ⟨b43, g43⟩ : ∃ z, z = h0.size := ⟨_, rfl⟩
   rw [← g43] at A43 D43 st43
   refine own_go (fun _ k => st43 _ k) ?_
   have g_b43 : n0 ≤ b43 := Nat.le_trans (own_osz O) (Nat.le_of_eq g43.symm)
   have sz_b43 : h0.size ≤ b43 := Nat.le_trans K0.1 (Nat.le_of_eq g43.symm)
   have CR := CR.trans (CHr.ext E43 HC)
   have S_b43 := Safe.ext E43 HC (Safe.new (Nat.le_of_eq g43.symm))
   have HC := CHv.ext E43 HC
   have O := O.ext E43
   have K44 := K0.ext E43
   have hk := Nat.le_trans hk E43.1
   have E_b43 := A43
   have F_b43_String_value : Fld Z h43 b43 "java/lang/String" "value" "[B" .null := D43 (Or.inr (ow hw 20)) (ty := (.array .byte)) (by decide)
   have F_b43_String_coder : Fld Z h43 b43 "java/lang/String" "coder" "B" (.int 0) := D43 (Or.inr (ow hw 21)) (ty := .byte) (by decide)
   show own_Fin p e below (T43.setTop (mkF m 7 #[.val (.int n), .val (.int a), .val (.int b)] [(.ref b43)])) _
   refine own_go (fun _ k => XS.dup X43.here hx rfl (hb hby d1_7) rfl rfl (XS.iconst X43.here hx rfl (hb hby d1_8) k)) ?_
   show own_Fin p e below (T43.setTop (mkF m 9 #[.val (.int n), .val (.int a), .val (.int b)] [(.int 0), (.ref b43), (.ref b43)])) _
   obtain ⟨T45, h45, k45, X45, e45, E45, A45, st45⟩ := newP X43 hx hZ (ow hw 7) e43 (g := (mkF m 9 #[.val (.int n), .val (.int a), .val (.int b)] [(.int 0), (.ref b43), (.ref b43)])) rfl (hb hby d1_9) rfl (by decide) (cap := 0) (by decide) (by decide) (by decide) (by decide)
   obtain ⟨b45, g45⟩ : ∃ z, z = h43.size := ⟨_, rfl⟩
   rw [← g45] at A45 st45
   refine own_go (fun _ k => st45 _ k) ?_
   have ne_b43_b45 : b43 ≠ b45 := Nat.ne_of_lt (Nat.lt_of_lt_of_le E_b43.lt (Nat.le_of_eq g45.symm))
   have g_b45 : n0 ≤ b45 := Nat.le_trans (own_osz O) (Nat.le_of_eq g45.symm)
   have sz_b45 : h0.size ≤ b45 := Nat.le_trans K44.1 (Nat.le_of_eq g45.symm)
   have CR := CR.trans (CHr.ext E45 HC)
   have S_b43 := Safe.ext E45 HC S_b43
   have S_b45 := Safe.ext E45 HC (Safe.new (Nat.le_of_eq g45.symm))
   have HC := CHv.ext E45 HC
   have E_b43 := E_b43.ext E45
   have F_b43_String_value := F_b43_String_value.ext E45
   have F_b43_String_coder := F_b43_String_coder.ext E45
   have O := O.ext E45
   have K46 := K44.ext E45
   have hk := Nat.le_trans hk E45.1
   have V_b45 : Arv Z h45 b45 k45 .char (0 : Int32) [] (.int 0) := (Arv.new A45 (by decide)).pad (pad_rep [] (.int 0) 0)
   show own_Fin p e below (T45.setTop (mkF m 11 #[.val (.int n), .val (.int a), .val (.int b)] [(.ref b45), (.ref b43), (.ref b43)])) _
   obtain ⟨_, _, ⟨T47, L47, k47, n47⟩, -, X47, hS47, hg47, ⟨Lc47, hQ47, l47, y47, z47, CQ47⟩, st47⟩ := X45.specialBackS hx (y := (⟨"java/lang/String", "<init>", "([C)V"⟩ : MethodName)) rfl hown (mvT hZ (ow hw 8)) (mvT hZ (ow hw 9)) (mvT hZ (ow hw 10)) (by decide) (backOfSH (W := 1) (sie l Z a0 hw [] b43 b45 k45 h45 n0 O E_b43 F_b43_String_value F_b43_String_coder g_b43 V_b45 ne_b43_b45) hZ (ow hw 10) (ow hw 6) (by decide) (by decide) (own_EW hw) HC) (g := (mkF m 11 #[.val (.int n), .val (.int a), .val (.int b)] [(.ref b45), (.ref b43), (.ref b43)])) rfl (by rw [hml]; rfl) (Steps.refl _) (a := b43) (argsL := [(.ref b45)]) (rest := [(.ref b43)]) (lenOf pd_4 rfl) rfl (by show 2 * 0 + _ ≤ _; exact Nat.le_of_eq rfl) (hb hby d1_11) (fun _ _ => ⟨rfl, e45, (by decide : 2 + 4 ≤ _), (by decide : 4 + 8 ≤ _)⟩)
   dsimp only [Pt.U, Pt.locs, Pt.cells, Pt.slots] at X47 l47 y47 z47 st47 hQ47
   subst l47 y47 z47
   obtain ⟨X47, hS, hZ, hown⟩ := rebS hS (Nat.le_trans hk (Nat.le_of_eq (congrArg Array.size e45).symm)) X47 hS47 hg47 hZ hown
   obtain ⟨t_48, kb_49, rfl, N47q, Kq47, P47_0, P47_1, P47_2, P47_3, P47_4⟩ := hQ47
   refine own_go (fun _ k => st47.trans k) ?_
   have N47 := Fr.app N0 N47q
   have CR := CR.trans CQ47
   have S_b43 := CHr.safe CQ47 E_b43.lt S_b43
   have S_b45 := CHr.safe CQ47 V_b45.lt S_b45
   have HC := CQ47.1
   have E_b43 := E_b43.keep Kq47
   clear F_b43_String_value
   clear F_b43_String_coder
   have V_b45 := V_b45.keep Kq47 (ninS (Ne.symm ne_b43_b45) nin0)
   have O := O.keep Kq47 (allS g_b43 all0)
   have K50 := K46.trans Kq47 (allS (Or.inr sz_b43) all0)
   have hk := Nat.le_refl T47.heap.size
   have E_b43 := P47_1
   have F_b43_String_coder := P47_2
   have F_b43_String_value := P47_3
   have V_t_48 := P47_4
   show own_Fin p e below (T47.setTop (mkF m 14 #[.val (.int n), .val (.int a), .val (.int b)] [(.ref b43)])) _
   obtain ⟨fs, hr, hrun, hended, hE⟩ := X47.leaveW hS hk (v := some (.ref b43)) (fun h => by rw [Bd.returns] at h; cases h)
   refine ⟨_, _, ?_, hrun, hended, _, _, rfl, ?_, ?_, ⟨_, rfl⟩, hE.2.1, hE.2.2.1, hE.2.2.2.mono (by decide) (by decide)⟩
   ·exact X47.areturnOut hx rfl Bd.returns rfl (hb hby d1_14) hr
   ·show Qrmk Z n a b z h0 n0 _ T47.heap _
    exact ⟨b43, t_48, kb_49, rfl, N47, K50, sz_b43, P47_0, E_b43, F_b43_String_coder, F_b43_String_value, (by rw [own_cs0 hc1_42]; exact V_t_48)⟩
   ·show CHr Z own_EL s.vm s.heap T47.vm T47.heap
    rw [hh]
    exact CR.trans (CHv.at X47 hZ (own_EW hw) HC)
  ·refine own_go (fun _ k => XS.ifYes X0.here hx rfl (pc0 := 1) (pc' := 15) rfl (hb hby d1_1) rfl ((if0 _ _).trans (feq hc1_42).2) (by decide) (by decide) (XS.iloadN X0.here hx rfl (hb hby d1_15) rfl (XS.iconst X0.here hx rfl (hb hby d1_16) k))) ?_
   show own_Fin p e below (s₁.setTop (mkF m 17 #[.val (.int n), .val (.int a), .val (.int b)] [(.int 1), (.int n)])) _
   by_cases hc17_52 : n = (1 : Int32)
   ·refine own_go (fun _ k => XS.icmpNo X0.here hx rfl (hb hby d1_17) rfl (teq hc17_52).2 (XS.iloadN X0.here hx rfl (hb hby d1_20) rfl k)) ?_
    show own_Fin p e below (s₁.setTop (mkF m 21 #[.val (.int n), .val (.int a), .val (.int b)] [(.int a)])) _
    obtain ⟨_, _, ⟨T53, L53, k53, n53⟩, -, X53, ⟨Lc53, hQ53, l53, y53, z53⟩, st53⟩ := Jvm.LawKit.callS X0 hx (y := (⟨"java/lang/String", "valueOf", "(C)Ljava/lang/String;"⟩ : MethodName)) hown (mvT hZ (ow hw 65)) (mvT hZ (ow hw 66)) (mvT hZ (ow hw 6)) (mvT hZ (ow hw 67)) (by decide) (backOf (W := 0) (vof l Z a0 hw [] a z h0 n0 O S_String_COMPACT_STRINGS hz ha.2) hZ (ow hw 67) (ow hw 6) (by decide) (by decide)) (g := (mkF m 21 #[.val (.int n), .val (.int a), .val (.int b)] [(.int a)])) rfl (by rw [hml]; rfl) (argsL := [(.int a)]) (rest := []) (lenOf pd_5 rfl) rfl (by show 2 * 0 + _ ≤ _; exact Nat.le_of_eq rfl) (hb hby d1_21) (fun _ _ => ⟨rfl, e0, (by decide : 0 + 2 ≤ _), (by decide : 0 + 5 ≤ _)⟩)
    dsimp only [Pt.U, Pt.locs, Pt.cells, Pt.slots] at X53 l53 y53 z53 st53 hQ53
    subst l53 y53 z53
    obtain ⟨s_54, t_55, kb_56, rfl, N53q, Kq53, P53_0, P53_1, P53_2, P53_3, P53_4, P53_5⟩ := hQ53
    refine own_go (fun _ k => st53 _ k) ?_
    have N53 := Fr.app N0 N53q
    have g_s_54 : n0 ≤ s_54 := Nat.le_trans (own_osz O) P53_0
    have sz_s_54 : h0.size ≤ s_54 := Nat.le_trans K0.1 P53_0
    skip
    have CR := CR.trans (CHr.keep Kq53 sf0 HC)
    have HC := CHv.keep Kq53 sf0 HC
    have O := O.keep Kq53 all0
    have K57 := K0.trans Kq53 all0
    have hk := Nat.le_trans hk Kq53.1
    have E_s_54 := P53_2
    have F_s_54_String_coder := P53_3
    have F_s_54_String_value := P53_4
    have V_t_55 := P53_5
    show own_Fin p e below (T53.setTop (mkF m 24 #[.val (.int n), .val (.int a), .val (.int b)] [(.ref s_54)])) _
    obtain ⟨fs, hr, hrun, hended, hE⟩ := X53.leaveW hS hk (v := some (.ref s_54)) (fun h => by rw [Bd.returns] at h; cases h)
    refine ⟨_, _, ?_, hrun, hended, _, _, rfl, ?_, ?_, ⟨_, rfl⟩, hE.2.1, hE.2.2.1, hE.2.2.2.mono (by decide) (by decide)⟩
    ·exact X53.areturnOut hx rfl Bd.returns rfl (hb hby d1_24) hr
    ·show Qrmk Z n a b z h0 n0 _ T53.heap _
     exact ⟨s_54, t_55, kb_56, rfl, N53, K57, sz_s_54, P53_1, E_s_54, F_s_54_String_coder, F_s_54_String_value, (by rw [own_cs1 hc1_42 hc17_52]; rw [own_nby] at V_t_55; exact V_t_55)⟩
    ·show CHr Z own_EL s.vm s.heap T53.vm T53.heap
     rw [hh]
     exact CR.trans (CHv.at X53 hZ (own_EW hw) HC)
   ·refine own_go (fun _ k => XS.icmpYes X0.here hx rfl (pc0 := 17) (pc' := 25) rfl (hb hby d1_17) rfl (feq hc17_52).2 (by decide) (by decide) k) ?_
    show own_Fin p e below (s₁.setTop (mkF m 25 #[.val (.int n), .val (.int a), .val (.int b)] [])) _
    obtain ⟨T59, h59, X59, e59, E59, A59, D59, -, st59⟩ := newO X0 hx hZ hown (ow hw 4) (ow hw 5) (ow hw 6) e0 (g := (mkF m 25 #[.val (.int n), .val (.int a), .val (.int b)] [])) rfl (hb hby d1_25) (by decide) (by decide)
    obtain ⟨b59, g59⟩ : ∃ z, z = h0.size := ⟨_, rfl⟩
    rw [← g59] at A59 D59 st59
    refine own_go (fun _ k => st59 _ k) ?_
    have g_b59 : n0 ≤ b59 := Nat.le_trans (own_osz O) (Nat.le_of_eq g59.symm)
    have sz_b59 : h0.size ≤ b59 := Nat.le_trans K0.1 (Nat.le_of_eq g59.symm)
    have CR := CR.trans (CHr.ext E59 HC)
    have S_b59 := Safe.ext E59 HC (Safe.new (Nat.le_of_eq g59.symm))
    have HC := CHv.ext E59 HC
    have O := O.ext E59
    have K60 := K0.ext E59
    have hk := Nat.le_trans hk E59.1
    have E_b59 := A59
    have F_b59_String_value : Fld Z h59 b59 "java/lang/String" "value" "[B" .null := D59 (Or.inr (ow hw 20)) (ty := (.array .byte)) (by decide)
    have F_b59_String_coder : Fld Z h59 b59 "java/lang/String" "coder" "B" (.int 0) := D59 (Or.inr (ow hw 21)) (ty := .byte) (by decide)
    show own_Fin p e below (T59.setTop (mkF m 28 #[.val (.int n), .val (.int a), .val (.int b)] [(.ref b59)])) _
    refine own_go (fun _ k => XS.dup X59.here hx rfl (hb hby d1_28) rfl rfl (XS.iconst X59.here hx rfl (hb hby d1_29) k)) ?_
    show own_Fin p e below (T59.setTop (mkF m 30 #[.val (.int n), .val (.int a), .val (.int b)] [(.int 2), (.ref b59), (.ref b59)])) _
    obtain ⟨T61, h61, k61, X61, e61, E61, A61, st61⟩ := newP X59 hx hZ (ow hw 7) e59 (g := (mkF m 30 #[.val (.int n), .val (.int a), .val (.int b)] [(.int 2), (.ref b59), (.ref b59)])) rfl (hb hby d1_30) rfl (by decide) (cap := 2) (by decide) (by decide) (by decide) (by decide)
    obtain ⟨b61, g61⟩ : ∃ z, z = h59.size := ⟨_, rfl⟩
    rw [← g61] at A61 st61
    refine own_go (fun _ k => st61 _ k) ?_
    have ne_b59_b61 : b59 ≠ b61 := Nat.ne_of_lt (Nat.lt_of_lt_of_le E_b59.lt (Nat.le_of_eq g61.symm))
    have g_b61 : n0 ≤ b61 := Nat.le_trans (own_osz O) (Nat.le_of_eq g61.symm)
    have sz_b61 : h0.size ≤ b61 := Nat.le_trans K60.1 (Nat.le_of_eq g61.symm)
    have CR := CR.trans (CHr.ext E61 HC)
    have S_b59 := Safe.ext E61 HC S_b59
    have S_b61 := Safe.ext E61 HC (Safe.new (Nat.le_of_eq g61.symm))
    have HC := CHv.ext E61 HC
    have E_b59 := E_b59.ext E61
    have F_b59_String_value := F_b59_String_value.ext E61
    have F_b59_String_coder := F_b59_String_coder.ext E61
    have O := O.ext E61
    have K62 := K60.ext E61
    have hk := Nat.le_trans hk E61.1
    have V_b61 : Arv Z h61 b61 k61 .char (2 : Int32) [(.int 0), (.int 0)] (.int 0) := (Arv.new A61 (by decide)).pad (pad_rep [] (.int 0) 2)
    show own_Fin p e below (T61.setTop (mkF m 32 #[.val (.int n), .val (.int a), .val (.int b)] [(.ref b61), (.ref b59), (.ref b59)])) _
    refine own_go (fun _ k => XS.dup X61.here hx rfl (hb hby d1_32) rfl rfl (XS.iconst X61.here hx rfl (hb hby d1_33) (XS.iloadN X61.here hx rfl (hb hby d1_34) rfl k))) ?_
    show own_Fin p e below (T61.setTop (mkF m 35 #[.val (.int n), .val (.int a), .val (.int b)] [(.int a), (.int 0), (.ref b61), (.ref b61), (.ref b59), (.ref b59)])) _
    obtain ⟨cl63, A63, q63, S63, M63, H63, G63⟩ := id V_b61
    have hin63 : ¬ ((0 : Int32) < 0 ∨ cl63.slots.size ≤ ((0 : Int32)).toNatClampNeg) := inb_of S63 ⟨by decide, by decide⟩
    obtain ⟨T63, h63, X63, e63, W63, st63⟩ := stC X61 hx hZ e61 A63 (j := (0 : Int32)) hin63 (g := (mkF m 35 #[.val (.int n), .val (.int a), .val (.int b)] [(.int a), (.int 0), (.ref b61), (.ref b61), (.ref b59), (.ref b59)])) rfl rfl (hb hby d1_35)
    refine own_go (fun _ k => st63 _ k) ?_
    have Sq := S_b61
    have CR := CR.trans (CHr.wr W63 Sq HC)
    have S_b59 := Safe.wr W63 Sq HC S_b59
    have S_b61 := Safe.wr W63 Sq HC S_b61
    have HC := CHv.wr W63 Sq HC
    have E_b59 := E_b59.wr W63
    have F_b59_String_value := F_b59_String_value.other W63 (Or.inl ne_b59_b61)
    have F_b59_String_coder := F_b59_String_coder.other W63 (Or.inl ne_b59_b61)
    have O := O.wr W63 g_b61
    have K64 := K62.wr W63 (Or.inr sz_b61)
    have hk := Nat.le_trans hk (Nat.le_of_eq (Wr.size W63).symm)
    have V_b61 : Arv Z h63 b61 k61 .char (2 : Int32) [(.int (nar .char a)), (.int 0)] (.int 0) := Arv.set A63 q63 S63 M63 H63 G63 (fits_nar_char _) W63 0 rfl (Nat.le_of_ble_eq_true rfl)
    have N63 := Fr.snoc X63 N0 g_b61
    show own_Fin p e below (T63.setTop (mkF m 36 #[.val (.int n), .val (.int a), .val (.int b)] [(.ref b61), (.ref b59), (.ref b59)])) _
    refine own_go (fun _ k => XS.dup X63.here hx rfl (hb hby d1_36) rfl rfl (XS.iconst X63.here hx rfl (hb hby d1_37) (XS.iloadN X63.here hx rfl (hb hby d1_38) rfl k))) ?_
    show own_Fin p e below (T63.setTop (mkF m 39 #[.val (.int n), .val (.int a), .val (.int b)] [(.int b), (.int 1), (.ref b61), (.ref b61), (.ref b59), (.ref b59)])) _
    obtain ⟨cl65, A65, q65, S65, M65, H65, G65⟩ := id V_b61
    have hin65 : ¬ ((1 : Int32) < 0 ∨ cl65.slots.size ≤ ((1 : Int32)).toNatClampNeg) := inb_of S65 ⟨by decide, by decide⟩
    obtain ⟨T65, h65, X65, e65, W65, st65⟩ := stC X63 hx hZ e63 A65 (j := (1 : Int32)) hin65 (g := (mkF m 39 #[.val (.int n), .val (.int a), .val (.int b)] [(.int b), (.int 1), (.ref b61), (.ref b61), (.ref b59), (.ref b59)])) rfl rfl (hb hby d1_39)
    refine own_go (fun _ k => st65 _ k) ?_
    have Sq := S_b61
    have CR := CR.trans (CHr.wr W65 Sq HC)
    have S_b59 := Safe.wr W65 Sq HC S_b59
    have S_b61 := Safe.wr W65 Sq HC S_b61
    have HC := CHv.wr W65 Sq HC
    have E_b59 := E_b59.wr W65
    have F_b59_String_value := F_b59_String_value.other W65 (Or.inl ne_b59_b61)
    have F_b59_String_coder := F_b59_String_coder.other W65 (Or.inl ne_b59_b61)
    have O := O.wr W65 g_b61
    have K66 := K64.wr W65 (Or.inr sz_b61)
    have hk := Nat.le_trans hk (Nat.le_of_eq (Wr.size W65).symm)
    have V_b61 : Arv Z h65 b61 k61 .char (2 : Int32) [(.int (nar .char a)), (.int (nar .char b))] (.int 0) := Arv.set A65 q65 S65 M65 H65 G65 (fits_nar_char _) W65 1 rfl (Nat.le_of_ble_eq_true rfl)
    have N65 := Fr.snoc X65 N63 g_b61
    show own_Fin p e below (T65.setTop (mkF m 40 #[.val (.int n), .val (.int a), .val (.int b)] [(.ref b61), (.ref b59), (.ref b59)])) _
    obtain ⟨_, _, ⟨T67, L67, k67, n67⟩, -, X67, ⟨Lc67, hQ67, l67, y67, z67⟩, st67⟩ := X65.specialBack hx (y := (⟨"java/lang/String", "<init>", "([C)V"⟩ : MethodName)) rfl hown (mvT hZ (ow hw 8)) (mvT hZ (ow hw 9)) (mvT hZ (ow hw 10)) (by decide) (StrChars.Road.backV (W := 1) hZ (own_wI hw) (kI := 4) (ow hw 5) (cs := ([(nar .char a), (nar .char b)] : List Int32)) (bs := (([(nar .char a), (nar .char b)] : List Int32)).map (fun c => c.toInt8.toInt32)) (n := 2) g_b59 (own_osz O) E_b59 F_b59_String_value F_b59_String_coder V_b61 (S_String_COMPACT_STRINGS.ext O.2) hz rfl rfl (by decide) (by decide) (own_hp2 ha hb_) rfl (by decide) (by decide)) (g := (mkF m 40 #[.val (.int n), .val (.int a), .val (.int b)] [(.ref b61), (.ref b59), (.ref b59)])) rfl (by rw [hml]; rfl) (Steps.refl _) (a := b59) (argsL := [(.ref b61)]) (rest := [(.ref b59)]) (lenOf pd_4 rfl) rfl (by show 2 * 0 + _ ≤ _; exact Nat.le_of_eq rfl) (hb hby d1_40) (fun _ _ => ⟨rfl, e65, (by decide : 2 + 1 ≤ _), (by decide : 6 + 2 ≤ _)⟩)
    dsimp only [Pt.U, Pt.locs, Pt.cells, Pt.slots] at X67 l67 y67 z67 st67 hQ67
    subst l67 y67 z67
    refine own_go (fun _ k => st67.trans k) ?_
    obtain ⟨rfl, N67q, Kq67, P67_0, P67_1, b68, kb67, g_b68, P67_2, P67_3, P67_4, P67_5⟩ := hQ67
    have N67 := Fr.app N65 N67q
    have ne_b59_b68 : b59 ≠ b68 := Nat.ne_of_lt (Nat.lt_of_lt_of_le E_b59.lt P67_2)
    have ne_b61_b68 : b61 ≠ b68 := Nat.ne_of_lt (Nat.lt_of_lt_of_le V_b61.lt P67_2)
    have sz_b68 : h0.size ≤ b68 := Nat.le_trans K66.1 P67_2
    have Sq := (sfS S_b59 sf0)
    have CR := CR.trans (CHr.keep Kq67 Sq HC)
    have S_b59 := Safe.keep Kq67 Sq HC S_b59
    have S_b61 := Safe.keep Kq67 Sq HC S_b61
    have HC := CHv.keep Kq67 Sq HC
    have E_b59 := E_b59.keep Kq67
    clear F_b59_String_value
    clear F_b59_String_coder
    have V_b61 := V_b61.keep Kq67 (ninS (Ne.symm ne_b59_b61) nin0)
    have O := O.keep Kq67 (allS g_b59 all0)
    have K69 := K66.trans Kq67 (allS (Or.inr sz_b59) all0)
    have hk := Nat.le_trans hk Kq67.1
    have E_b59 := P67_0
    have F_b59_String_coder := P67_1
    have F_b59_String_value := P67_4
    have V_b68 := P67_5
    show own_Fin p e below (T67.setTop (mkF m 43 #[.val (.int n), .val (.int a), .val (.int b)] [(.ref b59)])) _
    obtain ⟨fs, hr, hrun, hended, hE⟩ := X67.leaveW hS hk (v := some (.ref b59)) (fun h => by rw [Bd.returns] at h; cases h)
    refine ⟨_, _, ?_, hrun, hended, _, _, rfl, ?_, ?_, ⟨_, rfl⟩, hE.2.1, hE.2.2.1, hE.2.2.2.mono (by decide) (by decide)⟩
    ·exact X67.areturnOut hx rfl Bd.returns rfl (hb hby d1_43) hr
    ·show Qrmk Z n a b z h0 n0 _ T67.heap _
     exact ⟨b59, b68, kb67, rfl, N67, K69, sz_b59, ne_b59_b68, E_b59, F_b59_String_coder, F_b59_String_value, (by rw [own_cs2 hc1_42 hc17_52]; rw [own_narid ha, own_narid hb_] at V_b68; exact V_b68)⟩
    ·show CHr Z own_EL s.vm s.heap T67.vm T67.heap
     rw [hh]
     exact CR.trans (CHv.at X67 hZ (own_EW hw) HC)
theorem d5_0 : decode prog_32_method_1_code 0 = .ok (.aload_n 0, 1) := by decide +kernel
theorem d5_1 : decode prog_32_method_1_code 1 = .ok (.invokespecial 1, 3) := by decide +kernel
theorem d5_4 : decode prog_32_method_1_code 4 = .ok (.aload_n 0, 1) := by decide +kernel
theorem d5_5 : decode prog_32_method_1_code 5 = .ok (.aload_n 1, 1) := by decide +kernel
theorem d5_6 : decode prog_32_method_1_code 6 = .ok (.putfield 7, 3) := by decide +kernel
theorem d5_9 : decode prog_32_method_1_code 9 = .ok (.aload_n 0, 1) := by decide +kernel
theorem d5_10 : decode prog_32_method_1_code 10 = .ok (.iload_n 2, 1) := by decide +kernel
theorem d5_11 : decode prog_32_method_1_code 11 = .ok (.putfield 13, 3) := by decide +kernel
theorem d5_14 : decode prog_32_method_1_code 14 = .ok (.return_, 1) := by decide +kernel
theorem pn_3 : plainName "com/example/crete/crete/TreeItem" = true := by first | (simp [plainName, overriddenIn]; done) | decide +kernel
theorem ef_rmti (m : MethodId) (x0 : Addr) (x1 : Addr) (x2 : Int32) : entryFrame m #[(.ref x0), (.ref x1), (.int x2)] 3 = mkF m 0 #[.val (.ref x0), .val (.ref x1), .val (.int x2)] [] := by first | (simp [entryFrame, mkF, argsToLocals, Value.category]; done) | rfl
def Qrmti (Z : State) (b : Addr) (s_ : Addr) (f : Int32) (h0 : Heap) (n0 : Nat) (v : Option Value) (h : Heap) (L : List Loc) : Prop := v = none ∧ Fr n0 L ∧ Keep h0 h [b] ∧ Exa Z h b "com/example/crete/crete/TreeItem" ∧ Fld Z h b "com/example/crete/crete/TreeItem" "name" "Ljava/lang/String;" (.ref s_) ∧ Fld Z h b "com/example/crete/crete/TreeItem" "leaf" "Z" (.int (nar .boolean f))
set_option maxRecDepth 65536 in
set_option maxHeartbeats 40000000 in
theorem rmti (l : Launch) (Z : State) (a0 : Array Value) (hw : ∀ d ∈ tables_1, d.before a0 Z = true) (ws : List Jvm.Cond) (b : Addr) (s_ : Addr) (f : Int32) (h0 : Heap) (n0 : Nat) (O : Old Z n0 h0) (E_b : Exa Z h0 b "com/example/crete/crete/TreeItem") (F_b_TreeItem_name : Fld Z h0 b "com/example/crete/crete/TreeItem" "name" "Ljava/lang/String;" .null) (F_b_TreeItem_leaf : Fld Z h0 b "com/example/crete/crete/TreeItem" "leaf" "Z" (.int 0)) (g_b : n0 ≤ b) (E_s_ : Exa Z h0 s_ "java/lang/String") (nsb : s_ ≠ b) :
    MetFree l (⟨"com/example/crete/crete/TreeItem", "<init>", "(Ljava/lang/String;Z)V"⟩ : MethodName) (head1 (Jvm.Cond.code (⟨"com/example/crete/crete/TreeItem", "<init>", "(Ljava/lang/String;Z)V"⟩ : MethodName) prog_32_method_1_code 3 none :: ws) ({ frames := 1, cells := 0, slots := 0, locals := 12 } : Room)) (fun a' U' => a' = #[(.ref b), (.ref s_), (.int f)] ∧ Z.Warmed39 U'.vm ∧ U'.heap = h0) (fun _ _ _ _ _ => True) (fun _ U' o' W' => ∃ v' L', o' = .returned v' ∧ Qrmti Z b s_ f h0 n0 v' W'.heap L' ∧ FrameEnd U' o' W' L' ({ frames := 1, cells := 0, slots := 0, locals := 12 } : Room).cells ({ frames := 1, cells := 0, slots := 0, locals := 12 } : Room).slots) := by
  refine MetFree.of_bodySF (plainFor_of_name pn_3) hisR ?_
  intro p e s m args below meth c s₁ Bd hml0 hP hK
  obtain ⟨rfl, hZ, hh⟩ := hP
  have hx := Bd.exec
  have hby := Bd.bytes
  have hml : c.maxLocals = 3 := hml0
  have hown : s.vm.findClass "com/example/crete/crete/TreeItem" = some m.cls := findClass_of_methodNamed Bd.named
  have hnm := (name_of_methodNamed Bd.named Bd.method).1
  have X0 : Stand p l e ({ frames := 1, cells := 0, slots := 0, locals := 12 } : Room) s m #[(.ref b), (.ref s_), (.int f)] below meth c s₁ [] 0 0 := Stand.of_body Bd
  have e0 : s₁.heap = h0 := by rw [← hh, Bd.state]; rfl
  have N0 := Fr.nil n0
  have K0 := Keep.refl h0 [b]
  refine own_start (ef_rmti m b s_ f) (Q := fun o' t' => ∃ v' L', o' = .returned v' ∧ Qrmti Z b s_ f h0 n0 v' t'.heap L' ∧ FrameEnd s o' t' L' ({ frames := 1, cells := 0, slots := 0, locals := 12 } : Room).cells ({ frames := 1, cells := 0, slots := 0, locals := 12 } : Room).slots) ?_
  show own_Fin p e below (s₁.setTop (mkF m 0 #[.val (.ref b), .val (.ref s_), .val (.int f)] [])) _
  refine own_go (fun _ k => XS.aloadN X0.here hx rfl (hb hby d5_0) rfl rfl k) ?_
  show own_Fin p e below (s₁.setTop (mkF m 1 #[.val (.ref b), .val (.ref s_), .val (.int f)] [(.ref b)])) _
  obtain ⟨T71, X71, e71, st71⟩ := initO X0 hx hZ hown (ow hw 32) (ow hw 16) (ow hw 17) e0 (g := (mkF m 1 #[.val (.ref b), .val (.ref s_), .val (.int f)] [(.ref b)])) rfl (by rw [hml]; rfl) rfl (hb hby d5_1) (by decide) (W := 0) (by show 2 * 0 + _ ≤ _; exact Nat.le_of_eq rfl) (by decide)
  refine own_go (fun _ k => st71 _ k) ?_
  show own_Fin p e below (T71.setTop (mkF m 4 #[.val (.ref b), .val (.ref s_), .val (.int f)] [])) _
  refine own_go (fun _ k => XS.aloadN X71.here hx rfl (hb hby d5_4) rfl rfl (XS.aloadN X71.here hx rfl (hb hby d5_5) rfl rfl k)) ?_
  show own_Fin p e below (T71.setTop (mkF m 6 #[.val (.ref b), .val (.ref s_), .val (.int f)] [(.ref s_), (.ref b)])) _
  obtain ⟨T72, h72, X72, e72, W72, st72⟩ := putF X71 hx hZ hown (host := "") (Or.inl (ow hw 33)) Via.refl e71 F_b_TreeItem_name E_b (Or.inr ⟨(ow hw 34), rfl, hnm⟩) (ow hw 27) (ty := (.object "java/lang/String")) (by decide) rfl rfl (g := (mkF m 6 #[.val (.ref b), .val (.ref s_), .val (.int f)] [(.ref s_), (.ref b)])) rfl rfl (hb hby d5_6)
  refine own_go (fun _ k => st72 _ k) ?_
  have E_b := E_b.wr W72
  have F_b_TreeItem_leaf := F_b_TreeItem_leaf.other W72 (Or.inr (slot_ne (Or.inr (ow hw 36)) (Or.inr (ow hw 34)) (by decide) (t := .boolean) (t' := (.object "java/lang/String")) (by decide) (by decide)))
  have E_s_ := E_s_.wr W72
  have O := O.wr W72 g_b
  have K73 := K0.wr W72 (Or.inl (List.mem_of_getElem? (i := 0) rfl))
  have F_b_TreeItem_name := F_b_TreeItem_name.same W72
  have N72 := Fr.snoc X72 N0 g_b
  show own_Fin p e below (T72.setTop (mkF m 9 #[.val (.ref b), .val (.ref s_), .val (.int f)] [])) _
  refine own_go (fun _ k => XS.aloadN X72.here hx rfl (hb hby d5_9) rfl rfl (XS.iloadN X72.here hx rfl (hb hby d5_10) rfl k)) ?_
  show own_Fin p e below (T72.setTop (mkF m 11 #[.val (.ref b), .val (.ref s_), .val (.int f)] [(.int f), (.ref b)])) _
  obtain ⟨T74, h74, X74, e74, W74, st74⟩ := putFN X72 hx hZ hown (ow hw 35) Via.refl e72 F_b_TreeItem_leaf E_b (Or.inr ⟨(ow hw 36), rfl, hnm⟩) (ow hw 27) (ty := .boolean) (v' := (.int (nar .boolean f))) (by decide) rfl (fits_nar_bool _) (g := (mkF m 11 #[.val (.ref b), .val (.ref s_), .val (.int f)] [(.int f), (.ref b)])) rfl rfl (hb hby d5_11)
  refine own_go (fun _ k => st74 _ k) ?_
  have E_b := E_b.wr W74
  have F_b_TreeItem_name := F_b_TreeItem_name.other W74 (Or.inr (slot_ne (Or.inr (ow hw 34)) (Or.inr (ow hw 36)) (by decide) (t := (.object "java/lang/String")) (t' := .boolean) (by decide) (by decide)))
  have E_s_ := E_s_.wr W74
  have O := O.wr W74 g_b
  have K75 := K73.wr W74 (Or.inl (List.mem_of_getElem? (i := 0) rfl))
  have F_b_TreeItem_leaf := F_b_TreeItem_leaf.same W74
  have N74 := Fr.snoc X74 N72 g_b
  show own_Fin p e below (T74.setTop (mkF m 14 #[.val (.ref b), .val (.ref s_), .val (.int f)] [])) _
  obtain ⟨fs, hr, hrun, hended, hW, hsame⟩ := X74.leave (v := none) (fun _ => rfl)
  refine ⟨_, _, ?_, hrun, hended, _, _, rfl, ?_, ⟨_, rfl⟩, hW, hsame.mono (by decide) (by decide)⟩
  ·exact X74.returnOut hx Bd.returns (hb hby d5_14) hr
  ·show Qrmti Z b s_ f h0 n0 _ T74.heap _
   rw [e74]
   exact ⟨rfl, N74, K75, E_b, F_b_TreeItem_name, F_b_TreeItem_leaf⟩
theorem d6_0 : decode prog_32_method_4_code 0 = .ok (.aload_n 1, 1) := by decide +kernel
theorem d6_1 : decode prog_32_method_4_code 1 = .ok (.instanceof 8, 3) := by decide +kernel
theorem d6_4 : decode prog_32_method_4_code 4 = .ok (.ifCond .eq 37, 3) := by decide +kernel
theorem d6_41 : decode prog_32_method_4_code 41 = .ok (.iconst 0, 1) := by decide +kernel
theorem d6_42 : decode prog_32_method_4_code 42 = .ok (.ireturn, 1) := by decide +kernel
theorem ef_rmeN (m : MethodId) (x0 : Addr) : entryFrame m #[(.ref x0), .null] 3 = mkF m 0 #[.val (.ref x0), .val .null, .unset] [] := by first | (simp [entryFrame, mkF, argsToLocals, Value.category]; done) | rfl
def QrmeN (Z : State) (a : Addr) (h0 : Heap) (n0 : Nat) (v : Option Value) (h : Heap) (L : List Loc) : Prop := v = some (.int 0) ∧ Fr n0 L ∧ h = h0
set_option maxRecDepth 65536 in
set_option maxHeartbeats 40000000 in
theorem rmeN (l : Launch) (Z : State) (a0 : Array Value) (hw : ∀ d ∈ tables_1, d.before a0 Z = true) (ws : List Jvm.Cond) (a : Addr) (h0 : Heap) (n0 : Nat) (O : Old Z n0 h0) :
    MetFree l (⟨"com/example/crete/crete/TreeItem", "equals", "(Ljava/lang/Object;)Z"⟩ : MethodName) (head1 (Jvm.Cond.code (⟨"com/example/crete/crete/TreeItem", "equals", "(Ljava/lang/Object;)Z"⟩ : MethodName) prog_32_method_4_code 3 (some .boolean) :: ws) ({ frames := 0, cells := 0, slots := 0, locals := 0 } : Room)) (fun a' U' => a' = #[(.ref a), .null] ∧ Z.Warmed39 U'.vm ∧ U'.heap = h0) (fun _ _ _ _ _ => True) (fun _ U' o' W' => ∃ v' L', o' = .returned v' ∧ QrmeN Z a h0 n0 v' W'.heap L' ∧ FrameEnd U' o' W' L' ({ frames := 0, cells := 0, slots := 0, locals := 0 } : Room).cells ({ frames := 0, cells := 0, slots := 0, locals := 0 } : Room).slots) := by
  refine MetFree.of_bodySF (plainFor_of_name pn_3) hisR ?_
  intro p e s m args below meth c s₁ Bd hml0 hP hK
  obtain ⟨rfl, hZ, hh⟩ := hP
  have hx := Bd.exec
  have hby := Bd.bytes
  have hml : c.maxLocals = 3 := hml0
  have hown : s.vm.findClass "com/example/crete/crete/TreeItem" = some m.cls := findClass_of_methodNamed Bd.named
  have hnm := (name_of_methodNamed Bd.named Bd.method).1
  have X0 : Stand p l e ({ frames := 0, cells := 0, slots := 0, locals := 0 } : Room) s m #[(.ref a), .null] below meth c s₁ [] 0 0 := Stand.of_body Bd
  have e0 : s₁.heap = h0 := by rw [← hh, Bd.state]; rfl
  have N0 := Fr.nil n0
  refine own_start (ef_rmeN m a) (Q := fun o' t' => ∃ v' L', o' = .returned v' ∧ QrmeN Z a h0 n0 v' t'.heap L' ∧ FrameEnd s o' t' L' ({ frames := 0, cells := 0, slots := 0, locals := 0 } : Room).cells ({ frames := 0, cells := 0, slots := 0, locals := 0 } : Room).slots) ?_
  show own_Fin p e below (s₁.setTop (mkF m 0 #[.val (.ref a), .val .null, .unset] [])) _
  refine own_go (fun _ k => XS.aloadN X0.here hx rfl (hb hby d6_0) rfl rfl k) ?_
  show own_Fin p e below (s₁.setTop (mkF m 1 #[.val (.ref a), .val .null, .unset] [.null])) _
  refine own_go (fun _ k => X0.instanceofNull hx (g := (mkF m 1 #[.val (.ref a), .val .null, .unset] [.null])) rfl rfl (hb hby d6_1) _ k) ?_
  show own_Fin p e below (s₁.setTop (mkF m 4 #[.val (.ref a), .val .null, .unset] [(.int 0)])) _
  refine own_go (fun _ k => XS.ifYes X0.here hx rfl (pc0 := 4) (pc' := 41) rfl (hb hby d6_4) rfl ((if0 _ _).trans (teq (by decide : (0 : Int32) = (0 : Int32))).1) (by decide) (by decide) (XS.iconst X0.here hx rfl (hb hby d6_41) k)) ?_
  show own_Fin p e below (s₁.setTop (mkF m 42 #[.val (.ref a), .val .null, .unset] [(.int 0)])) _
  obtain ⟨fs, hr, hrun, hended, hW, hsame⟩ := X0.leave (v := some (.int 0)) (fun h => by rw [Bd.returns] at h; cases h)
  refine ⟨_, _, ?_, hrun, hended, _, _, rfl, ?_, ⟨_, rfl⟩, hW, hsame.mono (by decide) (by decide)⟩
  ·exact retN X0 hx (t := .boolean) Bd.returns (by simp) (hb hby d6_42) hr
  ·show QrmeN Z a h0 n0 _ s₁.heap _
   rw [e0]
   exact ⟨rfl, N0, rfl⟩
theorem ef_rmeT (m : MethodId) (x0 : Addr) (x1 : Addr) : entryFrame m #[(.ref x0), (.ref x1)] 3 = mkF m 0 #[.val (.ref x0), .val (.ref x1), .unset] [] := by first | (simp [entryFrame, mkF, argsToLocals, Value.category]; done) | rfl
def QrmeT (Z : State) (a : Addr) (s_ : Addr) (h0 : Heap) (n0 : Nat) (v : Option Value) (h : Heap) (L : List Loc) : Prop := v = some (.int 0) ∧ Fr n0 L ∧ h = h0
set_option maxRecDepth 65536 in
set_option maxHeartbeats 40000000 in
theorem rmeT (l : Launch) (Z : State) (a0 : Array Value) (hw : ∀ d ∈ tables_1, d.before a0 Z = true) (ws : List Jvm.Cond) (a : Addr) (s_ : Addr) (h0 : Heap) (n0 : Nat) (O : Old Z n0 h0) (E_s_ : Exa Z h0 s_ "java/lang/String") :
    MetFree l (⟨"com/example/crete/crete/TreeItem", "equals", "(Ljava/lang/Object;)Z"⟩ : MethodName) (head1 (Jvm.Cond.code (⟨"com/example/crete/crete/TreeItem", "equals", "(Ljava/lang/Object;)Z"⟩ : MethodName) prog_32_method_4_code 3 (some .boolean) :: ws) ({ frames := 0, cells := 0, slots := 0, locals := 0 } : Room)) (fun a' U' => a' = #[(.ref a), (.ref s_)] ∧ Z.Warmed39 U'.vm ∧ U'.heap = h0) (fun _ _ _ _ _ => True) (fun _ U' o' W' => ∃ v' L', o' = .returned v' ∧ QrmeT Z a s_ h0 n0 v' W'.heap L' ∧ FrameEnd U' o' W' L' ({ frames := 0, cells := 0, slots := 0, locals := 0 } : Room).cells ({ frames := 0, cells := 0, slots := 0, locals := 0 } : Room).slots) := by
  refine MetFree.of_bodySF (plainFor_of_name pn_3) hisR ?_
  intro p e s m args below meth c s₁ Bd hml0 hP hK
  obtain ⟨rfl, hZ, hh⟩ := hP
  have hx := Bd.exec
  have hby := Bd.bytes
  have hml : c.maxLocals = 3 := hml0
  have hown : s.vm.findClass "com/example/crete/crete/TreeItem" = some m.cls := findClass_of_methodNamed Bd.named
  have hnm := (name_of_methodNamed Bd.named Bd.method).1
  have X0 : Stand p l e ({ frames := 0, cells := 0, slots := 0, locals := 0 } : Room) s m #[(.ref a), (.ref s_)] below meth c s₁ [] 0 0 := Stand.of_body Bd
  have e0 : s₁.heap = h0 := by rw [← hh, Bd.state]; rfl
  have N0 := Fr.nil n0
  refine own_start (ef_rmeT m a s_) (Q := fun o' t' => ∃ v' L', o' = .returned v' ∧ QrmeT Z a s_ h0 n0 v' t'.heap L' ∧ FrameEnd s o' t' L' ({ frames := 0, cells := 0, slots := 0, locals := 0 } : Room).cells ({ frames := 0, cells := 0, slots := 0, locals := 0 } : Room).slots) ?_
  show own_Fin p e below (s₁.setTop (mkF m 0 #[.val (.ref a), .val (.ref s_), .unset] [])) _
  refine own_go (fun _ k => XS.aloadN X0.here hx rfl (hb hby d6_0) rfl rfl k) ?_
  show own_Fin p e below (s₁.setTop (mkF m 1 #[.val (.ref a), .val (.ref s_), .unset] [(.ref s_)])) _
  obtain ⟨T79, X79, e79, st79⟩ := instNo X0 hx hZ hown (ow hw 42) e0 E_s_ (own_notOf (ow hw 77) (ow hw 78) (ow hw 27) (by decide) (by decide)) (g := (mkF m 1 #[.val (.ref a), .val (.ref s_), .unset] [(.ref s_)])) rfl rfl (hb hby d6_1)
  refine own_go (fun _ k => st79 _ k) ?_
  show own_Fin p e below (T79.setTop (mkF m 4 #[.val (.ref a), .val (.ref s_), .unset] [(.int 0)])) _
  refine own_go (fun _ k => XS.ifYes X79.here hx rfl (pc0 := 4) (pc' := 41) rfl (hb hby d6_4) rfl ((if0 _ _).trans (teq (by decide : (0 : Int32) = (0 : Int32))).1) (by decide) (by decide) (XS.iconst X79.here hx rfl (hb hby d6_41) k)) ?_
  show own_Fin p e below (T79.setTop (mkF m 42 #[.val (.ref a), .val (.ref s_), .unset] [(.int 0)])) _
  obtain ⟨fs, hr, hrun, hended, hW, hsame⟩ := X79.leave (v := some (.int 0)) (fun h => by rw [Bd.returns] at h; cases h)
  refine ⟨_, _, ?_, hrun, hended, _, _, rfl, ?_, ⟨_, rfl⟩, hW, hsame.mono (by decide) (by decide)⟩
  ·exact retN X79 hx (t := .boolean) Bd.returns (by simp) (hb hby d6_42) hr
  ·show QrmeT Z a s_ h0 n0 _ T79.heap _
   rw [e79]
   exact ⟨rfl, N0, rfl⟩
theorem d6_7 : decode prog_32_method_4_code 7 = .ok (.aload_n 1, 1) := by decide +kernel
theorem d6_8 : decode prog_32_method_4_code 8 = .ok (.checkcast 8, 3) := by decide +kernel
theorem d6_11 : decode prog_32_method_4_code 11 = .ok (.astore_n 2, 1) := by decide +kernel
theorem d6_12 : decode prog_32_method_4_code 12 = .ok (.aload_n 2, 1) := by decide +kernel
theorem d6_13 : decode prog_32_method_4_code 13 = .ok (.getfield 7, 3) := by decide +kernel
theorem d6_16 : decode prog_32_method_4_code 16 = .ok (.aload_n 0, 1) := by decide +kernel
theorem d6_17 : decode prog_32_method_4_code 17 = .ok (.getfield 7, 3) := by decide +kernel
theorem d6_20 : decode prog_32_method_4_code 20 = .ok (.invokevirtual 17, 3) := by decide +kernel
theorem pd_6 : parseMethodDescriptor "(Ljava/lang/Object;)Z" = some ⟨[(.object "java/lang/Object")], some .boolean⟩ := by decide +kernel
theorem d6_23 : decode prog_32_method_4_code 23 = .ok (.ifCond .eq 18, 3) := by decide +kernel
theorem d6_26 : decode prog_32_method_4_code 26 = .ok (.aload_n 2, 1) := by decide +kernel
theorem d6_27 : decode prog_32_method_4_code 27 = .ok (.getfield 13, 3) := by decide +kernel
theorem d6_30 : decode prog_32_method_4_code 30 = .ok (.aload_n 0, 1) := by decide +kernel
theorem d6_31 : decode prog_32_method_4_code 31 = .ok (.getfield 13, 3) := by decide +kernel
theorem d6_34 : decode prog_32_method_4_code 34 = .ok (.if_icmp .ne 7, 3) := by decide +kernel
theorem d6_37 : decode prog_32_method_4_code 37 = .ok (.iconst 1, 1) := by decide +kernel
theorem d6_38 : decode prog_32_method_4_code 38 = .ok (.goto 4, 3) := by decide +kernel
theorem ef_rmeU (m : MethodId) (x0 : Addr) (x1 : Addr) : entryFrame m #[(.ref x0), (.ref x1)] 3 = mkF m 0 #[.val (.ref x0), .val (.ref x1), .unset] [] := by first | (simp [entryFrame, mkF, argsToLocals, Value.category]; done) | rfl
def QrmeU (Z : State) (a : Addr) (b : Addr) (f1 : Int32) (f2 : Int32) (s1 : Addr) (t1 : Addr) (kb1 : ClassId) (cs : List Int32) (s2 : Addr) (t2 : Addr) (kb2 : ClassId) (ds : List Int32) (z : Int32) (h0 : Heap) (n0 : Nat) (v : Option Value) (h : Heap) (L : List Loc) : Prop := v = some (.int (own_bi (ds = cs ∧ (nar .boolean f2) = (nar .boolean f1)))) ∧ Fr n0 L ∧ h = h0
set_option maxRecDepth 65536 in
set_option maxHeartbeats 40000000 in
theorem rmeU (l : Launch) (Z : State) (a0 : Array Value) (hw : ∀ d ∈ tables_1, d.before a0 Z = true) (ws : List Jvm.Cond) (a : Addr) (b : Addr) (f1 : Int32) (f2 : Int32) (s1 : Addr) (t1 : Addr) (kb1 : ClassId) (cs : List Int32) (s2 : Addr) (t2 : Addr) (kb2 : ClassId) (ds : List Int32) (z : Int32) (h0 : Heap) (n0 : Nat) (O : Old Z n0 h0) (S_String_COMPACT_STRINGS : Sta Z Z.heap "java/lang/String" "COMPACT_STRINGS" "Z" (.int z)) (hz : ¬ (z = (0 : Int32))) (E_a : Exa Z h0 a "com/example/crete/crete/TreeItem") (E_b : Exa Z h0 b "com/example/crete/crete/TreeItem") (F_a_TreeItem_name : Fld Z h0 a "com/example/crete/crete/TreeItem" "name" "Ljava/lang/String;" (.ref s1)) (F_a_TreeItem_leaf : Fld Z h0 a "com/example/crete/crete/TreeItem" "leaf" "Z" (.int (nar .boolean f1))) (F_b_TreeItem_name : Fld Z h0 b "com/example/crete/crete/TreeItem" "name" "Ljava/lang/String;" (.ref s2)) (F_b_TreeItem_leaf : Fld Z h0 b "com/example/crete/crete/TreeItem" "leaf" "Z" (.int (nar .boolean f2))) (E_s1 : Exa Z h0 s1 "java/lang/String") (F_s1_String_coder : Fld Z h0 s1 "java/lang/String" "coder" "B" (.int 0)) (F_s1_String_value : Fld Z h0 s1 "java/lang/String" "value" "[B" (.ref t1)) (V_t1 : Arv Z h0 t1 kb1 .byte (Int32.ofNat cs.length) (((cs).map (fun c => c.toInt8.toInt32)).map Value.int) (.int 0)) (E_s2 : Exa Z h0 s2 "java/lang/String") (F_s2_String_coder : Fld Z h0 s2 "java/lang/String" "coder" "B" (.int 0)) (F_s2_String_value : Fld Z h0 s2 "java/lang/String" "value" "[B" (.ref t2)) (V_t2 : Arv Z h0 t2 kb2 .byte (Int32.ofNat ds.length) (((ds).map (fun c => c.toInt8.toInt32)).map Value.int) (.int 0)) (hp : ∀ c ∈ cs, ¬ c < 0 ∧ ¬ (255 : Int32) < c) (hq : ∀ c ∈ ds, ¬ c < 0 ∧ ¬ (255 : Int32) < c) (l1 : cs.length ≤ 4000) (l2 : ds.length ≤ 4000) :
    MetFree l (⟨"com/example/crete/crete/TreeItem", "equals", "(Ljava/lang/Object;)Z"⟩ : MethodName) (head1 (Jvm.Cond.code (⟨"com/example/crete/crete/TreeItem", "equals", "(Ljava/lang/Object;)Z"⟩ : MethodName) prog_32_method_4_code 3 (some .boolean) :: ws) ({ frames := 2, cells := 0, slots := 0, locals := 28 } : Room)) (fun a' U' => a' = #[(.ref a), (.ref b)] ∧ Z.Warmed39 U'.vm ∧ U'.heap = h0) (fun _ _ _ _ _ => True) (fun _ U' o' W' => ∃ v' L', o' = .returned v' ∧ QrmeU Z a b f1 f2 s1 t1 kb1 cs s2 t2 kb2 ds z h0 n0 v' W'.heap L' ∧ FrameEnd U' o' W' L' ({ frames := 2, cells := 0, slots := 0, locals := 28 } : Room).cells ({ frames := 2, cells := 0, slots := 0, locals := 28 } : Room).slots) := by
  refine MetFree.of_bodySF (plainFor_of_name pn_3) hisR ?_
  intro p e s m args below meth c s₁ Bd hml0 hP hK
  obtain ⟨rfl, hZ, hh⟩ := hP
  have hx := Bd.exec
  have hby := Bd.bytes
  have hml : c.maxLocals = 3 := hml0
  have hown : s.vm.findClass "com/example/crete/crete/TreeItem" = some m.cls := findClass_of_methodNamed Bd.named
  have hnm := (name_of_methodNamed Bd.named Bd.method).1
  have X0 : Stand p l e ({ frames := 2, cells := 0, slots := 0, locals := 28 } : Room) s m #[(.ref a), (.ref b)] below meth c s₁ [] 0 0 := Stand.of_body Bd
  have e0 : s₁.heap = h0 := by rw [← hh, Bd.state]; rfl
  have N0 := Fr.nil n0
  refine own_start (ef_rmeU m a b) (Q := fun o' t' => ∃ v' L', o' = .returned v' ∧ QrmeU Z a b f1 f2 s1 t1 kb1 cs s2 t2 kb2 ds z h0 n0 v' t'.heap L' ∧ FrameEnd s o' t' L' ({ frames := 2, cells := 0, slots := 0, locals := 28 } : Room).cells ({ frames := 2, cells := 0, slots := 0, locals := 28 } : Room).slots) ?_
  show own_Fin p e below (s₁.setTop (mkF m 0 #[.val (.ref a), .val (.ref b), .unset] [])) _
  refine own_go (fun _ k => XS.aloadN X0.here hx rfl (hb hby d6_0) rfl rfl k) ?_
  show own_Fin p e below (s₁.setTop (mkF m 1 #[.val (.ref a), .val (.ref b), .unset] [(.ref b)])) _
  obtain ⟨T81, X81, e81, st81⟩ := instY X0 hx hZ hown (ow hw 42) e0 (Ins.self E_b) (g := (mkF m 1 #[.val (.ref a), .val (.ref b), .unset] [(.ref b)])) rfl rfl (hb hby d6_1)
  refine own_go (fun _ k => st81 _ k) ?_
  show own_Fin p e below (T81.setTop (mkF m 4 #[.val (.ref a), .val (.ref b), .unset] [(.int 1)])) _
  refine own_go (fun _ k => XS.ifNo X81.here hx rfl (hb hby d6_4) rfl ((if0 _ _).trans (feq (by decide : ¬ ((1 : Int32) = (0 : Int32)))).1) (XS.aloadN X81.here hx rfl (hb hby d6_7) rfl rfl k)) ?_
  show own_Fin p e below (T81.setTop (mkF m 8 #[.val (.ref a), .val (.ref b), .unset] [(.ref b)])) _
  obtain ⟨T82, X82, e82, st82⟩ := castY X81 hx hZ hown (ow hw 42) e81 (Ins.self E_b) (g := (mkF m 8 #[.val (.ref a), .val (.ref b), .unset] [(.ref b)])) rfl rfl (hb hby d6_8)
  refine own_go (fun _ k => st82 _ k) ?_
  show own_Fin p e below (T82.setTop (mkF m 11 #[.val (.ref a), .val (.ref b), .unset] [(.ref b)])) _
  refine own_go (fun _ k => XS.astoreN X82.here hx rfl (hb hby d6_11) rfl rfl (l' := #[.val (.ref a), .val (.ref b), .val (.ref b)]) rfl (XS.aloadN X82.here hx rfl (hb hby d6_12) rfl rfl k)) ?_
  show own_Fin p e below (T82.setTop (mkF m 13 #[.val (.ref a), .val (.ref b), .val (.ref b)] [(.ref b)])) _
  obtain ⟨T83, X83, e83, st83⟩ := getF X82 hx hZ hown (host := "") (Or.inl (ow hw 33)) Via.refl e82 F_b_TreeItem_name (g := (mkF m 13 #[.val (.ref a), .val (.ref b), .val (.ref b)] [(.ref b)])) rfl rfl (hb hby d6_13)
  refine own_go (fun _ k => st83 _ k) ?_
  show own_Fin p e below (T83.setTop (mkF m 16 #[.val (.ref a), .val (.ref b), .val (.ref b)] [(.ref s2)])) _
  refine own_go (fun _ k => XS.aloadN X83.here hx rfl (hb hby d6_16) rfl rfl k) ?_
  show own_Fin p e below (T83.setTop (mkF m 17 #[.val (.ref a), .val (.ref b), .val (.ref b)] [(.ref a), (.ref s2)])) _
  obtain ⟨T84, X84, e84, st84⟩ := getF X83 hx hZ hown (host := "") (Or.inl (ow hw 33)) Via.refl e83 F_a_TreeItem_name (g := (mkF m 17 #[.val (.ref a), .val (.ref b), .val (.ref b)] [(.ref a), (.ref s2)])) rfl rfl (hb hby d6_17)
  refine own_go (fun _ k => st84 _ k) ?_
  show own_Fin p e below (T84.setTop (mkF m 20 #[.val (.ref a), .val (.ref b), .val (.ref b)] [(.ref s1), (.ref s2)])) _
  obtain ⟨cq85, kq85, q85a, q85b, q85c⟩ := isOf hZ e84 E_s2
  obtain ⟨_, _, ⟨T85, L85, k85, n85⟩, -, X85, ⟨Lc85, hQ85, l85, y85, z85⟩, st85⟩ := X84.virtualBack hx (y := (⟨"java/lang/String", "equals", "(Ljava/lang/Object;)Z"⟩ : MethodName)) (z := (⟨"java/lang/String", "equals", "(Ljava/lang/Object;)Z"⟩ : MethodName)) hown (mvT hZ (ow hw 44)) (mvT hZ (ow hw 45)) (notFace_of_selects (args := #[]) (mvT hZ (ow hw 47))) (mvT hZ (ow hw 47)) (mvT hZ (ow hw 46)) (by decide) (StrChars.Road.eqW (W := 0) hZ (own_wE hw) (kI := 4) (ow hw 5) (cs := ds) E_s2 F_s2_String_value F_s2_String_coder V_t2 (StrChars.Road.codOf (n := (ds).length) rfl (fun c hc => (hq c hc).2)) (own_up hq) l2 (ds := cs) E_s1 F_s1_String_value F_s1_String_coder V_t1 (StrChars.Road.codOf (n := (cs).length) rfl (fun c hc => (hp c hc).2)) (own_up hp) l1 (S_String_COMPACT_STRINGS.ext O.2) hz (Nat.le_of_ble_eq_true rfl) (Nat.le_of_ble_eq_true rfl)) q85a q85c (g := (mkF m 20 #[.val (.ref a), .val (.ref b), .val (.ref b)] [(.ref s1), (.ref s2)])) rfl (by rw [hml]; rfl) (Steps.refl _) (argsL := [(.ref s1)]) (rest := []) (lenOf pd_6 rfl) rfl (by show 2 * 0 + _ ≤ _; exact Nat.le_of_eq rfl) (hb hby d6_20) (fun _ _ => ⟨rfl, e84, (by decide : 0 + 0 ≤ _), (by decide : 0 + 0 ≤ _)⟩)
  dsimp only [Pt.U, Pt.locs, Pt.cells, Pt.slots] at X85 l85 y85 z85 st85 hQ85
  subst l85 y85 z85
  refine own_go (fun _ k => st85.trans k) ?_
  obtain ⟨hv85, rfl, e85⟩ := hQ85
  obtain rfl := own_eqBi hv85
  have N85 := Fr.app N0 (Fr.nil n0)
  show own_Fin p e below (T85.setTop (mkF m 23 #[.val (.ref a), .val (.ref b), .val (.ref b)] [(.int (own_bi (ds = cs)))])) _
  by_cases hc23_86 : ds = cs
  ·refine own_go (fun _ k => XS.ifNo X85.here hx rfl (hb hby d6_23) rfl ((if0 _ _).trans (feq (own_bn hc23_86)).1) (XS.aloadN X85.here hx rfl (hb hby d6_26) rfl rfl k)) ?_
   show own_Fin p e below (T85.setTop (mkF m 27 #[.val (.ref a), .val (.ref b), .val (.ref b)] [(.ref b)])) _
   obtain ⟨T87, X87, e87, st87⟩ := getF X85 hx hZ hown (host := "") (Or.inl (ow hw 35)) Via.refl e85 F_b_TreeItem_leaf (g := (mkF m 27 #[.val (.ref a), .val (.ref b), .val (.ref b)] [(.ref b)])) rfl rfl (hb hby d6_27)
   refine own_go (fun _ k => st87 _ k) ?_
   show own_Fin p e below (T87.setTop (mkF m 30 #[.val (.ref a), .val (.ref b), .val (.ref b)] [(.int (nar .boolean f2))])) _
   refine own_go (fun _ k => XS.aloadN X87.here hx rfl (hb hby d6_30) rfl rfl k) ?_
   show own_Fin p e below (T87.setTop (mkF m 31 #[.val (.ref a), .val (.ref b), .val (.ref b)] [(.ref a), (.int (nar .boolean f2))])) _
   obtain ⟨T88, X88, e88, st88⟩ := getF X87 hx hZ hown (host := "") (Or.inl (ow hw 35)) Via.refl e87 F_a_TreeItem_leaf (g := (mkF m 31 #[.val (.ref a), .val (.ref b), .val (.ref b)] [(.ref a), (.int (nar .boolean f2))])) rfl rfl (hb hby d6_31)
   refine own_go (fun _ k => st88 _ k) ?_
   show own_Fin p e below (T88.setTop (mkF m 34 #[.val (.ref a), .val (.ref b), .val (.ref b)] [(.int (nar .boolean f1)), (.int (nar .boolean f2))])) _
   by_cases hc34_89 : (nar .boolean f2) = (nar .boolean f1)
   ·refine own_go (fun _ k => XS.icmpNo X88.here hx rfl (hb hby d6_34) rfl (teq hc34_89).2 (XS.iconst X88.here hx rfl (hb hby d6_37) (XS.goto X88.here hx rfl (pc0 := 38) (pc' := 42) rfl (hb hby d6_38) (by decide) (by decide) k))) ?_
    show own_Fin p e below (T88.setTop (mkF m 42 #[.val (.ref a), .val (.ref b), .val (.ref b)] [(.int 1)])) _
    obtain ⟨fs, hr, hrun, hended, hW, hsame⟩ := X88.leave (v := some (.int 1)) (fun h => by rw [Bd.returns] at h; cases h)
    refine ⟨_, _, ?_, hrun, hended, _, _, rfl, ?_, ⟨_, rfl⟩, hW, hsame.mono (by decide) (by decide)⟩
    ·exact retN X88 hx (t := .boolean) Bd.returns (by simp) (hb hby d6_42) hr
    ·show QrmeU Z a b f1 f2 s1 t1 kb1 cs s2 t2 kb2 ds z h0 n0 _ T88.heap _
     rw [e88]
     exact ⟨(by simp [own_bi, hc23_86, hc34_89]), N85, rfl⟩
   ·refine own_go (fun _ k => XS.icmpYes X88.here hx rfl (pc0 := 34) (pc' := 41) rfl (hb hby d6_34) rfl (feq hc34_89).2 (by decide) (by decide) (XS.iconst X88.here hx rfl (hb hby d6_41) k)) ?_
    show own_Fin p e below (T88.setTop (mkF m 42 #[.val (.ref a), .val (.ref b), .val (.ref b)] [(.int 0)])) _
    obtain ⟨fs, hr, hrun, hended, hW, hsame⟩ := X88.leave (v := some (.int 0)) (fun h => by rw [Bd.returns] at h; cases h)
    refine ⟨_, _, ?_, hrun, hended, _, _, rfl, ?_, ⟨_, rfl⟩, hW, hsame.mono (by decide) (by decide)⟩
    ·exact retN X88 hx (t := .boolean) Bd.returns (by simp) (hb hby d6_42) hr
    ·show QrmeU Z a b f1 f2 s1 t1 kb1 cs s2 t2 kb2 ds z h0 n0 _ T88.heap _
     rw [e88]
     exact ⟨(by simp [own_bi, hc23_86, hc34_89]), N85, rfl⟩
  ·refine own_go (fun _ k => XS.ifYes X85.here hx rfl (pc0 := 23) (pc' := 41) rfl (hb hby d6_23) rfl ((if0 _ _).trans (teq (own_bz hc23_86)).1) (by decide) (by decide) (XS.iconst X85.here hx rfl (hb hby d6_41) k)) ?_
   show own_Fin p e below (T85.setTop (mkF m 42 #[.val (.ref a), .val (.ref b), .val (.ref b)] [(.int 0)])) _
   obtain ⟨fs, hr, hrun, hended, hW, hsame⟩ := X85.leave (v := some (.int 0)) (fun h => by rw [Bd.returns] at h; cases h)
   refine ⟨_, _, ?_, hrun, hended, _, _, rfl, ?_, ⟨_, rfl⟩, hW, hsame.mono (by decide) (by decide)⟩
   ·exact retN X85 hx (t := .boolean) Bd.returns (by simp) (hb hby d6_42) hr
   ·show QrmeU Z a b f1 f2 s1 t1 kb1 cs s2 t2 kb2 ds z h0 n0 _ T85.heap _
    rw [e85]
    exact ⟨(by simp [own_bi, hc23_86]), N85, rfl⟩
theorem pd_7 : parseMethodDescriptor "(ICC)Ljava/lang/String;" = some ⟨[.int, .char, .char], some (.object "java/lang/String")⟩ := by decide +kernel
theorem pd_8 : parseMethodDescriptor "(Ljava/lang/String;Z)V" = some ⟨[(.object "java/lang/String"), .boolean], none⟩ := by decide +kernel
theorem ef_rm0 (m : MethodId) (x0 : Int32) (x1 : Int32) (x2 : Int32) : entryFrame m #[(.int x0), (.int x1), (.int x2)] maxLocals = mkF m 0 #[.val (.int x0), .val (.int x1), .val (.int x2), .unset, .unset, .unset, .unset, .unset, .unset, .unset, .unset, .unset, .unset, .unset, .unset, .unset, .unset, .unset] [] := by first | (simp [entryFrame, mkF, argsToLocals, Value.category, maxLocals]; done) | rfl
def Qrm0 (Z : State) (p0 : Int32) (p1 : Int32) (p2 : Int32) (z : Int32) (h0 : Heap) (n0 : Nat) (v : Option Value) (h : Heap) (L : List Loc) : Prop := v = some (.int 1) ∧ Fr n0 L ∧ Keep h0 h []
set_option maxRecDepth 65536 in
set_option maxHeartbeats 40000000 in
theorem rm0 (l : Launch) (Z : State) (a0 : Array Value) (hw : ∀ d ∈ tables_1, d.before a0 Z = true) (ws : List Jvm.Cond) (p0 : Int32) (p1 : Int32) (p2 : Int32) (z : Int32) (h0 : Heap) (n0 : Nat) (O : Old Z n0 h0) (S_String_COMPACT_STRINGS : Sta Z Z.heap "java/lang/String" "COMPACT_STRINGS" "Z" (.int z)) (hz : ¬ (z = (0 : Int32))) :
    MetFree l x (head1 (Jvm.Cond.code x code maxLocals ret :: ws) room_1) (fun a' U' => a' = #[(.int p0), (.int p1), (.int p2)] ∧ Z.Warmed39 U'.vm ∧ U'.heap = h0 ∧ CHv Z own_EL U'.vm h0) (fun _ _ _ _ _ => True) (fun _ U' o' W' => ∃ v' L', o' = .returned v' ∧ Qrm0 Z p0 p1 p2 z h0 n0 v' W'.heap L' ∧ CHr Z own_EL U'.vm U'.heap W'.vm W'.heap ∧ ReturnedEndW U' o' W' L' 14 28) := by
  refine MetFree.of_bodySF (plainFor_of_name pn_2) hisR ?_
  intro p e s m args below meth c s₁ Bd hml0 hP hK
  obtain ⟨rfl, hZ, hh, HC⟩ := hP
  have hx := Bd.exec
  have hby := Bd.bytes
  have hml : c.maxLocals = 18 := hml0
  have hown : s.vm.findClass "com/example/crete/crete/TreeItemEqualsPinLaw" = some m.cls := findClass_of_methodNamed Bd.named
  have hnm := (name_of_methodNamed Bd.named Bd.method).1
  have X0 : Stand p l e room_1 (s.setVm s.vm) m #[(.int p0), (.int p1), (.int p2)] below meth c s₁ [] 0 0 := Stand.of_body Bd
  have e0 : s₁.heap = h0 := by rw [← hh, Bd.state]; rfl
  have N0 := Fr.nil n0
  have K0 := Keep.refl h0 []
  have CR := CHr.refl HC
  have hS : s.Since s.vm h0.size := (State.WarmedH.refl s).since _
  have hk : h0.size ≤ h0.size := Nat.le_refl _
  refine own_start (ef_rm0 m p0 p1 p2) (Q := fun o' t' => ∃ v' L', o' = .returned v' ∧ Qrm0 Z p0 p1 p2 z h0 n0 v' t'.heap L' ∧ CHr Z own_EL s.vm s.heap t'.vm t'.heap ∧ ReturnedEndW s o' t' L' 14 28) ?_
  show own_Fin p e below (s₁.setTop (mkF m 0 #[.val (.int p0), .val (.int p1), .val (.int p2), .unset, .unset, .unset, .unset, .unset, .unset, .unset, .unset, .unset, .unset, .unset, .unset, .unset, .unset, .unset] [])) _
  refine own_go (fun _ k => XS.iloadN X0.here hx rfl (hb hby at_0) rfl (XS.bipush X0.here hx rfl (hb hby at_1) (XS.iushr X0.here hx rfl (hb hby at_3) rfl (XS.iconst X0.here hx rfl (hb hby at_4) (XS.iand X0.here hx rfl (hb hby at_5) rfl (XS.iconst X0.here hx rfl (hb hby at_6) (iremM X0 hx rfl (hb hby at_7) rfl (by decide) (XS.istoreN X0.here hx rfl (hb hby at_8) rfl (l' := #[.val (.int p0), .val (.int p1), .val (.int p2), .val (.int ((((p0.toUInt32 >>> ((16 : Int32) &&& 31).toUInt32).toInt32) &&& (3 : Int32)) % (3 : Int32))), .unset, .unset, .unset, .unset, .unset, .unset, .unset, .unset, .unset, .unset, .unset, .unset, .unset, .unset]) rfl (XS.iloadN X0.here hx rfl (hb hby at_9) rfl (XS.sipush X0.here hx rfl (hb hby at_10) k)))))))))) ?_
  show own_Fin p e below (s₁.setTop (mkF m 13 #[.val (.int p0), .val (.int p1), .val (.int p2), .val (.int ((((p0.toUInt32 >>> ((16 : Int32) &&& 31).toUInt32).toInt32) &&& (3 : Int32)) % (3 : Int32))), .unset, .unset, .unset, .unset, .unset, .unset, .unset, .unset, .unset, .unset, .unset, .unset, .unset, .unset] [(.int 255), (.int p0)])) _
  refine own_go (fun _ k => XS.iand X0.here hx rfl (hb hby at_13) rfl (XS.i2c X0.here hx rfl (hb hby at_14) rfl (XS.istore X0.here hx rfl (hb hby at_15) rfl (l' := #[.val (.int p0), .val (.int p1), .val (.int p2), .val (.int ((((p0.toUInt32 >>> ((16 : Int32) &&& 31).toUInt32).toInt32) &&& (3 : Int32)) % (3 : Int32))), .val (.int ((p0 &&& (255 : Int32)).toUInt32.toUInt16.toUInt32.toInt32)), .unset, .unset, .unset, .unset, .unset, .unset, .unset, .unset, .unset, .unset, .unset, .unset, .unset]) rfl (XS.iloadN X0.here hx rfl (hb hby at_17) rfl (XS.bipush X0.here hx rfl (hb hby at_18) (XS.iushr X0.here hx rfl (hb hby at_20) rfl (XS.sipush X0.here hx rfl (hb hby at_21) (XS.iand X0.here hx rfl (hb hby at_24) rfl (XS.i2c X0.here hx rfl (hb hby at_25) rfl (XS.istore X0.here hx rfl (hb hby at_26) rfl (l' := #[.val (.int p0), .val (.int p1), .val (.int p2), .val (.int ((((p0.toUInt32 >>> ((16 : Int32) &&& 31).toUInt32).toInt32) &&& (3 : Int32)) % (3 : Int32))), .val (.int ((p0 &&& (255 : Int32)).toUInt32.toUInt16.toUInt32.toInt32)), .val (.int ((((p0.toUInt32 >>> ((8 : Int32) &&& 31).toUInt32).toInt32) &&& (255 : Int32)).toUInt32.toUInt16.toUInt32.toInt32)), .unset, .unset, .unset, .unset, .unset, .unset, .unset, .unset, .unset, .unset, .unset, .unset]) rfl k)))))))))) ?_
  show own_Fin p e below (s₁.setTop (mkF m 28 #[.val (.int p0), .val (.int p1), .val (.int p2), .val (.int ((((p0.toUInt32 >>> ((16 : Int32) &&& 31).toUInt32).toInt32) &&& (3 : Int32)) % (3 : Int32))), .val (.int ((p0 &&& (255 : Int32)).toUInt32.toUInt16.toUInt32.toInt32)), .val (.int ((((p0.toUInt32 >>> ((8 : Int32) &&& 31).toUInt32).toInt32) &&& (255 : Int32)).toUInt32.toUInt16.toUInt32.toInt32)), .unset, .unset, .unset, .unset, .unset, .unset, .unset, .unset, .unset, .unset, .unset, .unset] [])) _
  have j28 : ∀ (n1 : Int32) (c0 : Int32) (c1 : Int32), own_N n1 → ¬ c0 < 0 ∧ ¬ (255 : Int32) < c0 → ¬ c1 < 0 ∧ ¬ (255 : Int32) < c1 → own_Fin p e below (s₁.setTop (mkF m 28 #[.val (.int p0), .val (.int p1), .val (.int p2), .val (.int n1), .val (.int c0), .val (.int c1), .unset, .unset, .unset, .unset, .unset, .unset, .unset, .unset, .unset, .unset, .unset, .unset] [])) (fun o' t' => ∃ v' L', o' = .returned v' ∧ Qrm0 Z p0 p1 p2 z h0 n0 v' t'.heap L' ∧ CHr Z own_EL s.vm s.heap t'.vm t'.heap ∧ ReturnedEndW s o' t' L' 14 28) := by
   intro n1 c0 c1 hN1 hc0 hc1
   show own_Fin p e below (s₁.setTop (mkF m 28 #[.val (.int p0), .val (.int p1), .val (.int p2), .val (.int n1), .val (.int c0), .val (.int c1), .unset, .unset, .unset, .unset, .unset, .unset, .unset, .unset, .unset, .unset, .unset, .unset] [])) _
   refine own_go (fun _ k => XS.iloadN X0.here hx rfl (hb hby at_28) rfl k) ?_
   show own_Fin p e below (s₁.setTop (mkF m 29 #[.val (.int p0), .val (.int p1), .val (.int p2), .val (.int n1), .val (.int c0), .val (.int c1), .unset, .unset, .unset, .unset, .unset, .unset, .unset, .unset, .unset, .unset, .unset, .unset] [(.int p2)])) _
   have j118 : ∀ (f1 : Int32) (f2 : Int32) (d0 : Int32) (d1 : Int32) (n2 : Int32), f1 = 0 ∨ f1 = 1 → f2 = 0 ∨ f2 = 1 → ¬ d0 < 0 ∧ ¬ (255 : Int32) < d0 → ¬ d1 < 0 ∧ ¬ (255 : Int32) < d1 → own_N n2 → own_Fin p e below (s₁.setTop (mkF m 118 #[.val (.int p0), .val (.int p1), .val (.int p2), .val (.int n1), .val (.int c0), .val (.int c1), .val (.int f1), .val (.int f2), .val (.int d0), .val (.int d1), .val (.int n2), .unset, .unset, .unset, .unset, .unset, .unset, .unset] [])) (fun o' t' => ∃ v' L', o' = .returned v' ∧ Qrm0 Z p0 p1 p2 z h0 n0 v' t'.heap L' ∧ CHr Z own_EL s.vm s.heap t'.vm t'.heap ∧ ReturnedEndW s o' t' L' 14 28) := by
    intro f1 f2 d0 d1 n2 hf1 hf2 hd0 hd1 hn2
    show own_Fin p e below (s₁.setTop (mkF m 118 #[.val (.int p0), .val (.int p1), .val (.int p2), .val (.int n1), .val (.int c0), .val (.int c1), .val (.int f1), .val (.int f2), .val (.int d0), .val (.int d1), .val (.int n2), .unset, .unset, .unset, .unset, .unset, .unset, .unset] [])) _
    refine own_go (fun _ k => XS.iloadN X0.here hx rfl (hb hby at_118) rfl (XS.iload X0.here hx rfl (hb hby at_119) rfl (XS.iload X0.here hx rfl (hb hby at_121) rfl k))) ?_
    show own_Fin p e below (s₁.setTop (mkF m 123 #[.val (.int p0), .val (.int p1), .val (.int p2), .val (.int n1), .val (.int c0), .val (.int c1), .val (.int f1), .val (.int f2), .val (.int d0), .val (.int d1), .val (.int n2), .unset, .unset, .unset, .unset, .unset, .unset, .unset] [(.int c1), (.int c0), (.int n1)])) _
    obtain ⟨_, _, ⟨T93, L93, k93, n93⟩, -, X93, hS93, hg93, ⟨Lc93, hQ93, l93, y93, z93, CQ93⟩, st93⟩ := callSS X0 hx (y := (⟨"com/example/crete/crete/TreeItemEqualsPinLaw", "mk", "(ICC)Ljava/lang/String;"⟩ : MethodName)) hown (mvT hZ (ow hw 0)) (mvT hZ (ow hw 1)) (mvT hZ (ow hw 2)) (mvT hZ (ow hw 3)) (by decide) (backOfSH (W := 0) (rmk l Z a0 hw [] n1 c0 c1 z h0 n0 O S_String_COMPACT_STRINGS hz hc0 hc1) hZ (ow hw 3) (ow hw 2) (by decide) (by decide) (own_EW hw) HC) (g := (mkF m 123 #[.val (.int p0), .val (.int p1), .val (.int p2), .val (.int n1), .val (.int c0), .val (.int c1), .val (.int f1), .val (.int f2), .val (.int d0), .val (.int d1), .val (.int n2), .unset, .unset, .unset, .unset, .unset, .unset, .unset] [(.int c1), (.int c0), (.int n1)])) rfl (by rw [hml]; rfl) (argsL := [(.int n1), (.int c0), (.int c1)]) (rest := []) (lenOf pd_7 rfl) rfl (by show 2 * 0 + _ ≤ _; exact Nat.le_of_eq rfl) (hb hby at_123) (fun _ _ => ⟨rfl, e0, (by decide : 0 + 6 ≤ _), (by decide : 0 + 12 ≤ _)⟩)
    dsimp only [Pt.U, Pt.locs, Pt.cells, Pt.slots] at X93 l93 y93 z93 st93 hQ93
    subst l93 y93 z93
    obtain ⟨X93, hS, hZ, hown⟩ := rebS hS (Nat.le_trans hk (Nat.le_of_eq (congrArg Array.size e0).symm)) X93 hS93 hg93 hZ hown
    obtain ⟨s_94, t_95, kb_96, rfl, N93q, Kq93, P93_0, P93_1, P93_2, P93_3, P93_4, P93_5⟩ := hQ93
    refine own_go (fun _ k => st93.trans k) ?_
    have N93 := Fr.app N0 N93q
    have g_s_94 : n0 ≤ s_94 := Nat.le_trans (own_osz O) P93_0
    have sz_s_94 : h0.size ≤ s_94 := Nat.le_trans K0.1 P93_0
    have CR := CR.trans CQ93
    have HC := CQ93.1
    have O := O.keep Kq93 all0
    have K97 := K0.trans Kq93 all0
    have hk := Nat.le_refl T93.heap.size
    have E_s_94 := P93_2
    have F_s_94_String_coder := P93_3
    have F_s_94_String_value := P93_4
    have V_t_95 := P93_5
    show own_Fin p e below (T93.setTop (mkF m 126 #[.val (.int p0), .val (.int p1), .val (.int p2), .val (.int n1), .val (.int c0), .val (.int c1), .val (.int f1), .val (.int f2), .val (.int d0), .val (.int d1), .val (.int n2), .unset, .unset, .unset, .unset, .unset, .unset, .unset] [(.ref s_94)])) _
    refine own_go (fun _ k => XS.astore X93.here hx rfl (hb hby at_126) rfl rfl (l' := #[.val (.int p0), .val (.int p1), .val (.int p2), .val (.int n1), .val (.int c0), .val (.int c1), .val (.int f1), .val (.int f2), .val (.int d0), .val (.int d1), .val (.int n2), .val (.ref s_94), .unset, .unset, .unset, .unset, .unset, .unset]) rfl (XS.iload X93.here hx rfl (hb hby at_128) rfl (XS.iload X93.here hx rfl (hb hby at_130) rfl (XS.iload X93.here hx rfl (hb hby at_132) rfl k)))) ?_
    show own_Fin p e below (T93.setTop (mkF m 134 #[.val (.int p0), .val (.int p1), .val (.int p2), .val (.int n1), .val (.int c0), .val (.int c1), .val (.int f1), .val (.int f2), .val (.int d0), .val (.int d1), .val (.int n2), .val (.ref s_94), .unset, .unset, .unset, .unset, .unset, .unset] [(.int d1), (.int d0), (.int n2)])) _
    obtain ⟨_, _, ⟨T98, L98, k98, n98⟩, -, X98, hS98, hg98, ⟨Lc98, hQ98, l98, y98, z98, CQ98⟩, st98⟩ := callSS X93 hx (y := (⟨"com/example/crete/crete/TreeItemEqualsPinLaw", "mk", "(ICC)Ljava/lang/String;"⟩ : MethodName)) hown (mvT hZ (ow hw 0)) (mvT hZ (ow hw 1)) (mvT hZ (ow hw 2)) (mvT hZ (ow hw 3)) (by decide) (backOfSH (W := 0) (rmk l Z a0 hw [] n2 d0 d1 z (T93.heap) n0 O S_String_COMPACT_STRINGS hz hd0 hd1) hZ (ow hw 3) (ow hw 2) (by decide) (by decide) (own_EW hw) HC) (g := (mkF m 134 #[.val (.int p0), .val (.int p1), .val (.int p2), .val (.int n1), .val (.int c0), .val (.int c1), .val (.int f1), .val (.int f2), .val (.int d0), .val (.int d1), .val (.int n2), .val (.ref s_94), .unset, .unset, .unset, .unset, .unset, .unset] [(.int d1), (.int d0), (.int n2)])) rfl (by rw [hml]; rfl) (argsL := [(.int n2), (.int d0), (.int d1)]) (rest := []) (lenOf pd_7 rfl) rfl (by show 2 * 0 + _ ≤ _; exact Nat.le_of_eq rfl) (hb hby at_134) (fun _ _ => ⟨rfl, rfl, (by decide : 6 + 6 ≤ _), (by decide : 12 + 12 ≤ _)⟩)
    dsimp only [Pt.U, Pt.locs, Pt.cells, Pt.slots] at X98 l98 y98 z98 st98 hQ98
    subst l98 y98 z98
    obtain ⟨X98, hS, hZ, hown⟩ := rebS hS hk X98 hS98 hg98 hZ hown
    obtain ⟨s_99, t_100, kb_101, rfl, N98q, Kq98, P98_0, P98_1, P98_2, P98_3, P98_4, P98_5⟩ := hQ98
    refine own_go (fun _ k => st98.trans k) ?_
    have N98 := Fr.app N93 N98q
    have ne_s_94_s_99 : s_94 ≠ s_99 := Nat.ne_of_lt (Nat.lt_of_lt_of_le E_s_94.lt P98_0)
    have ne_t_95_s_99 : t_95 ≠ s_99 := Nat.ne_of_lt (Nat.lt_of_lt_of_le V_t_95.lt P98_0)
    have g_s_99 : n0 ≤ s_99 := Nat.le_trans (own_osz O) P98_0
    have sz_s_99 : h0.size ≤ s_99 := Nat.le_trans K97.1 P98_0
    have CR := CR.trans CQ98
    have HC := CQ98.1
    have E_s_94 := E_s_94.keep Kq98
    have F_s_94_String_coder := F_s_94_String_coder.keep Kq98 nin0
    have F_s_94_String_value := F_s_94_String_value.keep Kq98 nin0
    have V_t_95 := V_t_95.keep Kq98 nin0
    have O := O.keep Kq98 all0
    have K102 := K97.trans Kq98 all0
    have hk := Nat.le_refl T98.heap.size
    have E_s_99 := P98_2
    have F_s_99_String_coder := P98_3
    have F_s_99_String_value := P98_4
    have V_t_100 := P98_5
    show own_Fin p e below (T98.setTop (mkF m 137 #[.val (.int p0), .val (.int p1), .val (.int p2), .val (.int n1), .val (.int c0), .val (.int c1), .val (.int f1), .val (.int f2), .val (.int d0), .val (.int d1), .val (.int n2), .val (.ref s_94), .unset, .unset, .unset, .unset, .unset, .unset] [(.ref s_99)])) _
    refine own_go (fun _ k => XS.astore X98.here hx rfl (hb hby at_137) rfl rfl (l' := #[.val (.int p0), .val (.int p1), .val (.int p2), .val (.int n1), .val (.int c0), .val (.int c1), .val (.int f1), .val (.int f2), .val (.int d0), .val (.int d1), .val (.int n2), .val (.ref s_94), .val (.ref s_99), .unset, .unset, .unset, .unset, .unset]) rfl k) ?_
    show own_Fin p e below (T98.setTop (mkF m 139 #[.val (.int p0), .val (.int p1), .val (.int p2), .val (.int n1), .val (.int c0), .val (.int c1), .val (.int f1), .val (.int f2), .val (.int d0), .val (.int d1), .val (.int n2), .val (.ref s_94), .val (.ref s_99), .unset, .unset, .unset, .unset, .unset] [])) _
    obtain ⟨T103, h103, X103, e103, E103, A103, D103, -, st103⟩ := newO X98 hx hZ hown (ow hw 26) (ow hw 27) (ow hw 28) rfl (g := (mkF m 139 #[.val (.int p0), .val (.int p1), .val (.int p2), .val (.int n1), .val (.int c0), .val (.int c1), .val (.int f1), .val (.int f2), .val (.int d0), .val (.int d1), .val (.int n2), .val (.ref s_94), .val (.ref s_99), .unset, .unset, .unset, .unset, .unset] [])) rfl (hb hby at_139) (by decide) (by decide)
    obtain ⟨b103, g103⟩ : ∃ z, z = T98.heap.size := ⟨_, rfl⟩
    rw [← g103] at A103 D103 st103
    refine own_go (fun _ k => st103 _ k) ?_
    have ne_s_94_b103 : s_94 ≠ b103 := Nat.ne_of_lt (Nat.lt_of_lt_of_le E_s_94.lt (Nat.le_of_eq g103.symm))
    have ne_t_95_b103 : t_95 ≠ b103 := Nat.ne_of_lt (Nat.lt_of_lt_of_le V_t_95.lt (Nat.le_of_eq g103.symm))
    have ne_s_99_b103 : s_99 ≠ b103 := Nat.ne_of_lt (Nat.lt_of_lt_of_le E_s_99.lt (Nat.le_of_eq g103.symm))
    have ne_t_100_b103 : t_100 ≠ b103 := Nat.ne_of_lt (Nat.lt_of_lt_of_le V_t_100.lt (Nat.le_of_eq g103.symm))
    have g_b103 : n0 ≤ b103 := Nat.le_trans (own_osz O) (Nat.le_of_eq g103.symm)
    have sz_b103 : h0.size ≤ b103 := Nat.le_trans K102.1 (Nat.le_of_eq g103.symm)
    have CR := CR.trans (CHr.ext E103 HC)
    have S_b103 := Safe.ext E103 HC (Safe.new (Nat.le_of_eq g103.symm))
    have HC := CHv.ext E103 HC
    have E_s_94 := E_s_94.ext E103
    have F_s_94_String_coder := F_s_94_String_coder.ext E103
    have F_s_94_String_value := F_s_94_String_value.ext E103
    have V_t_95 := V_t_95.ext E103
    have E_s_99 := E_s_99.ext E103
    have F_s_99_String_coder := F_s_99_String_coder.ext E103
    have F_s_99_String_value := F_s_99_String_value.ext E103
    have V_t_100 := V_t_100.ext E103
    have O := O.ext E103
    have K104 := K102.ext E103
    have hk := Nat.le_trans hk E103.1
    have E_b103 := A103
    have F_b103_TreeItem_name : Fld Z h103 b103 "com/example/crete/crete/TreeItem" "name" "Ljava/lang/String;" .null := D103 (Or.inr (ow hw 34)) (ty := (.object "java/lang/String")) (by decide)
    have F_b103_TreeItem_leaf : Fld Z h103 b103 "com/example/crete/crete/TreeItem" "leaf" "Z" (.int 0) := D103 (Or.inr (ow hw 36)) (ty := .boolean) (by decide)
    show own_Fin p e below (T103.setTop (mkF m 142 #[.val (.int p0), .val (.int p1), .val (.int p2), .val (.int n1), .val (.int c0), .val (.int c1), .val (.int f1), .val (.int f2), .val (.int d0), .val (.int d1), .val (.int n2), .val (.ref s_94), .val (.ref s_99), .unset, .unset, .unset, .unset, .unset] [(.ref b103)])) _
    refine own_go (fun _ k => XS.dup X103.here hx rfl (hb hby at_142) rfl rfl (XS.aload X103.here hx rfl (hb hby at_143) rfl rfl (XS.iload X103.here hx rfl (hb hby at_145) rfl k))) ?_
    show own_Fin p e below (T103.setTop (mkF m 147 #[.val (.int p0), .val (.int p1), .val (.int p2), .val (.int n1), .val (.int c0), .val (.int c1), .val (.int f1), .val (.int f2), .val (.int d0), .val (.int d1), .val (.int n2), .val (.ref s_94), .val (.ref s_99), .unset, .unset, .unset, .unset, .unset] [(.int f1), (.ref s_94), (.ref b103), (.ref b103)])) _
    obtain ⟨_, _, ⟨T105, L105, k105, n105⟩, -, X105, ⟨Lc105, hQ105, l105, y105, z105⟩, st105⟩ := X103.specialBack hx (y := (⟨"com/example/crete/crete/TreeItem", "<init>", "(Ljava/lang/String;Z)V"⟩ : MethodName)) rfl hown (mvT hZ (ow hw 29)) (mvT hZ (ow hw 30)) (mvT hZ (ow hw 31)) (by decide) (backOf (W := 1) (rmti l Z a0 hw [] b103 s_94 f1 h103 n0 O E_b103 F_b103_TreeItem_name F_b103_TreeItem_leaf g_b103 E_s_94 ne_s_94_b103) hZ (ow hw 31) (ow hw 28) (by decide) (by decide)) (g := (mkF m 147 #[.val (.int p0), .val (.int p1), .val (.int p2), .val (.int n1), .val (.int c0), .val (.int c1), .val (.int f1), .val (.int f2), .val (.int d0), .val (.int d1), .val (.int n2), .val (.ref s_94), .val (.ref s_99), .unset, .unset, .unset, .unset, .unset] [(.int f1), (.ref s_94), (.ref b103), (.ref b103)])) rfl (by rw [hml]; rfl) (Steps.refl _) (a := b103) (argsL := [(.ref s_94), (.int f1)]) (rest := [(.ref b103)]) (lenOf pd_8 rfl) rfl (by show 2 * 0 + _ ≤ _; exact Nat.le_of_eq rfl) (hb hby at_147) (fun _ _ => ⟨rfl, e103, (by decide : 13 + 0 ≤ _), (by decide : 26 + 0 ≤ _)⟩)
    dsimp only [Pt.U, Pt.locs, Pt.cells, Pt.slots] at X105 l105 y105 z105 st105 hQ105
    subst l105 y105 z105
    obtain ⟨rfl, N105q, Kq105, P105_0, P105_1, P105_2⟩ := hQ105
    refine own_go (fun _ k => st105.trans k) ?_
    have N105 := Fr.app N98 N105q
    have Sq := (sfS S_b103 sf0)
    have CR := CR.trans (CHr.keep Kq105 Sq HC)
    have S_b103 := Safe.keep Kq105 Sq HC S_b103
    have HC := CHv.keep Kq105 Sq HC
    have E_s_94 := E_s_94.keep Kq105
    have F_s_94_String_coder := F_s_94_String_coder.keep Kq105 (ninS ne_s_94_b103 nin0)
    have F_s_94_String_value := F_s_94_String_value.keep Kq105 (ninS ne_s_94_b103 nin0)
    have V_t_95 := V_t_95.keep Kq105 (ninS ne_t_95_b103 nin0)
    have E_s_99 := E_s_99.keep Kq105
    have F_s_99_String_coder := F_s_99_String_coder.keep Kq105 (ninS ne_s_99_b103 nin0)
    have F_s_99_String_value := F_s_99_String_value.keep Kq105 (ninS ne_s_99_b103 nin0)
    have V_t_100 := V_t_100.keep Kq105 (ninS ne_t_100_b103 nin0)
    have E_b103 := E_b103.keep Kq105
    clear F_b103_TreeItem_name
    clear F_b103_TreeItem_leaf
    have O := O.keep Kq105 (allS g_b103 all0)
    have K106 := K104.trans Kq105 (allS (Or.inr sz_b103) all0)
    have hk := Nat.le_trans hk Kq105.1
    have E_b103 := P105_0
    have F_b103_TreeItem_name := P105_1
    have F_b103_TreeItem_leaf := P105_2
    show own_Fin p e below (T105.setTop (mkF m 150 #[.val (.int p0), .val (.int p1), .val (.int p2), .val (.int n1), .val (.int c0), .val (.int c1), .val (.int f1), .val (.int f2), .val (.int d0), .val (.int d1), .val (.int n2), .val (.ref s_94), .val (.ref s_99), .unset, .unset, .unset, .unset, .unset] [(.ref b103)])) _
    refine own_go (fun _ k => XS.astore X105.here hx rfl (hb hby at_150) rfl rfl (l' := #[.val (.int p0), .val (.int p1), .val (.int p2), .val (.int n1), .val (.int c0), .val (.int c1), .val (.int f1), .val (.int f2), .val (.int d0), .val (.int d1), .val (.int n2), .val (.ref s_94), .val (.ref s_99), .val (.ref b103), .unset, .unset, .unset, .unset]) rfl (XS.iloadN X105.here hx rfl (hb hby at_152) rfl (XS.bipush X105.here hx rfl (hb hby at_153) (XS.iushr X105.here hx rfl (hb hby at_155) rfl (XS.bipush X105.here hx rfl (hb hby at_156) (XS.iand X105.here hx rfl (hb hby at_158) rfl (XS.istore X105.here hx rfl (hb hby at_159) rfl (l' := #[.val (.int p0), .val (.int p1), .val (.int p2), .val (.int n1), .val (.int c0), .val (.int c1), .val (.int f1), .val (.int f2), .val (.int d0), .val (.int d1), .val (.int n2), .val (.ref s_94), .val (.ref s_99), .val (.ref b103), .val (.int (((p2.toUInt32 >>> ((8 : Int32) &&& 31).toUInt32).toInt32) &&& (7 : Int32))), .unset, .unset, .unset]) rfl (XS.iload X105.here hx rfl (hb hby at_161) rfl (XS.iconst X105.here hx rfl (hb hby at_163) k))))))))) ?_
    show own_Fin p e below (T105.setTop (mkF m 164 #[.val (.int p0), .val (.int p1), .val (.int p2), .val (.int n1), .val (.int c0), .val (.int c1), .val (.int f1), .val (.int f2), .val (.int d0), .val (.int d1), .val (.int n2), .val (.ref s_94), .val (.ref s_99), .val (.ref b103), .val (.int (((p2.toUInt32 >>> ((8 : Int32) &&& 31).toUInt32).toInt32) &&& (7 : Int32))), .unset, .unset, .unset] [(.int 1), (.int (((p2.toUInt32 >>> ((8 : Int32) &&& 31).toUInt32).toInt32) &&& (7 : Int32)))])) _
    by_cases hc164_107 : (((p2.toUInt32 >>> ((8 : Int32) &&& 31).toUInt32).toInt32) &&& (7 : Int32)) = (1 : Int32)
    ·refine own_go (fun _ k => XS.icmpNo X105.here hx rfl (hb hby at_164) rfl (teq hc164_107).2 (XS.aload X105.here hx rfl (hb hby at_167) rfl rfl (XS.aconstNull X105.here hx rfl (hb hby at_169) k))) ?_
     show own_Fin p e below (T105.setTop (mkF m 170 #[.val (.int p0), .val (.int p1), .val (.int p2), .val (.int n1), .val (.int c0), .val (.int c1), .val (.int f1), .val (.int f2), .val (.int d0), .val (.int d1), .val (.int n2), .val (.ref s_94), .val (.ref s_99), .val (.ref b103), .val (.int (((p2.toUInt32 >>> ((8 : Int32) &&& 31).toUInt32).toInt32) &&& (7 : Int32))), .unset, .unset, .unset] [.null, (.ref b103)])) _
     obtain ⟨cq108, kq108, q108a, q108b, q108c⟩ := isOf hZ rfl E_b103
     obtain ⟨_, _, ⟨T108, L108, k108, n108⟩, -, X108, ⟨Lc108, hQ108, l108, y108, z108⟩, st108⟩ := X105.virtualBack hx (y := (⟨"com/example/crete/crete/TreeItem", "equals", "(Ljava/lang/Object;)Z"⟩ : MethodName)) (z := (⟨"com/example/crete/crete/TreeItem", "equals", "(Ljava/lang/Object;)Z"⟩ : MethodName)) hown (mvT hZ (ow hw 37)) (mvT hZ (ow hw 38)) (notFace_of_selects (args := #[]) (mvT hZ (ow hw 40))) (mvT hZ (ow hw 40)) (mvT hZ (ow hw 39)) (by decide) (backOf (W := 0) (rmeN l Z a0 hw [] b103 (T105.heap) n0 O ) hZ (ow hw 41) (ow hw 28) (by decide) (by decide)) q108a q108c (g := (mkF m 170 #[.val (.int p0), .val (.int p1), .val (.int p2), .val (.int n1), .val (.int c0), .val (.int c1), .val (.int f1), .val (.int f2), .val (.int d0), .val (.int d1), .val (.int n2), .val (.ref s_94), .val (.ref s_99), .val (.ref b103), .val (.int (((p2.toUInt32 >>> ((8 : Int32) &&& 31).toUInt32).toInt32) &&& (7 : Int32))), .unset, .unset, .unset] [.null, (.ref b103)])) rfl (by rw [hml]; rfl) (Steps.refl _) (argsL := [.null]) (rest := []) (lenOf pd_6 rfl) rfl (by show 2 * 0 + _ ≤ _; exact Nat.le_of_eq rfl) (hb hby at_170) (fun _ _ => ⟨rfl, rfl, (by decide : 13 + 0 ≤ _), (by decide : 26 + 0 ≤ _)⟩)
     dsimp only [Pt.U, Pt.locs, Pt.cells, Pt.slots] at X108 l108 y108 z108 st108 hQ108
     subst l108 y108 z108
     obtain ⟨rfl, N108q, e108⟩ := hQ108
     refine own_go (fun _ k => st108.trans k) ?_
     have N108 := Fr.app N105 N108q
     show own_Fin p e below (T108.setTop (mkF m 173 #[.val (.int p0), .val (.int p1), .val (.int p2), .val (.int n1), .val (.int c0), .val (.int c1), .val (.int f1), .val (.int f2), .val (.int d0), .val (.int d1), .val (.int n2), .val (.ref s_94), .val (.ref s_99), .val (.ref b103), .val (.int (((p2.toUInt32 >>> ((8 : Int32) &&& 31).toUInt32).toInt32) &&& (7 : Int32))), .unset, .unset, .unset] [(.int 0)])) _
     refine own_go (fun _ k => XS.ifNo X108.here hx rfl (hb hby at_173) rfl ((if0 _ _).trans (teq (by decide : (0 : Int32) = (0 : Int32))).2) (XS.iconst X108.here hx rfl (hb hby at_176) (XS.goto X108.here hx rfl (pc0 := 177) (pc' := 181) rfl (hb hby at_177) (by decide) (by decide) k))) ?_
     show own_Fin p e below (T108.setTop (mkF m 181 #[.val (.int p0), .val (.int p1), .val (.int p2), .val (.int n1), .val (.int c0), .val (.int c1), .val (.int f1), .val (.int f2), .val (.int d0), .val (.int d1), .val (.int n2), .val (.ref s_94), .val (.ref s_99), .val (.ref b103), .val (.int (((p2.toUInt32 >>> ((8 : Int32) &&& 31).toUInt32).toInt32) &&& (7 : Int32))), .unset, .unset, .unset] [(.int 1)])) _
     obtain ⟨fs, hr, hrun, hended, hE⟩ := X108.leaveW hS (Nat.le_trans hk (Nat.le_of_eq (congrArg Array.size e108).symm)) (v := some (.int 1)) (fun h => by rw [Bd.returns] at h; cases h)
     refine ⟨_, _, ?_, hrun, hended, _, _, rfl, ?_, ?_, ⟨_, rfl⟩, hE.2.1, hE.2.2.1, hE.2.2.2.mono (by decide) (by decide)⟩
     ·exact retN X108 hx (t := .boolean) Bd.returns (by simp) (hb hby at_181) hr
     ·show Qrm0 Z p0 p1 p2 z h0 n0 _ T108.heap _
      rw [e108]
      exact ⟨rfl, N108, K106⟩
     ·show CHr Z own_EL s.vm s.heap T108.vm T108.heap
      rw [hh, e108]
      exact CR.trans (CHv.at X108 hZ (own_EW hw) HC)
    ·refine own_go (fun _ k => XS.icmpYes X105.here hx rfl (pc0 := 164) (pc' := 182) rfl (hb hby at_164) rfl (feq hc164_107).2 (by decide) (by decide) (XS.iload X105.here hx rfl (hb hby at_182) rfl (XS.iconst X105.here hx rfl (hb hby at_184) k))) ?_
     show own_Fin p e below (T105.setTop (mkF m 185 #[.val (.int p0), .val (.int p1), .val (.int p2), .val (.int n1), .val (.int c0), .val (.int c1), .val (.int f1), .val (.int f2), .val (.int d0), .val (.int d1), .val (.int n2), .val (.ref s_94), .val (.ref s_99), .val (.ref b103), .val (.int (((p2.toUInt32 >>> ((8 : Int32) &&& 31).toUInt32).toInt32) &&& (7 : Int32))), .unset, .unset, .unset] [(.int 2), (.int (((p2.toUInt32 >>> ((8 : Int32) &&& 31).toUInt32).toInt32) &&& (7 : Int32)))])) _
     by_cases hc185_110 : (((p2.toUInt32 >>> ((8 : Int32) &&& 31).toUInt32).toInt32) &&& (7 : Int32)) = (2 : Int32)
     ·refine own_go (fun _ k => XS.icmpNo X105.here hx rfl (hb hby at_185) rfl (teq hc185_110).2 (XS.aload X105.here hx rfl (hb hby at_188) rfl rfl (XS.aload X105.here hx rfl (hb hby at_190) rfl rfl k))) ?_
      show own_Fin p e below (T105.setTop (mkF m 192 #[.val (.int p0), .val (.int p1), .val (.int p2), .val (.int n1), .val (.int c0), .val (.int c1), .val (.int f1), .val (.int f2), .val (.int d0), .val (.int d1), .val (.int n2), .val (.ref s_94), .val (.ref s_99), .val (.ref b103), .val (.int (((p2.toUInt32 >>> ((8 : Int32) &&& 31).toUInt32).toInt32) &&& (7 : Int32))), .unset, .unset, .unset] [(.ref s_94), (.ref b103)])) _
      obtain ⟨cq111, kq111, q111a, q111b, q111c⟩ := isOf hZ rfl E_b103
      obtain ⟨_, _, ⟨T111, L111, k111, n111⟩, -, X111, ⟨Lc111, hQ111, l111, y111, z111⟩, st111⟩ := X105.virtualBack hx (y := (⟨"com/example/crete/crete/TreeItem", "equals", "(Ljava/lang/Object;)Z"⟩ : MethodName)) (z := (⟨"com/example/crete/crete/TreeItem", "equals", "(Ljava/lang/Object;)Z"⟩ : MethodName)) hown (mvT hZ (ow hw 37)) (mvT hZ (ow hw 38)) (notFace_of_selects (args := #[]) (mvT hZ (ow hw 40))) (mvT hZ (ow hw 40)) (mvT hZ (ow hw 39)) (by decide) (backOf (W := 0) (rmeT l Z a0 hw [] b103 s_94 (T105.heap) n0 O E_s_94) hZ (ow hw 41) (ow hw 28) (by decide) (by decide)) q111a q111c (g := (mkF m 192 #[.val (.int p0), .val (.int p1), .val (.int p2), .val (.int n1), .val (.int c0), .val (.int c1), .val (.int f1), .val (.int f2), .val (.int d0), .val (.int d1), .val (.int n2), .val (.ref s_94), .val (.ref s_99), .val (.ref b103), .val (.int (((p2.toUInt32 >>> ((8 : Int32) &&& 31).toUInt32).toInt32) &&& (7 : Int32))), .unset, .unset, .unset] [(.ref s_94), (.ref b103)])) rfl (by rw [hml]; rfl) (Steps.refl _) (argsL := [(.ref s_94)]) (rest := []) (lenOf pd_6 rfl) rfl (by show 2 * 0 + _ ≤ _; exact Nat.le_of_eq rfl) (hb hby at_192) (fun _ _ => ⟨rfl, rfl, (by decide : 13 + 0 ≤ _), (by decide : 26 + 0 ≤ _)⟩)
      dsimp only [Pt.U, Pt.locs, Pt.cells, Pt.slots] at X111 l111 y111 z111 st111 hQ111
      subst l111 y111 z111
      obtain ⟨rfl, N111q, e111⟩ := hQ111
      refine own_go (fun _ k => st111.trans k) ?_
      have N111 := Fr.app N105 N111q
      show own_Fin p e below (T111.setTop (mkF m 195 #[.val (.int p0), .val (.int p1), .val (.int p2), .val (.int n1), .val (.int c0), .val (.int c1), .val (.int f1), .val (.int f2), .val (.int d0), .val (.int d1), .val (.int n2), .val (.ref s_94), .val (.ref s_99), .val (.ref b103), .val (.int (((p2.toUInt32 >>> ((8 : Int32) &&& 31).toUInt32).toInt32) &&& (7 : Int32))), .unset, .unset, .unset] [(.int 0)])) _
      refine own_go (fun _ k => XS.ifNo X111.here hx rfl (hb hby at_195) rfl ((if0 _ _).trans (teq (by decide : (0 : Int32) = (0 : Int32))).2) (XS.iconst X111.here hx rfl (hb hby at_198) (XS.goto X111.here hx rfl (pc0 := 199) (pc' := 203) rfl (hb hby at_199) (by decide) (by decide) k))) ?_
      show own_Fin p e below (T111.setTop (mkF m 203 #[.val (.int p0), .val (.int p1), .val (.int p2), .val (.int n1), .val (.int c0), .val (.int c1), .val (.int f1), .val (.int f2), .val (.int d0), .val (.int d1), .val (.int n2), .val (.ref s_94), .val (.ref s_99), .val (.ref b103), .val (.int (((p2.toUInt32 >>> ((8 : Int32) &&& 31).toUInt32).toInt32) &&& (7 : Int32))), .unset, .unset, .unset] [(.int 1)])) _
      obtain ⟨fs, hr, hrun, hended, hE⟩ := X111.leaveW hS (Nat.le_trans hk (Nat.le_of_eq (congrArg Array.size e111).symm)) (v := some (.int 1)) (fun h => by rw [Bd.returns] at h; cases h)
      refine ⟨_, _, ?_, hrun, hended, _, _, rfl, ?_, ?_, ⟨_, rfl⟩, hE.2.1, hE.2.2.1, hE.2.2.2.mono (by decide) (by decide)⟩
      ·exact retN X111 hx (t := .boolean) Bd.returns (by simp) (hb hby at_203) hr
      ·show Qrm0 Z p0 p1 p2 z h0 n0 _ T111.heap _
       rw [e111]
       exact ⟨rfl, N111, K106⟩
      ·show CHr Z own_EL s.vm s.heap T111.vm T111.heap
       rw [hh, e111]
       exact CR.trans (CHv.at X111 hZ (own_EW hw) HC)
     ·refine own_go (fun _ k => XS.icmpYes X105.here hx rfl (pc0 := 185) (pc' := 204) rfl (hb hby at_185) rfl (feq hc185_110).2 (by decide) (by decide) (XS.iload X105.here hx rfl (hb hby at_204) rfl (XS.iconst X105.here hx rfl (hb hby at_206) k))) ?_
      show own_Fin p e below (T105.setTop (mkF m 207 #[.val (.int p0), .val (.int p1), .val (.int p2), .val (.int n1), .val (.int c0), .val (.int c1), .val (.int f1), .val (.int f2), .val (.int d0), .val (.int d1), .val (.int n2), .val (.ref s_94), .val (.ref s_99), .val (.ref b103), .val (.int (((p2.toUInt32 >>> ((8 : Int32) &&& 31).toUInt32).toInt32) &&& (7 : Int32))), .unset, .unset, .unset] [(.int 3), (.int (((p2.toUInt32 >>> ((8 : Int32) &&& 31).toUInt32).toInt32) &&& (7 : Int32)))])) _
      by_cases hc207_113 : (((p2.toUInt32 >>> ((8 : Int32) &&& 31).toUInt32).toInt32) &&& (7 : Int32)) = (3 : Int32)
      ·refine own_go (fun _ k => XS.icmpNo X105.here hx rfl (hb hby at_207) rfl (teq hc207_113).2 (XS.aload X105.here hx rfl (hb hby at_210) rfl rfl (XS.aload X105.here hx rfl (hb hby at_212) rfl rfl k))) ?_
       show own_Fin p e below (T105.setTop (mkF m 214 #[.val (.int p0), .val (.int p1), .val (.int p2), .val (.int n1), .val (.int c0), .val (.int c1), .val (.int f1), .val (.int f2), .val (.int d0), .val (.int d1), .val (.int n2), .val (.ref s_94), .val (.ref s_99), .val (.ref b103), .val (.int (((p2.toUInt32 >>> ((8 : Int32) &&& 31).toUInt32).toInt32) &&& (7 : Int32))), .unset, .unset, .unset] [(.ref b103), (.ref b103)])) _
       obtain ⟨cq114, kq114, q114a, q114b, q114c⟩ := isOf hZ rfl E_b103
       obtain ⟨_, _, ⟨T114, L114, k114, n114⟩, -, X114, ⟨Lc114, hQ114, l114, y114, z114⟩, st114⟩ := X105.virtualBack hx (y := (⟨"com/example/crete/crete/TreeItem", "equals", "(Ljava/lang/Object;)Z"⟩ : MethodName)) (z := (⟨"com/example/crete/crete/TreeItem", "equals", "(Ljava/lang/Object;)Z"⟩ : MethodName)) hown (mvT hZ (ow hw 37)) (mvT hZ (ow hw 38)) (notFace_of_selects (args := #[]) (mvT hZ (ow hw 40))) (mvT hZ (ow hw 40)) (mvT hZ (ow hw 39)) (by decide) (backOf (W := 0) (rmeU l Z a0 hw [] b103 b103 f1 f1 s_94 t_95 kb_96 (own_cs n1 c0 c1) s_94 t_95 kb_96 (own_cs n1 c0 c1) z (T105.heap) n0 O S_String_COMPACT_STRINGS hz E_b103 E_b103 F_b103_TreeItem_name F_b103_TreeItem_leaf F_b103_TreeItem_name F_b103_TreeItem_leaf E_s_94 F_s_94_String_coder F_s_94_String_value V_t_95 E_s_94 F_s_94_String_coder F_s_94_String_value V_t_95 (own_csr hc0 hc1) (own_csr hc0 hc1) (own_csl _ _ _) (own_csl _ _ _)) hZ (ow hw 41) (ow hw 28) (by decide) (by decide)) q114a q114c (g := (mkF m 214 #[.val (.int p0), .val (.int p1), .val (.int p2), .val (.int n1), .val (.int c0), .val (.int c1), .val (.int f1), .val (.int f2), .val (.int d0), .val (.int d1), .val (.int n2), .val (.ref s_94), .val (.ref s_99), .val (.ref b103), .val (.int (((p2.toUInt32 >>> ((8 : Int32) &&& 31).toUInt32).toInt32) &&& (7 : Int32))), .unset, .unset, .unset] [(.ref b103), (.ref b103)])) rfl (by rw [hml]; rfl) (Steps.refl _) (argsL := [(.ref b103)]) (rest := []) (lenOf pd_6 rfl) rfl (by show 2 * 0 + _ ≤ _; exact Nat.le_of_eq rfl) (hb hby at_214) (fun _ _ => ⟨rfl, rfl, (by decide : 13 + 0 ≤ _), (by decide : 26 + 0 ≤ _)⟩)
       dsimp only [Pt.U, Pt.locs, Pt.cells, Pt.slots] at X114 l114 y114 z114 st114 hQ114
       subst l114 y114 z114
       obtain ⟨rfl, N114q, e114⟩ := hQ114
       refine own_go (fun _ k => st114.trans k) ?_
       have N114 := Fr.app N105 N114q
       show own_Fin p e below (T114.setTop (mkF m 217 #[.val (.int p0), .val (.int p1), .val (.int p2), .val (.int n1), .val (.int c0), .val (.int c1), .val (.int f1), .val (.int f2), .val (.int d0), .val (.int d1), .val (.int n2), .val (.ref s_94), .val (.ref s_99), .val (.ref b103), .val (.int (((p2.toUInt32 >>> ((8 : Int32) &&& 31).toUInt32).toInt32) &&& (7 : Int32))), .unset, .unset, .unset] [(.int (own_bi ((own_cs n1 c0 c1) = (own_cs n1 c0 c1) ∧ (nar .boolean f1) = (nar .boolean f1))))])) _
       obtain ⟨fs, hr, hrun, hended, hE⟩ := X114.leaveW hS (Nat.le_trans hk (Nat.le_of_eq (congrArg Array.size e114).symm)) (v := some (.int (own_bi ((own_cs n1 c0 c1) = (own_cs n1 c0 c1) ∧ (nar .boolean f1) = (nar .boolean f1))))) (fun h => by rw [Bd.returns] at h; cases h)
       refine ⟨_, _, ?_, hrun, hended, _, _, rfl, ?_, ?_, ⟨_, rfl⟩, hE.2.1, hE.2.2.1, hE.2.2.2.mono (by decide) (by decide)⟩
       ·exact own_retB X114 hx Bd.returns (hb hby at_217) hr
       ·show Qrm0 Z p0 p1 p2 z h0 n0 _ T114.heap _
        rw [e114]
        exact ⟨(by rw [own_bi1 ⟨rfl, rfl⟩]), N114, K106⟩
       ·show CHr Z own_EL s.vm s.heap T114.vm T114.heap
        rw [hh, e114]
        exact CR.trans (CHv.at X114 hZ (own_EW hw) HC)
      ·refine own_go (fun _ k => XS.icmpYes X105.here hx rfl (pc0 := 207) (pc' := 218) rfl (hb hby at_207) rfl (feq hc207_113).2 (by decide) (by decide) k) ?_
       show own_Fin p e below (T105.setTop (mkF m 218 #[.val (.int p0), .val (.int p1), .val (.int p2), .val (.int n1), .val (.int c0), .val (.int c1), .val (.int f1), .val (.int f2), .val (.int d0), .val (.int d1), .val (.int n2), .val (.ref s_94), .val (.ref s_99), .val (.ref b103), .val (.int (((p2.toUInt32 >>> ((8 : Int32) &&& 31).toUInt32).toInt32) &&& (7 : Int32))), .unset, .unset, .unset] [])) _
       obtain ⟨T116, h116, X116, e116, E116, A116, D116, -, st116⟩ := newO X105 hx hZ hown (ow hw 26) (ow hw 27) (ow hw 28) rfl (g := (mkF m 218 #[.val (.int p0), .val (.int p1), .val (.int p2), .val (.int n1), .val (.int c0), .val (.int c1), .val (.int f1), .val (.int f2), .val (.int d0), .val (.int d1), .val (.int n2), .val (.ref s_94), .val (.ref s_99), .val (.ref b103), .val (.int (((p2.toUInt32 >>> ((8 : Int32) &&& 31).toUInt32).toInt32) &&& (7 : Int32))), .unset, .unset, .unset] [])) rfl (hb hby at_218) (by decide) (by decide)
       obtain ⟨b116, g116⟩ : ∃ z, z = T105.heap.size := ⟨_, rfl⟩
       rw [← g116] at A116 D116 st116
       refine own_go (fun _ k => st116 _ k) ?_
       have ne_s_94_b116 : s_94 ≠ b116 := Nat.ne_of_lt (Nat.lt_of_lt_of_le E_s_94.lt (Nat.le_of_eq g116.symm))
       have ne_t_95_b116 : t_95 ≠ b116 := Nat.ne_of_lt (Nat.lt_of_lt_of_le V_t_95.lt (Nat.le_of_eq g116.symm))
       have ne_s_99_b116 : s_99 ≠ b116 := Nat.ne_of_lt (Nat.lt_of_lt_of_le E_s_99.lt (Nat.le_of_eq g116.symm))
       have ne_t_100_b116 : t_100 ≠ b116 := Nat.ne_of_lt (Nat.lt_of_lt_of_le V_t_100.lt (Nat.le_of_eq g116.symm))
       have ne_b103_b116 : b103 ≠ b116 := Nat.ne_of_lt (Nat.lt_of_lt_of_le E_b103.lt (Nat.le_of_eq g116.symm))
       have g_b116 : n0 ≤ b116 := Nat.le_trans (own_osz O) (Nat.le_of_eq g116.symm)
       have sz_b116 : h0.size ≤ b116 := Nat.le_trans K106.1 (Nat.le_of_eq g116.symm)
       have CR := CR.trans (CHr.ext E116 HC)
       have S_b103 := Safe.ext E116 HC S_b103
       have S_b116 := Safe.ext E116 HC (Safe.new (Nat.le_of_eq g116.symm))
       have HC := CHv.ext E116 HC
       have E_s_94 := E_s_94.ext E116
       have F_s_94_String_coder := F_s_94_String_coder.ext E116
       have F_s_94_String_value := F_s_94_String_value.ext E116
       have V_t_95 := V_t_95.ext E116
       have E_s_99 := E_s_99.ext E116
       have F_s_99_String_coder := F_s_99_String_coder.ext E116
       have F_s_99_String_value := F_s_99_String_value.ext E116
       have V_t_100 := V_t_100.ext E116
       have E_b103 := E_b103.ext E116
       have F_b103_TreeItem_name := F_b103_TreeItem_name.ext E116
       have F_b103_TreeItem_leaf := F_b103_TreeItem_leaf.ext E116
       have O := O.ext E116
       have K117 := K106.ext E116
       have hk := Nat.le_trans hk E116.1
       have E_b116 := A116
       have F_b116_TreeItem_name : Fld Z h116 b116 "com/example/crete/crete/TreeItem" "name" "Ljava/lang/String;" .null := D116 (Or.inr (ow hw 34)) (ty := (.object "java/lang/String")) (by decide)
       have F_b116_TreeItem_leaf : Fld Z h116 b116 "com/example/crete/crete/TreeItem" "leaf" "Z" (.int 0) := D116 (Or.inr (ow hw 36)) (ty := .boolean) (by decide)
       show own_Fin p e below (T116.setTop (mkF m 221 #[.val (.int p0), .val (.int p1), .val (.int p2), .val (.int n1), .val (.int c0), .val (.int c1), .val (.int f1), .val (.int f2), .val (.int d0), .val (.int d1), .val (.int n2), .val (.ref s_94), .val (.ref s_99), .val (.ref b103), .val (.int (((p2.toUInt32 >>> ((8 : Int32) &&& 31).toUInt32).toInt32) &&& (7 : Int32))), .unset, .unset, .unset] [(.ref b116)])) _
       refine own_go (fun _ k => XS.dup X116.here hx rfl (hb hby at_221) rfl rfl (XS.aload X116.here hx rfl (hb hby at_222) rfl rfl (XS.iload X116.here hx rfl (hb hby at_224) rfl k))) ?_
       show own_Fin p e below (T116.setTop (mkF m 226 #[.val (.int p0), .val (.int p1), .val (.int p2), .val (.int n1), .val (.int c0), .val (.int c1), .val (.int f1), .val (.int f2), .val (.int d0), .val (.int d1), .val (.int n2), .val (.ref s_94), .val (.ref s_99), .val (.ref b103), .val (.int (((p2.toUInt32 >>> ((8 : Int32) &&& 31).toUInt32).toInt32) &&& (7 : Int32))), .unset, .unset, .unset] [(.int f2), (.ref s_99), (.ref b116), (.ref b116)])) _
       obtain ⟨_, _, ⟨T118, L118, k118, n118⟩, -, X118, ⟨Lc118, hQ118, l118, y118, z118⟩, st118⟩ := X116.specialBack hx (y := (⟨"com/example/crete/crete/TreeItem", "<init>", "(Ljava/lang/String;Z)V"⟩ : MethodName)) rfl hown (mvT hZ (ow hw 29)) (mvT hZ (ow hw 30)) (mvT hZ (ow hw 31)) (by decide) (backOf (W := 1) (rmti l Z a0 hw [] b116 s_99 f2 h116 n0 O E_b116 F_b116_TreeItem_name F_b116_TreeItem_leaf g_b116 E_s_99 ne_s_99_b116) hZ (ow hw 31) (ow hw 28) (by decide) (by decide)) (g := (mkF m 226 #[.val (.int p0), .val (.int p1), .val (.int p2), .val (.int n1), .val (.int c0), .val (.int c1), .val (.int f1), .val (.int f2), .val (.int d0), .val (.int d1), .val (.int n2), .val (.ref s_94), .val (.ref s_99), .val (.ref b103), .val (.int (((p2.toUInt32 >>> ((8 : Int32) &&& 31).toUInt32).toInt32) &&& (7 : Int32))), .unset, .unset, .unset] [(.int f2), (.ref s_99), (.ref b116), (.ref b116)])) rfl (by rw [hml]; rfl) (Steps.refl _) (a := b116) (argsL := [(.ref s_99), (.int f2)]) (rest := [(.ref b116)]) (lenOf pd_8 rfl) rfl (by show 2 * 0 + _ ≤ _; exact Nat.le_of_eq rfl) (hb hby at_226) (fun _ _ => ⟨rfl, e116, (by decide : 14 + 0 ≤ _), (by decide : 28 + 0 ≤ _)⟩)
       dsimp only [Pt.U, Pt.locs, Pt.cells, Pt.slots] at X118 l118 y118 z118 st118 hQ118
       subst l118 y118 z118
       obtain ⟨rfl, N118q, Kq118, P118_0, P118_1, P118_2⟩ := hQ118
       refine own_go (fun _ k => st118.trans k) ?_
       have N118 := Fr.app N105 N118q
       have Sq := (sfS S_b116 sf0)
       have CR := CR.trans (CHr.keep Kq118 Sq HC)
       have S_b103 := Safe.keep Kq118 Sq HC S_b103
       have S_b116 := Safe.keep Kq118 Sq HC S_b116
       have HC := CHv.keep Kq118 Sq HC
       have E_s_94 := E_s_94.keep Kq118
       have F_s_94_String_coder := F_s_94_String_coder.keep Kq118 (ninS ne_s_94_b116 nin0)
       have F_s_94_String_value := F_s_94_String_value.keep Kq118 (ninS ne_s_94_b116 nin0)
       have V_t_95 := V_t_95.keep Kq118 (ninS ne_t_95_b116 nin0)
       have E_s_99 := E_s_99.keep Kq118
       have F_s_99_String_coder := F_s_99_String_coder.keep Kq118 (ninS ne_s_99_b116 nin0)
       have F_s_99_String_value := F_s_99_String_value.keep Kq118 (ninS ne_s_99_b116 nin0)
       have V_t_100 := V_t_100.keep Kq118 (ninS ne_t_100_b116 nin0)
       have E_b103 := E_b103.keep Kq118
       have F_b103_TreeItem_name := F_b103_TreeItem_name.keep Kq118 (ninS ne_b103_b116 nin0)
       have F_b103_TreeItem_leaf := F_b103_TreeItem_leaf.keep Kq118 (ninS ne_b103_b116 nin0)
       have E_b116 := E_b116.keep Kq118
       clear F_b116_TreeItem_name
       clear F_b116_TreeItem_leaf
       have O := O.keep Kq118 (allS g_b116 all0)
       have K119 := K117.trans Kq118 (allS (Or.inr sz_b116) all0)
       have hk := Nat.le_trans hk Kq118.1
       have E_b116 := P118_0
       have F_b116_TreeItem_name := P118_1
       have F_b116_TreeItem_leaf := P118_2
       show own_Fin p e below (T118.setTop (mkF m 229 #[.val (.int p0), .val (.int p1), .val (.int p2), .val (.int n1), .val (.int c0), .val (.int c1), .val (.int f1), .val (.int f2), .val (.int d0), .val (.int d1), .val (.int n2), .val (.ref s_94), .val (.ref s_99), .val (.ref b103), .val (.int (((p2.toUInt32 >>> ((8 : Int32) &&& 31).toUInt32).toInt32) &&& (7 : Int32))), .unset, .unset, .unset] [(.ref b116)])) _
       refine own_go (fun _ k => XS.astore X118.here hx rfl (hb hby at_229) rfl rfl (l' := #[.val (.int p0), .val (.int p1), .val (.int p2), .val (.int n1), .val (.int c0), .val (.int c1), .val (.int f1), .val (.int f2), .val (.int d0), .val (.int d1), .val (.int n2), .val (.ref s_94), .val (.ref s_99), .val (.ref b103), .val (.int (((p2.toUInt32 >>> ((8 : Int32) &&& 31).toUInt32).toInt32) &&& (7 : Int32))), .val (.ref b116), .unset, .unset]) rfl k) ?_
       show own_Fin p e below (T118.setTop (mkF m 231 #[.val (.int p0), .val (.int p1), .val (.int p2), .val (.int n1), .val (.int c0), .val (.int c1), .val (.int f1), .val (.int f2), .val (.int d0), .val (.int d1), .val (.int n2), .val (.ref s_94), .val (.ref s_99), .val (.ref b103), .val (.int (((p2.toUInt32 >>> ((8 : Int32) &&& 31).toUInt32).toInt32) &&& (7 : Int32))), .val (.ref b116), .unset, .unset] [])) _
       have j2 : ∀ (f16 : Int32) (ex : Int32), ex = own_bi ((own_cs n1 c0 c1) = (own_cs n2 d0 d1) ∧ f1 = f2) → own_Fin p e below (T118.setTop (mkF m 287 #[.val (.int p0), .val (.int p1), .val (.int p2), .val (.int n1), .val (.int c0), .val (.int c1), .val (.int f1), .val (.int f2), .val (.int d0), .val (.int d1), .val (.int n2), .val (.ref s_94), .val (.ref s_99), .val (.ref b103), .val (.int (((p2.toUInt32 >>> ((8 : Int32) &&& 31).toUInt32).toInt32) &&& (7 : Int32))), .val (.ref b116), .val (.int f16), .val (.int ex)] [])) (fun o' t' => ∃ v' L', o' = .returned v' ∧ Qrm0 Z p0 p1 p2 z h0 n0 v' t'.heap L' ∧ CHr Z own_EL s.vm s.heap t'.vm t'.heap ∧ ReturnedEndW s o' t' L' 14 28) := by
        intro f16 ex hex
        show own_Fin p e below (T118.setTop (mkF m 287 #[.val (.int p0), .val (.int p1), .val (.int p2), .val (.int n1), .val (.int c0), .val (.int c1), .val (.int f1), .val (.int f2), .val (.int d0), .val (.int d1), .val (.int n2), .val (.ref s_94), .val (.ref s_99), .val (.ref b103), .val (.int (((p2.toUInt32 >>> ((8 : Int32) &&& 31).toUInt32).toInt32) &&& (7 : Int32))), .val (.ref b116), .val (.int f16), .val (.int ex)] [])) _
        refine own_go (fun _ k => XS.aload X118.here hx rfl (hb hby at_287) rfl rfl (XS.aload X118.here hx rfl (hb hby at_289) rfl rfl k)) ?_
        show own_Fin p e below (T118.setTop (mkF m 291 #[.val (.int p0), .val (.int p1), .val (.int p2), .val (.int n1), .val (.int c0), .val (.int c1), .val (.int f1), .val (.int f2), .val (.int d0), .val (.int d1), .val (.int n2), .val (.ref s_94), .val (.ref s_99), .val (.ref b103), .val (.int (((p2.toUInt32 >>> ((8 : Int32) &&& 31).toUInt32).toInt32) &&& (7 : Int32))), .val (.ref b116), .val (.int f16), .val (.int ex)] [(.ref b116), (.ref b103)])) _
        obtain ⟨cq120, kq120, q120a, q120b, q120c⟩ := isOf hZ rfl E_b103
        obtain ⟨_, _, ⟨T120, L120, k120, n120⟩, -, X120, ⟨Lc120, hQ120, l120, y120, z120⟩, st120⟩ := X118.virtualBack hx (y := (⟨"com/example/crete/crete/TreeItem", "equals", "(Ljava/lang/Object;)Z"⟩ : MethodName)) (z := (⟨"com/example/crete/crete/TreeItem", "equals", "(Ljava/lang/Object;)Z"⟩ : MethodName)) hown (mvT hZ (ow hw 37)) (mvT hZ (ow hw 38)) (notFace_of_selects (args := #[]) (mvT hZ (ow hw 40))) (mvT hZ (ow hw 40)) (mvT hZ (ow hw 39)) (by decide) (backOf (W := 0) (rmeU l Z a0 hw [] b103 b116 f1 f2 s_94 t_95 kb_96 (own_cs n1 c0 c1) s_99 t_100 kb_101 (own_cs n2 d0 d1) z (T118.heap) n0 O S_String_COMPACT_STRINGS hz E_b103 E_b116 F_b103_TreeItem_name F_b103_TreeItem_leaf F_b116_TreeItem_name F_b116_TreeItem_leaf E_s_94 F_s_94_String_coder F_s_94_String_value V_t_95 E_s_99 F_s_99_String_coder F_s_99_String_value V_t_100 (own_csr hc0 hc1) (own_csr hd0 hd1) (own_csl _ _ _) (own_csl _ _ _)) hZ (ow hw 41) (ow hw 28) (by decide) (by decide)) q120a q120c (g := (mkF m 291 #[.val (.int p0), .val (.int p1), .val (.int p2), .val (.int n1), .val (.int c0), .val (.int c1), .val (.int f1), .val (.int f2), .val (.int d0), .val (.int d1), .val (.int n2), .val (.ref s_94), .val (.ref s_99), .val (.ref b103), .val (.int (((p2.toUInt32 >>> ((8 : Int32) &&& 31).toUInt32).toInt32) &&& (7 : Int32))), .val (.ref b116), .val (.int f16), .val (.int ex)] [(.ref b116), (.ref b103)])) rfl (by rw [hml]; rfl) (Steps.refl _) (argsL := [(.ref b116)]) (rest := []) (lenOf pd_6 rfl) rfl (by show 2 * 0 + _ ≤ _; exact Nat.le_of_eq rfl) (hb hby at_291) (fun _ _ => ⟨rfl, rfl, (by decide : 14 + 0 ≤ _), (by decide : 28 + 0 ≤ _)⟩)
        dsimp only [Pt.U, Pt.locs, Pt.cells, Pt.slots] at X120 l120 y120 z120 st120 hQ120
        subst l120 y120 z120
        obtain ⟨rfl, N120q, e120⟩ := hQ120
        refine own_go (fun _ k => st120.trans k) ?_
        have N120 := Fr.app N118 N120q
        show own_Fin p e below (T120.setTop (mkF m 294 #[.val (.int p0), .val (.int p1), .val (.int p2), .val (.int n1), .val (.int c0), .val (.int c1), .val (.int f1), .val (.int f2), .val (.int d0), .val (.int d1), .val (.int n2), .val (.ref s_94), .val (.ref s_99), .val (.ref b103), .val (.int (((p2.toUInt32 >>> ((8 : Int32) &&& 31).toUInt32).toInt32) &&& (7 : Int32))), .val (.ref b116), .val (.int f16), .val (.int ex)] [(.int (own_bi ((own_cs n2 d0 d1) = (own_cs n1 c0 c1) ∧ (nar .boolean f2) = (nar .boolean f1))))])) _
        refine own_go (fun _ k => XS.iload X120.here hx rfl (hb hby at_294) rfl (XS.icmpNo X120.here hx rfl (hb hby at_296) rfl (teq (by rw [hex]; exact own_biC (by rw [own_nz hf1, own_nz hf2]; exact ⟨fun q => ⟨q.1.symm, q.2.symm⟩, fun q => ⟨q.1.symm, q.2.symm⟩⟩) : (own_bi ((own_cs n2 d0 d1) = (own_cs n1 c0 c1) ∧ (nar .boolean f2) = (nar .boolean f1))) = ex)).2 (XS.aload X120.here hx rfl (hb hby at_299) rfl rfl (XS.aload X120.here hx rfl (hb hby at_301) rfl rfl k)))) ?_
        show own_Fin p e below (T120.setTop (mkF m 303 #[.val (.int p0), .val (.int p1), .val (.int p2), .val (.int n1), .val (.int c0), .val (.int c1), .val (.int f1), .val (.int f2), .val (.int d0), .val (.int d1), .val (.int n2), .val (.ref s_94), .val (.ref s_99), .val (.ref b103), .val (.int (((p2.toUInt32 >>> ((8 : Int32) &&& 31).toUInt32).toInt32) &&& (7 : Int32))), .val (.ref b116), .val (.int f16), .val (.int ex)] [(.ref b103), (.ref b116)])) _
        obtain ⟨cq121, kq121, q121a, q121b, q121c⟩ := isOf hZ e120 E_b116
        obtain ⟨_, _, ⟨T121, L121, k121, n121⟩, -, X121, ⟨Lc121, hQ121, l121, y121, z121⟩, st121⟩ := X120.virtualBack hx (y := (⟨"com/example/crete/crete/TreeItem", "equals", "(Ljava/lang/Object;)Z"⟩ : MethodName)) (z := (⟨"com/example/crete/crete/TreeItem", "equals", "(Ljava/lang/Object;)Z"⟩ : MethodName)) hown (mvT hZ (ow hw 37)) (mvT hZ (ow hw 38)) (notFace_of_selects (args := #[]) (mvT hZ (ow hw 40))) (mvT hZ (ow hw 40)) (mvT hZ (ow hw 39)) (by decide) (backOf (W := 0) (rmeU l Z a0 hw [] b116 b103 f2 f1 s_99 t_100 kb_101 (own_cs n2 d0 d1) s_94 t_95 kb_96 (own_cs n1 c0 c1) z (T118.heap) n0 O S_String_COMPACT_STRINGS hz E_b116 E_b103 F_b116_TreeItem_name F_b116_TreeItem_leaf F_b103_TreeItem_name F_b103_TreeItem_leaf E_s_99 F_s_99_String_coder F_s_99_String_value V_t_100 E_s_94 F_s_94_String_coder F_s_94_String_value V_t_95 (own_csr hd0 hd1) (own_csr hc0 hc1) (own_csl _ _ _) (own_csl _ _ _)) hZ (ow hw 41) (ow hw 28) (by decide) (by decide)) q121a q121c (g := (mkF m 303 #[.val (.int p0), .val (.int p1), .val (.int p2), .val (.int n1), .val (.int c0), .val (.int c1), .val (.int f1), .val (.int f2), .val (.int d0), .val (.int d1), .val (.int n2), .val (.ref s_94), .val (.ref s_99), .val (.ref b103), .val (.int (((p2.toUInt32 >>> ((8 : Int32) &&& 31).toUInt32).toInt32) &&& (7 : Int32))), .val (.ref b116), .val (.int f16), .val (.int ex)] [(.ref b103), (.ref b116)])) rfl (by rw [hml]; rfl) (Steps.refl _) (argsL := [(.ref b103)]) (rest := []) (lenOf pd_6 rfl) rfl (by show 2 * 0 + _ ≤ _; exact Nat.le_of_eq rfl) (hb hby at_303) (fun _ _ => ⟨rfl, e120, (by decide : 14 + 0 ≤ _), (by decide : 28 + 0 ≤ _)⟩)
        dsimp only [Pt.U, Pt.locs, Pt.cells, Pt.slots] at X121 l121 y121 z121 st121 hQ121
        subst l121 y121 z121
        obtain ⟨rfl, N121q, e121⟩ := hQ121
        refine own_go (fun _ k => st121.trans k) ?_
        have N121 := Fr.app N120 N121q
        show own_Fin p e below (T121.setTop (mkF m 306 #[.val (.int p0), .val (.int p1), .val (.int p2), .val (.int n1), .val (.int c0), .val (.int c1), .val (.int f1), .val (.int f2), .val (.int d0), .val (.int d1), .val (.int n2), .val (.ref s_94), .val (.ref s_99), .val (.ref b103), .val (.int (((p2.toUInt32 >>> ((8 : Int32) &&& 31).toUInt32).toInt32) &&& (7 : Int32))), .val (.ref b116), .val (.int f16), .val (.int ex)] [(.int (own_bi ((own_cs n1 c0 c1) = (own_cs n2 d0 d1) ∧ (nar .boolean f1) = (nar .boolean f2))))])) _
        refine own_go (fun _ k => XS.iload X121.here hx rfl (hb hby at_306) rfl (XS.icmpNo X121.here hx rfl (hb hby at_308) rfl (teq (by rw [hex]; exact own_biC (by rw [own_nz hf1, own_nz hf2]) : (own_bi ((own_cs n1 c0 c1) = (own_cs n2 d0 d1) ∧ (nar .boolean f1) = (nar .boolean f2))) = ex)).2 (XS.iconst X121.here hx rfl (hb hby at_311) (XS.goto X121.here hx rfl (pc0 := 312) (pc' := 316) rfl (hb hby at_312) (by decide) (by decide) k)))) ?_
        show own_Fin p e below (T121.setTop (mkF m 316 #[.val (.int p0), .val (.int p1), .val (.int p2), .val (.int n1), .val (.int c0), .val (.int c1), .val (.int f1), .val (.int f2), .val (.int d0), .val (.int d1), .val (.int n2), .val (.ref s_94), .val (.ref s_99), .val (.ref b103), .val (.int (((p2.toUInt32 >>> ((8 : Int32) &&& 31).toUInt32).toInt32) &&& (7 : Int32))), .val (.ref b116), .val (.int f16), .val (.int ex)] [(.int 1)])) _
        obtain ⟨fs, hr, hrun, hended, hE⟩ := X121.leaveW hS (Nat.le_trans hk (Nat.le_of_eq (congrArg Array.size e121).symm)) (v := some (.int 1)) (fun h => by rw [Bd.returns] at h; cases h)
        refine ⟨_, _, ?_, hrun, hended, _, _, rfl, ?_, ?_, ⟨_, rfl⟩, hE.2.1, hE.2.2.1, hE.2.2.2.mono (by decide) (by decide)⟩
        ·exact retN X121 hx (t := .boolean) Bd.returns (by simp) (hb hby at_316) hr
        ·show Qrm0 Z p0 p1 p2 z h0 n0 _ T121.heap _
         rw [e121]
         exact ⟨rfl, N121, K119⟩
        ·show CHr Z own_EL s.vm s.heap T121.vm T121.heap
         rw [hh, e121]
         exact CR.trans (CHv.at X121 hZ (own_EW hw) HC)
       show own_Fin p e below (T118.setTop (mkF m 231 #[.val (.int p0), .val (.int p1), .val (.int p2), .val (.int n1), .val (.int c0), .val (.int c1), .val (.int f1), .val (.int f2), .val (.int d0), .val (.int d1), .val (.int n2), .val (.ref s_94), .val (.ref s_99), .val (.ref b103), .val (.int (((p2.toUInt32 >>> ((8 : Int32) &&& 31).toUInt32).toInt32) &&& (7 : Int32))), .val (.ref b116), .unset, .unset] [])) _
       refine own_go (fun _ k => XS.iloadN X118.here hx rfl (hb hby at_231) rfl (XS.iload X118.here hx rfl (hb hby at_232) rfl k)) ?_
       show own_Fin p e below (T118.setTop (mkF m 234 #[.val (.int p0), .val (.int p1), .val (.int p2), .val (.int n1), .val (.int c0), .val (.int c1), .val (.int f1), .val (.int f2), .val (.int d0), .val (.int d1), .val (.int n2), .val (.ref s_94), .val (.ref s_99), .val (.ref b103), .val (.int (((p2.toUInt32 >>> ((8 : Int32) &&& 31).toUInt32).toInt32) &&& (7 : Int32))), .val (.ref b116), .unset, .unset] [(.int n2), (.int n1)])) _
       by_cases hc234_123 : n1 = n2
       ·refine own_go (fun _ k => XS.icmpNo X118.here hx rfl (hb hby at_234) rfl (teq hc234_123).2 (XS.iloadN X118.here hx rfl (hb hby at_237) rfl (XS.iconst X118.here hx rfl (hb hby at_238) k))) ?_
        show own_Fin p e below (T118.setTop (mkF m 239 #[.val (.int p0), .val (.int p1), .val (.int p2), .val (.int n1), .val (.int c0), .val (.int c1), .val (.int f1), .val (.int f2), .val (.int d0), .val (.int d1), .val (.int n2), .val (.ref s_94), .val (.ref s_99), .val (.ref b103), .val (.int (((p2.toUInt32 >>> ((8 : Int32) &&& 31).toUInt32).toInt32) &&& (7 : Int32))), .val (.ref b116), .unset, .unset] [(.int 1), (.int n1)])) _
        by_cases hc239_124 : n1 < (1 : Int32)
        ·refine own_go (fun _ k => XS.icmpYes X118.here hx rfl (pc0 := 239) (pc' := 249) rfl (hb hby at_239) rfl (tlt hc239_124).1 (by decide) (by decide) (XS.iloadN X118.here hx rfl (hb hby at_249) rfl (XS.iconst X118.here hx rfl (hb hby at_250) k))) ?_
         show own_Fin p e below (T118.setTop (mkF m 251 #[.val (.int p0), .val (.int p1), .val (.int p2), .val (.int n1), .val (.int c0), .val (.int c1), .val (.int f1), .val (.int f2), .val (.int d0), .val (.int d1), .val (.int n2), .val (.ref s_94), .val (.ref s_99), .val (.ref b103), .val (.int (((p2.toUInt32 >>> ((8 : Int32) &&& 31).toUInt32).toInt32) &&& (7 : Int32))), .val (.ref b116), .unset, .unset] [(.int 2), (.int n1)])) _
         by_cases hc251_125 : n1 < (2 : Int32)
         ·refine own_go (fun _ k => XS.icmpYes X118.here hx rfl (pc0 := 251) (pc' := 261) rfl (hb hby at_251) rfl (tlt hc251_125).1 (by decide) (by decide) (XS.iconst X118.here hx rfl (hb hby at_261) (XS.goto X118.here hx rfl (pc0 := 262) (pc' := 266) rfl (hb hby at_262) (by decide) (by decide) (XS.istore X118.here hx rfl (hb hby at_266) rfl (l' := #[.val (.int p0), .val (.int p1), .val (.int p2), .val (.int n1), .val (.int c0), .val (.int c1), .val (.int f1), .val (.int f2), .val (.int d0), .val (.int d1), .val (.int n2), .val (.ref s_94), .val (.ref s_99), .val (.ref b103), .val (.int (((p2.toUInt32 >>> ((8 : Int32) &&& 31).toUInt32).toInt32) &&& (7 : Int32))), .val (.ref b116), .val (.int 1), .unset]) rfl (XS.iload X118.here hx rfl (hb hby at_268) rfl (XS.ifNo X118.here hx rfl (hb hby at_270) rfl ((if0 _ _).trans (feq (by decide : ¬ ((1 : Int32) = (0 : Int32)))).1) (XS.iload X118.here hx rfl (hb hby at_273) rfl (XS.iload X118.here hx rfl (hb hby at_275) rfl k)))))))) ?_
          show own_Fin p e below (T118.setTop (mkF m 277 #[.val (.int p0), .val (.int p1), .val (.int p2), .val (.int n1), .val (.int c0), .val (.int c1), .val (.int f1), .val (.int f2), .val (.int d0), .val (.int d1), .val (.int n2), .val (.ref s_94), .val (.ref s_99), .val (.ref b103), .val (.int (((p2.toUInt32 >>> ((8 : Int32) &&& 31).toUInt32).toInt32) &&& (7 : Int32))), .val (.ref b116), .val (.int 1), .unset] [(.int f2), (.int f1)])) _
          by_cases hc277_126 : f1 = f2
          ·refine own_go (fun _ k => XS.icmpNo X118.here hx rfl (hb hby at_277) rfl (teq hc277_126).2 (XS.iconst X118.here hx rfl (hb hby at_280) (XS.goto X118.here hx rfl (pc0 := 281) (pc' := 285) rfl (hb hby at_281) (by decide) (by decide) (XS.istore X118.here hx rfl (hb hby at_285) rfl (l' := #[.val (.int p0), .val (.int p1), .val (.int p2), .val (.int n1), .val (.int c0), .val (.int c1), .val (.int f1), .val (.int f2), .val (.int d0), .val (.int d1), .val (.int n2), .val (.ref s_94), .val (.ref s_99), .val (.ref b103), .val (.int (((p2.toUInt32 >>> ((8 : Int32) &&& 31).toUInt32).toInt32) &&& (7 : Int32))), .val (.ref b116), .val (.int 1), .val (.int 1)]) rfl k)))) ?_
           show own_Fin p e below (T118.setTop (mkF m 287 #[.val (.int p0), .val (.int p1), .val (.int p2), .val (.int n1), .val (.int c0), .val (.int c1), .val (.int f1), .val (.int f2), .val (.int d0), .val (.int d1), .val (.int n2), .val (.ref s_94), .val (.ref s_99), .val (.ref b103), .val (.int (((p2.toUInt32 >>> ((8 : Int32) &&& 31).toUInt32).toInt32) &&& (7 : Int32))), .val (.ref b116), .val (.int 1), .val (.int 1)] [])) _
           exact j2 (1 : Int32) (1 : Int32) (by simp only [own_bi, own_names hN1 hn2, eq_true hc234_123, eq_true hc239_124, eq_true hc251_125, eq_true hc277_126, and_true, true_and, and_false, false_and, or_true, true_or, or_false, false_or, ↓reduceIte])
          ·refine own_go (fun _ k => XS.icmpYes X118.here hx rfl (pc0 := 277) (pc' := 284) rfl (hb hby at_277) rfl (feq hc277_126).2 (by decide) (by decide) (XS.iconst X118.here hx rfl (hb hby at_284) (XS.istore X118.here hx rfl (hb hby at_285) rfl (l' := #[.val (.int p0), .val (.int p1), .val (.int p2), .val (.int n1), .val (.int c0), .val (.int c1), .val (.int f1), .val (.int f2), .val (.int d0), .val (.int d1), .val (.int n2), .val (.ref s_94), .val (.ref s_99), .val (.ref b103), .val (.int (((p2.toUInt32 >>> ((8 : Int32) &&& 31).toUInt32).toInt32) &&& (7 : Int32))), .val (.ref b116), .val (.int 1), .val (.int 0)]) rfl k))) ?_
           show own_Fin p e below (T118.setTop (mkF m 287 #[.val (.int p0), .val (.int p1), .val (.int p2), .val (.int n1), .val (.int c0), .val (.int c1), .val (.int f1), .val (.int f2), .val (.int d0), .val (.int d1), .val (.int n2), .val (.ref s_94), .val (.ref s_99), .val (.ref b103), .val (.int (((p2.toUInt32 >>> ((8 : Int32) &&& 31).toUInt32).toInt32) &&& (7 : Int32))), .val (.ref b116), .val (.int 1), .val (.int 0)] [])) _
           exact j2 (1 : Int32) (0 : Int32) (by simp only [own_bi, own_names hN1 hn2, eq_true hc234_123, eq_true hc239_124, eq_true hc251_125, eq_false hc277_126, and_true, true_and, and_false, false_and, or_true, true_or, or_false, false_or, ↓reduceIte])
         ·refine own_go (fun _ k => XS.icmpNo X118.here hx rfl (hb hby at_251) rfl (flt hc251_125).1 (XS.iload X118.here hx rfl (hb hby at_254) rfl (XS.iload X118.here hx rfl (hb hby at_256) rfl k))) ?_
          show own_Fin p e below (T118.setTop (mkF m 258 #[.val (.int p0), .val (.int p1), .val (.int p2), .val (.int n1), .val (.int c0), .val (.int c1), .val (.int f1), .val (.int f2), .val (.int d0), .val (.int d1), .val (.int n2), .val (.ref s_94), .val (.ref s_99), .val (.ref b103), .val (.int (((p2.toUInt32 >>> ((8 : Int32) &&& 31).toUInt32).toInt32) &&& (7 : Int32))), .val (.ref b116), .unset, .unset] [(.int d1), (.int c1)])) _
          by_cases hc258_127 : c1 = d1
          ·refine own_go (fun _ k => XS.icmpNo X118.here hx rfl (hb hby at_258) rfl (teq hc258_127).2 (XS.iconst X118.here hx rfl (hb hby at_261) (XS.goto X118.here hx rfl (pc0 := 262) (pc' := 266) rfl (hb hby at_262) (by decide) (by decide) (XS.istore X118.here hx rfl (hb hby at_266) rfl (l' := #[.val (.int p0), .val (.int p1), .val (.int p2), .val (.int n1), .val (.int c0), .val (.int c1), .val (.int f1), .val (.int f2), .val (.int d0), .val (.int d1), .val (.int n2), .val (.ref s_94), .val (.ref s_99), .val (.ref b103), .val (.int (((p2.toUInt32 >>> ((8 : Int32) &&& 31).toUInt32).toInt32) &&& (7 : Int32))), .val (.ref b116), .val (.int 1), .unset]) rfl (XS.iload X118.here hx rfl (hb hby at_268) rfl (XS.ifNo X118.here hx rfl (hb hby at_270) rfl ((if0 _ _).trans (feq (by decide : ¬ ((1 : Int32) = (0 : Int32)))).1) (XS.iload X118.here hx rfl (hb hby at_273) rfl (XS.iload X118.here hx rfl (hb hby at_275) rfl k)))))))) ?_
           show own_Fin p e below (T118.setTop (mkF m 277 #[.val (.int p0), .val (.int p1), .val (.int p2), .val (.int n1), .val (.int c0), .val (.int c1), .val (.int f1), .val (.int f2), .val (.int d0), .val (.int d1), .val (.int n2), .val (.ref s_94), .val (.ref s_99), .val (.ref b103), .val (.int (((p2.toUInt32 >>> ((8 : Int32) &&& 31).toUInt32).toInt32) &&& (7 : Int32))), .val (.ref b116), .val (.int 1), .unset] [(.int f2), (.int f1)])) _
           by_cases hc277_128 : f1 = f2
           ·refine own_go (fun _ k => XS.icmpNo X118.here hx rfl (hb hby at_277) rfl (teq hc277_128).2 (XS.iconst X118.here hx rfl (hb hby at_280) (XS.goto X118.here hx rfl (pc0 := 281) (pc' := 285) rfl (hb hby at_281) (by decide) (by decide) (XS.istore X118.here hx rfl (hb hby at_285) rfl (l' := #[.val (.int p0), .val (.int p1), .val (.int p2), .val (.int n1), .val (.int c0), .val (.int c1), .val (.int f1), .val (.int f2), .val (.int d0), .val (.int d1), .val (.int n2), .val (.ref s_94), .val (.ref s_99), .val (.ref b103), .val (.int (((p2.toUInt32 >>> ((8 : Int32) &&& 31).toUInt32).toInt32) &&& (7 : Int32))), .val (.ref b116), .val (.int 1), .val (.int 1)]) rfl k)))) ?_
            show own_Fin p e below (T118.setTop (mkF m 287 #[.val (.int p0), .val (.int p1), .val (.int p2), .val (.int n1), .val (.int c0), .val (.int c1), .val (.int f1), .val (.int f2), .val (.int d0), .val (.int d1), .val (.int n2), .val (.ref s_94), .val (.ref s_99), .val (.ref b103), .val (.int (((p2.toUInt32 >>> ((8 : Int32) &&& 31).toUInt32).toInt32) &&& (7 : Int32))), .val (.ref b116), .val (.int 1), .val (.int 1)] [])) _
            exact j2 (1 : Int32) (1 : Int32) (by simp only [own_bi, own_names hN1 hn2, eq_true hc234_123, eq_true hc239_124, eq_false hc251_125, eq_true hc258_127, eq_true hc277_128, and_true, true_and, and_false, false_and, or_true, true_or, or_false, false_or, ↓reduceIte])
           ·refine own_go (fun _ k => XS.icmpYes X118.here hx rfl (pc0 := 277) (pc' := 284) rfl (hb hby at_277) rfl (feq hc277_128).2 (by decide) (by decide) (XS.iconst X118.here hx rfl (hb hby at_284) (XS.istore X118.here hx rfl (hb hby at_285) rfl (l' := #[.val (.int p0), .val (.int p1), .val (.int p2), .val (.int n1), .val (.int c0), .val (.int c1), .val (.int f1), .val (.int f2), .val (.int d0), .val (.int d1), .val (.int n2), .val (.ref s_94), .val (.ref s_99), .val (.ref b103), .val (.int (((p2.toUInt32 >>> ((8 : Int32) &&& 31).toUInt32).toInt32) &&& (7 : Int32))), .val (.ref b116), .val (.int 1), .val (.int 0)]) rfl k))) ?_
            show own_Fin p e below (T118.setTop (mkF m 287 #[.val (.int p0), .val (.int p1), .val (.int p2), .val (.int n1), .val (.int c0), .val (.int c1), .val (.int f1), .val (.int f2), .val (.int d0), .val (.int d1), .val (.int n2), .val (.ref s_94), .val (.ref s_99), .val (.ref b103), .val (.int (((p2.toUInt32 >>> ((8 : Int32) &&& 31).toUInt32).toInt32) &&& (7 : Int32))), .val (.ref b116), .val (.int 1), .val (.int 0)] [])) _
            exact j2 (1 : Int32) (0 : Int32) (by simp only [own_bi, own_names hN1 hn2, eq_true hc234_123, eq_true hc239_124, eq_false hc251_125, eq_true hc258_127, eq_false hc277_128, and_true, true_and, and_false, false_and, or_true, true_or, or_false, false_or, ↓reduceIte])
          ·refine own_go (fun _ k => XS.icmpYes X118.here hx rfl (pc0 := 258) (pc' := 265) rfl (hb hby at_258) rfl (feq hc258_127).2 (by decide) (by decide) (XS.iconst X118.here hx rfl (hb hby at_265) (XS.istore X118.here hx rfl (hb hby at_266) rfl (l' := #[.val (.int p0), .val (.int p1), .val (.int p2), .val (.int n1), .val (.int c0), .val (.int c1), .val (.int f1), .val (.int f2), .val (.int d0), .val (.int d1), .val (.int n2), .val (.ref s_94), .val (.ref s_99), .val (.ref b103), .val (.int (((p2.toUInt32 >>> ((8 : Int32) &&& 31).toUInt32).toInt32) &&& (7 : Int32))), .val (.ref b116), .val (.int 0), .unset]) rfl (XS.iload X118.here hx rfl (hb hby at_268) rfl (XS.ifYes X118.here hx rfl (pc0 := 270) (pc' := 284) rfl (hb hby at_270) rfl ((if0 _ _).trans (teq (by decide : (0 : Int32) = (0 : Int32))).1) (by decide) (by decide) (XS.iconst X118.here hx rfl (hb hby at_284) (XS.istore X118.here hx rfl (hb hby at_285) rfl (l' := #[.val (.int p0), .val (.int p1), .val (.int p2), .val (.int n1), .val (.int c0), .val (.int c1), .val (.int f1), .val (.int f2), .val (.int d0), .val (.int d1), .val (.int n2), .val (.ref s_94), .val (.ref s_99), .val (.ref b103), .val (.int (((p2.toUInt32 >>> ((8 : Int32) &&& 31).toUInt32).toInt32) &&& (7 : Int32))), .val (.ref b116), .val (.int 0), .val (.int 0)]) rfl k))))))) ?_
           show own_Fin p e below (T118.setTop (mkF m 287 #[.val (.int p0), .val (.int p1), .val (.int p2), .val (.int n1), .val (.int c0), .val (.int c1), .val (.int f1), .val (.int f2), .val (.int d0), .val (.int d1), .val (.int n2), .val (.ref s_94), .val (.ref s_99), .val (.ref b103), .val (.int (((p2.toUInt32 >>> ((8 : Int32) &&& 31).toUInt32).toInt32) &&& (7 : Int32))), .val (.ref b116), .val (.int 0), .val (.int 0)] [])) _
           exact j2 (0 : Int32) (0 : Int32) (by simp only [own_bi, own_names hN1 hn2, eq_true hc234_123, eq_true hc239_124, eq_false hc251_125, eq_false hc258_127, and_true, true_and, and_false, false_and, or_true, true_or, or_false, false_or, ↓reduceIte])
        ·refine own_go (fun _ k => XS.icmpNo X118.here hx rfl (hb hby at_239) rfl (flt hc239_124).1 (XS.iload X118.here hx rfl (hb hby at_242) rfl (XS.iload X118.here hx rfl (hb hby at_244) rfl k))) ?_
         show own_Fin p e below (T118.setTop (mkF m 246 #[.val (.int p0), .val (.int p1), .val (.int p2), .val (.int n1), .val (.int c0), .val (.int c1), .val (.int f1), .val (.int f2), .val (.int d0), .val (.int d1), .val (.int n2), .val (.ref s_94), .val (.ref s_99), .val (.ref b103), .val (.int (((p2.toUInt32 >>> ((8 : Int32) &&& 31).toUInt32).toInt32) &&& (7 : Int32))), .val (.ref b116), .unset, .unset] [(.int d0), (.int c0)])) _
         by_cases hc246_129 : c0 = d0
         ·refine own_go (fun _ k => XS.icmpNo X118.here hx rfl (hb hby at_246) rfl (teq hc246_129).2 (XS.iloadN X118.here hx rfl (hb hby at_249) rfl (XS.iconst X118.here hx rfl (hb hby at_250) k))) ?_
          show own_Fin p e below (T118.setTop (mkF m 251 #[.val (.int p0), .val (.int p1), .val (.int p2), .val (.int n1), .val (.int c0), .val (.int c1), .val (.int f1), .val (.int f2), .val (.int d0), .val (.int d1), .val (.int n2), .val (.ref s_94), .val (.ref s_99), .val (.ref b103), .val (.int (((p2.toUInt32 >>> ((8 : Int32) &&& 31).toUInt32).toInt32) &&& (7 : Int32))), .val (.ref b116), .unset, .unset] [(.int 2), (.int n1)])) _
          by_cases hc251_130 : n1 < (2 : Int32)
          ·refine own_go (fun _ k => XS.icmpYes X118.here hx rfl (pc0 := 251) (pc' := 261) rfl (hb hby at_251) rfl (tlt hc251_130).1 (by decide) (by decide) (XS.iconst X118.here hx rfl (hb hby at_261) (XS.goto X118.here hx rfl (pc0 := 262) (pc' := 266) rfl (hb hby at_262) (by decide) (by decide) (XS.istore X118.here hx rfl (hb hby at_266) rfl (l' := #[.val (.int p0), .val (.int p1), .val (.int p2), .val (.int n1), .val (.int c0), .val (.int c1), .val (.int f1), .val (.int f2), .val (.int d0), .val (.int d1), .val (.int n2), .val (.ref s_94), .val (.ref s_99), .val (.ref b103), .val (.int (((p2.toUInt32 >>> ((8 : Int32) &&& 31).toUInt32).toInt32) &&& (7 : Int32))), .val (.ref b116), .val (.int 1), .unset]) rfl (XS.iload X118.here hx rfl (hb hby at_268) rfl (XS.ifNo X118.here hx rfl (hb hby at_270) rfl ((if0 _ _).trans (feq (by decide : ¬ ((1 : Int32) = (0 : Int32)))).1) (XS.iload X118.here hx rfl (hb hby at_273) rfl (XS.iload X118.here hx rfl (hb hby at_275) rfl k)))))))) ?_
           show own_Fin p e below (T118.setTop (mkF m 277 #[.val (.int p0), .val (.int p1), .val (.int p2), .val (.int n1), .val (.int c0), .val (.int c1), .val (.int f1), .val (.int f2), .val (.int d0), .val (.int d1), .val (.int n2), .val (.ref s_94), .val (.ref s_99), .val (.ref b103), .val (.int (((p2.toUInt32 >>> ((8 : Int32) &&& 31).toUInt32).toInt32) &&& (7 : Int32))), .val (.ref b116), .val (.int 1), .unset] [(.int f2), (.int f1)])) _
           by_cases hc277_131 : f1 = f2
           ·refine own_go (fun _ k => XS.icmpNo X118.here hx rfl (hb hby at_277) rfl (teq hc277_131).2 (XS.iconst X118.here hx rfl (hb hby at_280) (XS.goto X118.here hx rfl (pc0 := 281) (pc' := 285) rfl (hb hby at_281) (by decide) (by decide) (XS.istore X118.here hx rfl (hb hby at_285) rfl (l' := #[.val (.int p0), .val (.int p1), .val (.int p2), .val (.int n1), .val (.int c0), .val (.int c1), .val (.int f1), .val (.int f2), .val (.int d0), .val (.int d1), .val (.int n2), .val (.ref s_94), .val (.ref s_99), .val (.ref b103), .val (.int (((p2.toUInt32 >>> ((8 : Int32) &&& 31).toUInt32).toInt32) &&& (7 : Int32))), .val (.ref b116), .val (.int 1), .val (.int 1)]) rfl k)))) ?_
            show own_Fin p e below (T118.setTop (mkF m 287 #[.val (.int p0), .val (.int p1), .val (.int p2), .val (.int n1), .val (.int c0), .val (.int c1), .val (.int f1), .val (.int f2), .val (.int d0), .val (.int d1), .val (.int n2), .val (.ref s_94), .val (.ref s_99), .val (.ref b103), .val (.int (((p2.toUInt32 >>> ((8 : Int32) &&& 31).toUInt32).toInt32) &&& (7 : Int32))), .val (.ref b116), .val (.int 1), .val (.int 1)] [])) _
            exact j2 (1 : Int32) (1 : Int32) (by simp only [own_bi, own_names hN1 hn2, eq_true hc234_123, eq_false hc239_124, eq_true hc246_129, eq_true hc251_130, eq_true hc277_131, and_true, true_and, and_false, false_and, or_true, true_or, or_false, false_or, ↓reduceIte])
           ·refine own_go (fun _ k => XS.icmpYes X118.here hx rfl (pc0 := 277) (pc' := 284) rfl (hb hby at_277) rfl (feq hc277_131).2 (by decide) (by decide) (XS.iconst X118.here hx rfl (hb hby at_284) (XS.istore X118.here hx rfl (hb hby at_285) rfl (l' := #[.val (.int p0), .val (.int p1), .val (.int p2), .val (.int n1), .val (.int c0), .val (.int c1), .val (.int f1), .val (.int f2), .val (.int d0), .val (.int d1), .val (.int n2), .val (.ref s_94), .val (.ref s_99), .val (.ref b103), .val (.int (((p2.toUInt32 >>> ((8 : Int32) &&& 31).toUInt32).toInt32) &&& (7 : Int32))), .val (.ref b116), .val (.int 1), .val (.int 0)]) rfl k))) ?_
            show own_Fin p e below (T118.setTop (mkF m 287 #[.val (.int p0), .val (.int p1), .val (.int p2), .val (.int n1), .val (.int c0), .val (.int c1), .val (.int f1), .val (.int f2), .val (.int d0), .val (.int d1), .val (.int n2), .val (.ref s_94), .val (.ref s_99), .val (.ref b103), .val (.int (((p2.toUInt32 >>> ((8 : Int32) &&& 31).toUInt32).toInt32) &&& (7 : Int32))), .val (.ref b116), .val (.int 1), .val (.int 0)] [])) _
            exact j2 (1 : Int32) (0 : Int32) (by simp only [own_bi, own_names hN1 hn2, eq_true hc234_123, eq_false hc239_124, eq_true hc246_129, eq_true hc251_130, eq_false hc277_131, and_true, true_and, and_false, false_and, or_true, true_or, or_false, false_or, ↓reduceIte])
          ·refine own_go (fun _ k => XS.icmpNo X118.here hx rfl (hb hby at_251) rfl (flt hc251_130).1 (XS.iload X118.here hx rfl (hb hby at_254) rfl (XS.iload X118.here hx rfl (hb hby at_256) rfl k))) ?_
           show own_Fin p e below (T118.setTop (mkF m 258 #[.val (.int p0), .val (.int p1), .val (.int p2), .val (.int n1), .val (.int c0), .val (.int c1), .val (.int f1), .val (.int f2), .val (.int d0), .val (.int d1), .val (.int n2), .val (.ref s_94), .val (.ref s_99), .val (.ref b103), .val (.int (((p2.toUInt32 >>> ((8 : Int32) &&& 31).toUInt32).toInt32) &&& (7 : Int32))), .val (.ref b116), .unset, .unset] [(.int d1), (.int c1)])) _
           by_cases hc258_132 : c1 = d1
           ·refine own_go (fun _ k => XS.icmpNo X118.here hx rfl (hb hby at_258) rfl (teq hc258_132).2 (XS.iconst X118.here hx rfl (hb hby at_261) (XS.goto X118.here hx rfl (pc0 := 262) (pc' := 266) rfl (hb hby at_262) (by decide) (by decide) (XS.istore X118.here hx rfl (hb hby at_266) rfl (l' := #[.val (.int p0), .val (.int p1), .val (.int p2), .val (.int n1), .val (.int c0), .val (.int c1), .val (.int f1), .val (.int f2), .val (.int d0), .val (.int d1), .val (.int n2), .val (.ref s_94), .val (.ref s_99), .val (.ref b103), .val (.int (((p2.toUInt32 >>> ((8 : Int32) &&& 31).toUInt32).toInt32) &&& (7 : Int32))), .val (.ref b116), .val (.int 1), .unset]) rfl (XS.iload X118.here hx rfl (hb hby at_268) rfl (XS.ifNo X118.here hx rfl (hb hby at_270) rfl ((if0 _ _).trans (feq (by decide : ¬ ((1 : Int32) = (0 : Int32)))).1) (XS.iload X118.here hx rfl (hb hby at_273) rfl (XS.iload X118.here hx rfl (hb hby at_275) rfl k)))))))) ?_
            show own_Fin p e below (T118.setTop (mkF m 277 #[.val (.int p0), .val (.int p1), .val (.int p2), .val (.int n1), .val (.int c0), .val (.int c1), .val (.int f1), .val (.int f2), .val (.int d0), .val (.int d1), .val (.int n2), .val (.ref s_94), .val (.ref s_99), .val (.ref b103), .val (.int (((p2.toUInt32 >>> ((8 : Int32) &&& 31).toUInt32).toInt32) &&& (7 : Int32))), .val (.ref b116), .val (.int 1), .unset] [(.int f2), (.int f1)])) _
            by_cases hc277_133 : f1 = f2
            ·refine own_go (fun _ k => XS.icmpNo X118.here hx rfl (hb hby at_277) rfl (teq hc277_133).2 (XS.iconst X118.here hx rfl (hb hby at_280) (XS.goto X118.here hx rfl (pc0 := 281) (pc' := 285) rfl (hb hby at_281) (by decide) (by decide) (XS.istore X118.here hx rfl (hb hby at_285) rfl (l' := #[.val (.int p0), .val (.int p1), .val (.int p2), .val (.int n1), .val (.int c0), .val (.int c1), .val (.int f1), .val (.int f2), .val (.int d0), .val (.int d1), .val (.int n2), .val (.ref s_94), .val (.ref s_99), .val (.ref b103), .val (.int (((p2.toUInt32 >>> ((8 : Int32) &&& 31).toUInt32).toInt32) &&& (7 : Int32))), .val (.ref b116), .val (.int 1), .val (.int 1)]) rfl k)))) ?_
             show own_Fin p e below (T118.setTop (mkF m 287 #[.val (.int p0), .val (.int p1), .val (.int p2), .val (.int n1), .val (.int c0), .val (.int c1), .val (.int f1), .val (.int f2), .val (.int d0), .val (.int d1), .val (.int n2), .val (.ref s_94), .val (.ref s_99), .val (.ref b103), .val (.int (((p2.toUInt32 >>> ((8 : Int32) &&& 31).toUInt32).toInt32) &&& (7 : Int32))), .val (.ref b116), .val (.int 1), .val (.int 1)] [])) _
             exact j2 (1 : Int32) (1 : Int32) (by simp only [own_bi, own_names hN1 hn2, eq_true hc234_123, eq_false hc239_124, eq_true hc246_129, eq_false hc251_130, eq_true hc258_132, eq_true hc277_133, and_true, true_and, and_false, false_and, or_true, true_or, or_false, false_or, ↓reduceIte])
            ·refine own_go (fun _ k => XS.icmpYes X118.here hx rfl (pc0 := 277) (pc' := 284) rfl (hb hby at_277) rfl (feq hc277_133).2 (by decide) (by decide) (XS.iconst X118.here hx rfl (hb hby at_284) (XS.istore X118.here hx rfl (hb hby at_285) rfl (l' := #[.val (.int p0), .val (.int p1), .val (.int p2), .val (.int n1), .val (.int c0), .val (.int c1), .val (.int f1), .val (.int f2), .val (.int d0), .val (.int d1), .val (.int n2), .val (.ref s_94), .val (.ref s_99), .val (.ref b103), .val (.int (((p2.toUInt32 >>> ((8 : Int32) &&& 31).toUInt32).toInt32) &&& (7 : Int32))), .val (.ref b116), .val (.int 1), .val (.int 0)]) rfl k))) ?_
             show own_Fin p e below (T118.setTop (mkF m 287 #[.val (.int p0), .val (.int p1), .val (.int p2), .val (.int n1), .val (.int c0), .val (.int c1), .val (.int f1), .val (.int f2), .val (.int d0), .val (.int d1), .val (.int n2), .val (.ref s_94), .val (.ref s_99), .val (.ref b103), .val (.int (((p2.toUInt32 >>> ((8 : Int32) &&& 31).toUInt32).toInt32) &&& (7 : Int32))), .val (.ref b116), .val (.int 1), .val (.int 0)] [])) _
             exact j2 (1 : Int32) (0 : Int32) (by simp only [own_bi, own_names hN1 hn2, eq_true hc234_123, eq_false hc239_124, eq_true hc246_129, eq_false hc251_130, eq_true hc258_132, eq_false hc277_133, and_true, true_and, and_false, false_and, or_true, true_or, or_false, false_or, ↓reduceIte])
           ·refine own_go (fun _ k => XS.icmpYes X118.here hx rfl (pc0 := 258) (pc' := 265) rfl (hb hby at_258) rfl (feq hc258_132).2 (by decide) (by decide) (XS.iconst X118.here hx rfl (hb hby at_265) (XS.istore X118.here hx rfl (hb hby at_266) rfl (l' := #[.val (.int p0), .val (.int p1), .val (.int p2), .val (.int n1), .val (.int c0), .val (.int c1), .val (.int f1), .val (.int f2), .val (.int d0), .val (.int d1), .val (.int n2), .val (.ref s_94), .val (.ref s_99), .val (.ref b103), .val (.int (((p2.toUInt32 >>> ((8 : Int32) &&& 31).toUInt32).toInt32) &&& (7 : Int32))), .val (.ref b116), .val (.int 0), .unset]) rfl (XS.iload X118.here hx rfl (hb hby at_268) rfl (XS.ifYes X118.here hx rfl (pc0 := 270) (pc' := 284) rfl (hb hby at_270) rfl ((if0 _ _).trans (teq (by decide : (0 : Int32) = (0 : Int32))).1) (by decide) (by decide) (XS.iconst X118.here hx rfl (hb hby at_284) (XS.istore X118.here hx rfl (hb hby at_285) rfl (l' := #[.val (.int p0), .val (.int p1), .val (.int p2), .val (.int n1), .val (.int c0), .val (.int c1), .val (.int f1), .val (.int f2), .val (.int d0), .val (.int d1), .val (.int n2), .val (.ref s_94), .val (.ref s_99), .val (.ref b103), .val (.int (((p2.toUInt32 >>> ((8 : Int32) &&& 31).toUInt32).toInt32) &&& (7 : Int32))), .val (.ref b116), .val (.int 0), .val (.int 0)]) rfl k))))))) ?_
            show own_Fin p e below (T118.setTop (mkF m 287 #[.val (.int p0), .val (.int p1), .val (.int p2), .val (.int n1), .val (.int c0), .val (.int c1), .val (.int f1), .val (.int f2), .val (.int d0), .val (.int d1), .val (.int n2), .val (.ref s_94), .val (.ref s_99), .val (.ref b103), .val (.int (((p2.toUInt32 >>> ((8 : Int32) &&& 31).toUInt32).toInt32) &&& (7 : Int32))), .val (.ref b116), .val (.int 0), .val (.int 0)] [])) _
            exact j2 (0 : Int32) (0 : Int32) (by simp only [own_bi, own_names hN1 hn2, eq_true hc234_123, eq_false hc239_124, eq_true hc246_129, eq_false hc251_130, eq_false hc258_132, and_true, true_and, and_false, false_and, or_true, true_or, or_false, false_or, ↓reduceIte])
         ·refine own_go (fun _ k => XS.icmpYes X118.here hx rfl (pc0 := 246) (pc' := 265) rfl (hb hby at_246) rfl (feq hc246_129).2 (by decide) (by decide) (XS.iconst X118.here hx rfl (hb hby at_265) (XS.istore X118.here hx rfl (hb hby at_266) rfl (l' := #[.val (.int p0), .val (.int p1), .val (.int p2), .val (.int n1), .val (.int c0), .val (.int c1), .val (.int f1), .val (.int f2), .val (.int d0), .val (.int d1), .val (.int n2), .val (.ref s_94), .val (.ref s_99), .val (.ref b103), .val (.int (((p2.toUInt32 >>> ((8 : Int32) &&& 31).toUInt32).toInt32) &&& (7 : Int32))), .val (.ref b116), .val (.int 0), .unset]) rfl (XS.iload X118.here hx rfl (hb hby at_268) rfl (XS.ifYes X118.here hx rfl (pc0 := 270) (pc' := 284) rfl (hb hby at_270) rfl ((if0 _ _).trans (teq (by decide : (0 : Int32) = (0 : Int32))).1) (by decide) (by decide) (XS.iconst X118.here hx rfl (hb hby at_284) (XS.istore X118.here hx rfl (hb hby at_285) rfl (l' := #[.val (.int p0), .val (.int p1), .val (.int p2), .val (.int n1), .val (.int c0), .val (.int c1), .val (.int f1), .val (.int f2), .val (.int d0), .val (.int d1), .val (.int n2), .val (.ref s_94), .val (.ref s_99), .val (.ref b103), .val (.int (((p2.toUInt32 >>> ((8 : Int32) &&& 31).toUInt32).toInt32) &&& (7 : Int32))), .val (.ref b116), .val (.int 0), .val (.int 0)]) rfl k))))))) ?_
          show own_Fin p e below (T118.setTop (mkF m 287 #[.val (.int p0), .val (.int p1), .val (.int p2), .val (.int n1), .val (.int c0), .val (.int c1), .val (.int f1), .val (.int f2), .val (.int d0), .val (.int d1), .val (.int n2), .val (.ref s_94), .val (.ref s_99), .val (.ref b103), .val (.int (((p2.toUInt32 >>> ((8 : Int32) &&& 31).toUInt32).toInt32) &&& (7 : Int32))), .val (.ref b116), .val (.int 0), .val (.int 0)] [])) _
          exact j2 (0 : Int32) (0 : Int32) (by simp only [own_bi, own_names hN1 hn2, eq_true hc234_123, eq_false hc239_124, eq_false hc246_129, and_true, true_and, and_false, false_and, or_true, true_or, or_false, false_or, ↓reduceIte])
       ·refine own_go (fun _ k => XS.icmpYes X118.here hx rfl (pc0 := 234) (pc' := 265) rfl (hb hby at_234) rfl (feq hc234_123).2 (by decide) (by decide) (XS.iconst X118.here hx rfl (hb hby at_265) (XS.istore X118.here hx rfl (hb hby at_266) rfl (l' := #[.val (.int p0), .val (.int p1), .val (.int p2), .val (.int n1), .val (.int c0), .val (.int c1), .val (.int f1), .val (.int f2), .val (.int d0), .val (.int d1), .val (.int n2), .val (.ref s_94), .val (.ref s_99), .val (.ref b103), .val (.int (((p2.toUInt32 >>> ((8 : Int32) &&& 31).toUInt32).toInt32) &&& (7 : Int32))), .val (.ref b116), .val (.int 0), .unset]) rfl (XS.iload X118.here hx rfl (hb hby at_268) rfl (XS.ifYes X118.here hx rfl (pc0 := 270) (pc' := 284) rfl (hb hby at_270) rfl ((if0 _ _).trans (teq (by decide : (0 : Int32) = (0 : Int32))).1) (by decide) (by decide) (XS.iconst X118.here hx rfl (hb hby at_284) (XS.istore X118.here hx rfl (hb hby at_285) rfl (l' := #[.val (.int p0), .val (.int p1), .val (.int p2), .val (.int n1), .val (.int c0), .val (.int c1), .val (.int f1), .val (.int f2), .val (.int d0), .val (.int d1), .val (.int n2), .val (.ref s_94), .val (.ref s_99), .val (.ref b103), .val (.int (((p2.toUInt32 >>> ((8 : Int32) &&& 31).toUInt32).toInt32) &&& (7 : Int32))), .val (.ref b116), .val (.int 0), .val (.int 0)]) rfl k))))))) ?_
        show own_Fin p e below (T118.setTop (mkF m 287 #[.val (.int p0), .val (.int p1), .val (.int p2), .val (.int n1), .val (.int c0), .val (.int c1), .val (.int f1), .val (.int f2), .val (.int d0), .val (.int d1), .val (.int n2), .val (.ref s_94), .val (.ref s_99), .val (.ref b103), .val (.int (((p2.toUInt32 >>> ((8 : Int32) &&& 31).toUInt32).toInt32) &&& (7 : Int32))), .val (.ref b116), .val (.int 0), .val (.int 0)] [])) _
        exact j2 (0 : Int32) (0 : Int32) (by simp only [own_bi, own_names hN1 hn2, eq_false hc234_123, and_true, true_and, and_false, false_and, or_true, true_or, or_false, false_or, ↓reduceIte])
   have j97 : ∀ (f1 : Int32) (f2 : Int32) (d0 : Int32) (d1 : Int32), f1 = 0 ∨ f1 = 1 → f2 = 0 ∨ f2 = 1 → ¬ d0 < 0 ∧ ¬ (255 : Int32) < d0 → ¬ d1 < 0 ∧ ¬ (255 : Int32) < d1 → own_Fin p e below (s₁.setTop (mkF m 97 #[.val (.int p0), .val (.int p1), .val (.int p2), .val (.int n1), .val (.int c0), .val (.int c1), .val (.int f1), .val (.int f2), .val (.int d0), .val (.int d1), .unset, .unset, .unset, .unset, .unset, .unset, .unset, .unset] [])) (fun o' t' => ∃ v' L', o' = .returned v' ∧ Qrm0 Z p0 p1 p2 z h0 n0 v' t'.heap L' ∧ CHr Z own_EL s.vm s.heap t'.vm t'.heap ∧ ReturnedEndW s o' t' L' 14 28) := by
    intro f1 f2 d0 d1 hf1 hf2 hd0 hd1
    show own_Fin p e below (s₁.setTop (mkF m 97 #[.val (.int p0), .val (.int p1), .val (.int p2), .val (.int n1), .val (.int c0), .val (.int c1), .val (.int f1), .val (.int f2), .val (.int d0), .val (.int d1), .unset, .unset, .unset, .unset, .unset, .unset, .unset, .unset] [])) _
    refine own_go (fun _ k => XS.iloadN X0.here hx rfl (hb hby at_97) rfl (XS.bipush X0.here hx rfl (hb hby at_98) (XS.iand X0.here hx rfl (hb hby at_100) rfl k))) ?_
    show own_Fin p e below (s₁.setTop (mkF m 101 #[.val (.int p0), .val (.int p1), .val (.int p2), .val (.int n1), .val (.int c0), .val (.int c1), .val (.int f1), .val (.int f2), .val (.int d0), .val (.int d1), .unset, .unset, .unset, .unset, .unset, .unset, .unset, .unset] [(.int (p2 &&& (64 : Int32)))])) _
    by_cases hc101_134 : (p2 &&& (64 : Int32)) = (0 : Int32)
    ·refine own_go (fun _ k => XS.ifYes X0.here hx rfl (pc0 := 101) (pc' := 108) rfl (hb hby at_101) rfl ((if0 _ _).trans (teq hc101_134).1) (by decide) (by decide) (XS.iloadN X0.here hx rfl (hb hby at_108) rfl (XS.bipush X0.here hx rfl (hb hby at_109) (XS.iushr X0.here hx rfl (hb hby at_111) rfl (XS.iconst X0.here hx rfl (hb hby at_112) (XS.iand X0.here hx rfl (hb hby at_113) rfl (XS.iconst X0.here hx rfl (hb hby at_114) (iremM X0 hx rfl (hb hby at_115) rfl (by decide) (XS.istore X0.here hx rfl (hb hby at_116) rfl (l' := #[.val (.int p0), .val (.int p1), .val (.int p2), .val (.int n1), .val (.int c0), .val (.int c1), .val (.int f1), .val (.int f2), .val (.int d0), .val (.int d1), .val (.int ((((p1.toUInt32 >>> ((16 : Int32) &&& 31).toUInt32).toInt32) &&& (3 : Int32)) % (3 : Int32))), .unset, .unset, .unset, .unset, .unset, .unset, .unset]) rfl k))))))))) ?_
     show own_Fin p e below (s₁.setTop (mkF m 118 #[.val (.int p0), .val (.int p1), .val (.int p2), .val (.int n1), .val (.int c0), .val (.int c1), .val (.int f1), .val (.int f2), .val (.int d0), .val (.int d1), .val (.int ((((p1.toUInt32 >>> ((16 : Int32) &&& 31).toUInt32).toInt32) &&& (3 : Int32)) % (3 : Int32))), .unset, .unset, .unset, .unset, .unset, .unset, .unset] [])) _
     exact j118 f1 f2 d0 d1 ((((p1.toUInt32 >>> ((16 : Int32) &&& 31).toUInt32).toInt32) &&& (3 : Int32)) % (3 : Int32)) hf1 hf2 hd0 hd1 (own_n3 _)
    ·refine own_go (fun _ k => XS.ifNo X0.here hx rfl (hb hby at_101) rfl ((if0 _ _).trans (feq hc101_134).1) (XS.iloadN X0.here hx rfl (hb hby at_104) rfl (XS.goto X0.here hx rfl (pc0 := 105) (pc' := 116) rfl (hb hby at_105) (by decide) (by decide) (XS.istore X0.here hx rfl (hb hby at_116) rfl (l' := #[.val (.int p0), .val (.int p1), .val (.int p2), .val (.int n1), .val (.int c0), .val (.int c1), .val (.int f1), .val (.int f2), .val (.int d0), .val (.int d1), .val (.int n1), .unset, .unset, .unset, .unset, .unset, .unset, .unset]) rfl k)))) ?_
     show own_Fin p e below (s₁.setTop (mkF m 118 #[.val (.int p0), .val (.int p1), .val (.int p2), .val (.int n1), .val (.int c0), .val (.int c1), .val (.int f1), .val (.int f2), .val (.int d0), .val (.int d1), .val (.int n1), .unset, .unset, .unset, .unset, .unset, .unset, .unset] [])) _
     exact j118 f1 f2 d0 d1 n1 hf1 hf2 hd0 hd1 hN1
   have j74 : ∀ (f1 : Int32) (f2 : Int32) (d0 : Int32), f1 = 0 ∨ f1 = 1 → f2 = 0 ∨ f2 = 1 → ¬ d0 < 0 ∧ ¬ (255 : Int32) < d0 → own_Fin p e below (s₁.setTop (mkF m 74 #[.val (.int p0), .val (.int p1), .val (.int p2), .val (.int n1), .val (.int c0), .val (.int c1), .val (.int f1), .val (.int f2), .val (.int d0), .unset, .unset, .unset, .unset, .unset, .unset, .unset, .unset, .unset] [])) (fun o' t' => ∃ v' L', o' = .returned v' ∧ Qrm0 Z p0 p1 p2 z h0 n0 v' t'.heap L' ∧ CHr Z own_EL s.vm s.heap t'.vm t'.heap ∧ ReturnedEndW s o' t' L' 14 28) := by
    intro f1 f2 d0 hf1 hf2 hd0
    show own_Fin p e below (s₁.setTop (mkF m 74 #[.val (.int p0), .val (.int p1), .val (.int p2), .val (.int n1), .val (.int c0), .val (.int c1), .val (.int f1), .val (.int f2), .val (.int d0), .unset, .unset, .unset, .unset, .unset, .unset, .unset, .unset, .unset] [])) _
    refine own_go (fun _ k => XS.iloadN X0.here hx rfl (hb hby at_74) rfl (XS.bipush X0.here hx rfl (hb hby at_75) (XS.iand X0.here hx rfl (hb hby at_77) rfl k))) ?_
    show own_Fin p e below (s₁.setTop (mkF m 78 #[.val (.int p0), .val (.int p1), .val (.int p2), .val (.int n1), .val (.int c0), .val (.int c1), .val (.int f1), .val (.int f2), .val (.int d0), .unset, .unset, .unset, .unset, .unset, .unset, .unset, .unset, .unset] [(.int (p2 &&& (32 : Int32)))])) _
    by_cases hc78_135 : (p2 &&& (32 : Int32)) = (0 : Int32)
    ·refine own_go (fun _ k => XS.ifYes X0.here hx rfl (pc0 := 78) (pc' := 86) rfl (hb hby at_78) rfl ((if0 _ _).trans (teq hc78_135).1) (by decide) (by decide) (XS.iloadN X0.here hx rfl (hb hby at_86) rfl (XS.bipush X0.here hx rfl (hb hby at_87) (XS.iushr X0.here hx rfl (hb hby at_89) rfl (XS.sipush X0.here hx rfl (hb hby at_90) (XS.iand X0.here hx rfl (hb hby at_93) rfl (XS.i2c X0.here hx rfl (hb hby at_94) rfl (XS.istore X0.here hx rfl (hb hby at_95) rfl (l' := #[.val (.int p0), .val (.int p1), .val (.int p2), .val (.int n1), .val (.int c0), .val (.int c1), .val (.int f1), .val (.int f2), .val (.int d0), .val (.int ((((p1.toUInt32 >>> ((8 : Int32) &&& 31).toUInt32).toInt32) &&& (255 : Int32)).toUInt32.toUInt16.toUInt32.toInt32)), .unset, .unset, .unset, .unset, .unset, .unset, .unset, .unset]) rfl k)))))))) ?_
     show own_Fin p e below (s₁.setTop (mkF m 97 #[.val (.int p0), .val (.int p1), .val (.int p2), .val (.int n1), .val (.int c0), .val (.int c1), .val (.int f1), .val (.int f2), .val (.int d0), .val (.int ((((p1.toUInt32 >>> ((8 : Int32) &&& 31).toUInt32).toInt32) &&& (255 : Int32)).toUInt32.toUInt16.toUInt32.toInt32)), .unset, .unset, .unset, .unset, .unset, .unset, .unset, .unset] [])) _
     exact j97 f1 f2 d0 ((((p1.toUInt32 >>> ((8 : Int32) &&& 31).toUInt32).toInt32) &&& (255 : Int32)).toUInt32.toUInt16.toUInt32.toInt32) hf1 hf2 hd0 (own_255 _)
    ·refine own_go (fun _ k => XS.ifNo X0.here hx rfl (hb hby at_78) rfl ((if0 _ _).trans (feq hc78_135).1) (XS.iload X0.here hx rfl (hb hby at_81) rfl (XS.goto X0.here hx rfl (pc0 := 83) (pc' := 95) rfl (hb hby at_83) (by decide) (by decide) (XS.istore X0.here hx rfl (hb hby at_95) rfl (l' := #[.val (.int p0), .val (.int p1), .val (.int p2), .val (.int n1), .val (.int c0), .val (.int c1), .val (.int f1), .val (.int f2), .val (.int d0), .val (.int c1), .unset, .unset, .unset, .unset, .unset, .unset, .unset, .unset]) rfl k)))) ?_
     show own_Fin p e below (s₁.setTop (mkF m 97 #[.val (.int p0), .val (.int p1), .val (.int p2), .val (.int n1), .val (.int c0), .val (.int c1), .val (.int f1), .val (.int f2), .val (.int d0), .val (.int c1), .unset, .unset, .unset, .unset, .unset, .unset, .unset, .unset] [])) _
     exact j97 f1 f2 d0 c1 hf1 hf2 hd0 hc1
   have j54 : ∀ (f1 : Int32) (f2 : Int32), f1 = 0 ∨ f1 = 1 → f2 = 0 ∨ f2 = 1 → own_Fin p e below (s₁.setTop (mkF m 54 #[.val (.int p0), .val (.int p1), .val (.int p2), .val (.int n1), .val (.int c0), .val (.int c1), .val (.int f1), .val (.int f2), .unset, .unset, .unset, .unset, .unset, .unset, .unset, .unset, .unset, .unset] [])) (fun o' t' => ∃ v' L', o' = .returned v' ∧ Qrm0 Z p0 p1 p2 z h0 n0 v' t'.heap L' ∧ CHr Z own_EL s.vm s.heap t'.vm t'.heap ∧ ReturnedEndW s o' t' L' 14 28) := by
    intro f1 f2 hf1 hf2
    show own_Fin p e below (s₁.setTop (mkF m 54 #[.val (.int p0), .val (.int p1), .val (.int p2), .val (.int n1), .val (.int c0), .val (.int c1), .val (.int f1), .val (.int f2), .unset, .unset, .unset, .unset, .unset, .unset, .unset, .unset, .unset, .unset] [])) _
    refine own_go (fun _ k => XS.iloadN X0.here hx rfl (hb hby at_54) rfl (XS.bipush X0.here hx rfl (hb hby at_55) (XS.iand X0.here hx rfl (hb hby at_57) rfl k))) ?_
    show own_Fin p e below (s₁.setTop (mkF m 58 #[.val (.int p0), .val (.int p1), .val (.int p2), .val (.int n1), .val (.int c0), .val (.int c1), .val (.int f1), .val (.int f2), .unset, .unset, .unset, .unset, .unset, .unset, .unset, .unset, .unset, .unset] [(.int (p2 &&& (16 : Int32)))])) _
    by_cases hc58_136 : (p2 &&& (16 : Int32)) = (0 : Int32)
    ·refine own_go (fun _ k => XS.ifYes X0.here hx rfl (pc0 := 58) (pc' := 66) rfl (hb hby at_58) rfl ((if0 _ _).trans (teq hc58_136).1) (by decide) (by decide) (XS.iloadN X0.here hx rfl (hb hby at_66) rfl (XS.sipush X0.here hx rfl (hb hby at_67) (XS.iand X0.here hx rfl (hb hby at_70) rfl (XS.i2c X0.here hx rfl (hb hby at_71) rfl (XS.istore X0.here hx rfl (hb hby at_72) rfl (l' := #[.val (.int p0), .val (.int p1), .val (.int p2), .val (.int n1), .val (.int c0), .val (.int c1), .val (.int f1), .val (.int f2), .val (.int ((p1 &&& (255 : Int32)).toUInt32.toUInt16.toUInt32.toInt32)), .unset, .unset, .unset, .unset, .unset, .unset, .unset, .unset, .unset]) rfl k)))))) ?_
     show own_Fin p e below (s₁.setTop (mkF m 74 #[.val (.int p0), .val (.int p1), .val (.int p2), .val (.int n1), .val (.int c0), .val (.int c1), .val (.int f1), .val (.int f2), .val (.int ((p1 &&& (255 : Int32)).toUInt32.toUInt16.toUInt32.toInt32)), .unset, .unset, .unset, .unset, .unset, .unset, .unset, .unset, .unset] [])) _
     exact j74 f1 f2 ((p1 &&& (255 : Int32)).toUInt32.toUInt16.toUInt32.toInt32) hf1 hf2 (own_255 _)
    ·refine own_go (fun _ k => XS.ifNo X0.here hx rfl (hb hby at_58) rfl ((if0 _ _).trans (feq hc58_136).1) (XS.iload X0.here hx rfl (hb hby at_61) rfl (XS.goto X0.here hx rfl (pc0 := 63) (pc' := 72) rfl (hb hby at_63) (by decide) (by decide) (XS.istore X0.here hx rfl (hb hby at_72) rfl (l' := #[.val (.int p0), .val (.int p1), .val (.int p2), .val (.int n1), .val (.int c0), .val (.int c1), .val (.int f1), .val (.int f2), .val (.int c0), .unset, .unset, .unset, .unset, .unset, .unset, .unset, .unset, .unset]) rfl k)))) ?_
     show own_Fin p e below (s₁.setTop (mkF m 74 #[.val (.int p0), .val (.int p1), .val (.int p2), .val (.int n1), .val (.int c0), .val (.int c1), .val (.int f1), .val (.int f2), .val (.int c0), .unset, .unset, .unset, .unset, .unset, .unset, .unset, .unset, .unset] [])) _
     exact j74 f1 f2 c0 hf1 hf2 hc0
   have j41 : ∀ (f1 : Int32), f1 = 0 ∨ f1 = 1 → own_Fin p e below (s₁.setTop (mkF m 41 #[.val (.int p0), .val (.int p1), .val (.int p2), .val (.int n1), .val (.int c0), .val (.int c1), .val (.int f1), .unset, .unset, .unset, .unset, .unset, .unset, .unset, .unset, .unset, .unset, .unset] [])) (fun o' t' => ∃ v' L', o' = .returned v' ∧ Qrm0 Z p0 p1 p2 z h0 n0 v' t'.heap L' ∧ CHr Z own_EL s.vm s.heap t'.vm t'.heap ∧ ReturnedEndW s o' t' L' 14 28) := by
    intro f1 hf1
    show own_Fin p e below (s₁.setTop (mkF m 41 #[.val (.int p0), .val (.int p1), .val (.int p2), .val (.int n1), .val (.int c0), .val (.int c1), .val (.int f1), .unset, .unset, .unset, .unset, .unset, .unset, .unset, .unset, .unset, .unset, .unset] [])) _
    refine own_go (fun _ k => XS.iloadN X0.here hx rfl (hb hby at_41) rfl (XS.iconst X0.here hx rfl (hb hby at_42) (XS.iand X0.here hx rfl (hb hby at_43) rfl k))) ?_
    show own_Fin p e below (s₁.setTop (mkF m 44 #[.val (.int p0), .val (.int p1), .val (.int p2), .val (.int n1), .val (.int c0), .val (.int c1), .val (.int f1), .unset, .unset, .unset, .unset, .unset, .unset, .unset, .unset, .unset, .unset, .unset] [(.int (p2 &&& (2 : Int32)))])) _
    by_cases hc44_137 : (p2 &&& (2 : Int32)) = (0 : Int32)
    ·refine own_go (fun _ k => XS.ifYes X0.here hx rfl (pc0 := 44) (pc' := 51) rfl (hb hby at_44) rfl ((if0 _ _).trans (teq hc44_137).1) (by decide) (by decide) (XS.iconst X0.here hx rfl (hb hby at_51) (XS.istore X0.here hx rfl (hb hby at_52) rfl (l' := #[.val (.int p0), .val (.int p1), .val (.int p2), .val (.int n1), .val (.int c0), .val (.int c1), .val (.int f1), .val (.int 0), .unset, .unset, .unset, .unset, .unset, .unset, .unset, .unset, .unset, .unset]) rfl k))) ?_
     show own_Fin p e below (s₁.setTop (mkF m 54 #[.val (.int p0), .val (.int p1), .val (.int p2), .val (.int n1), .val (.int c0), .val (.int c1), .val (.int f1), .val (.int 0), .unset, .unset, .unset, .unset, .unset, .unset, .unset, .unset, .unset, .unset] [])) _
     exact j54 f1 (0 : Int32) hf1 (Or.inl rfl)
    ·refine own_go (fun _ k => XS.ifNo X0.here hx rfl (hb hby at_44) rfl ((if0 _ _).trans (feq hc44_137).1) (XS.iconst X0.here hx rfl (hb hby at_47) (XS.goto X0.here hx rfl (pc0 := 48) (pc' := 52) rfl (hb hby at_48) (by decide) (by decide) (XS.istore X0.here hx rfl (hb hby at_52) rfl (l' := #[.val (.int p0), .val (.int p1), .val (.int p2), .val (.int n1), .val (.int c0), .val (.int c1), .val (.int f1), .val (.int 1), .unset, .unset, .unset, .unset, .unset, .unset, .unset, .unset, .unset, .unset]) rfl k)))) ?_
     show own_Fin p e below (s₁.setTop (mkF m 54 #[.val (.int p0), .val (.int p1), .val (.int p2), .val (.int n1), .val (.int c0), .val (.int c1), .val (.int f1), .val (.int 1), .unset, .unset, .unset, .unset, .unset, .unset, .unset, .unset, .unset, .unset] [])) _
     exact j54 f1 (1 : Int32) hf1 (Or.inr rfl)
   show own_Fin p e below (s₁.setTop (mkF m 29 #[.val (.int p0), .val (.int p1), .val (.int p2), .val (.int n1), .val (.int c0), .val (.int c1), .unset, .unset, .unset, .unset, .unset, .unset, .unset, .unset, .unset, .unset, .unset, .unset] [(.int p2)])) _
   refine own_go (fun _ k => XS.iconst X0.here hx rfl (hb hby at_29) (XS.iand X0.here hx rfl (hb hby at_30) rfl k)) ?_
   show own_Fin p e below (s₁.setTop (mkF m 31 #[.val (.int p0), .val (.int p1), .val (.int p2), .val (.int n1), .val (.int c0), .val (.int c1), .unset, .unset, .unset, .unset, .unset, .unset, .unset, .unset, .unset, .unset, .unset, .unset] [(.int (p2 &&& (1 : Int32)))])) _
   by_cases hc31_138 : (p2 &&& (1 : Int32)) = (0 : Int32)
   ·refine own_go (fun _ k => XS.ifYes X0.here hx rfl (pc0 := 31) (pc' := 38) rfl (hb hby at_31) rfl ((if0 _ _).trans (teq hc31_138).1) (by decide) (by decide) (XS.iconst X0.here hx rfl (hb hby at_38) (XS.istore X0.here hx rfl (hb hby at_39) rfl (l' := #[.val (.int p0), .val (.int p1), .val (.int p2), .val (.int n1), .val (.int c0), .val (.int c1), .val (.int 0), .unset, .unset, .unset, .unset, .unset, .unset, .unset, .unset, .unset, .unset, .unset]) rfl k))) ?_
    show own_Fin p e below (s₁.setTop (mkF m 41 #[.val (.int p0), .val (.int p1), .val (.int p2), .val (.int n1), .val (.int c0), .val (.int c1), .val (.int 0), .unset, .unset, .unset, .unset, .unset, .unset, .unset, .unset, .unset, .unset, .unset] [])) _
    exact j41 (0 : Int32) (Or.inl rfl)
   ·refine own_go (fun _ k => XS.ifNo X0.here hx rfl (hb hby at_31) rfl ((if0 _ _).trans (feq hc31_138).1) (XS.iconst X0.here hx rfl (hb hby at_34) (XS.goto X0.here hx rfl (pc0 := 35) (pc' := 39) rfl (hb hby at_35) (by decide) (by decide) (XS.istore X0.here hx rfl (hb hby at_39) rfl (l' := #[.val (.int p0), .val (.int p1), .val (.int p2), .val (.int n1), .val (.int c0), .val (.int c1), .val (.int 1), .unset, .unset, .unset, .unset, .unset, .unset, .unset, .unset, .unset, .unset, .unset]) rfl k)))) ?_
    show own_Fin p e below (s₁.setTop (mkF m 41 #[.val (.int p0), .val (.int p1), .val (.int p2), .val (.int n1), .val (.int c0), .val (.int c1), .val (.int 1), .unset, .unset, .unset, .unset, .unset, .unset, .unset, .unset, .unset, .unset, .unset] [])) _
    exact j41 (1 : Int32) (Or.inr rfl)
  exact j28 ((((p0.toUInt32 >>> ((16 : Int32) &&& 31).toUInt32).toInt32) &&& (3 : Int32)) % (3 : Int32)) ((p0 &&& (255 : Int32)).toUInt32.toUInt16.toUInt32.toInt32) ((((p0.toUInt32 >>> ((8 : Int32) &&& 31).toUInt32).toInt32) &&& (255 : Int32)).toUInt32.toUInt16.toUInt32.toInt32) (own_n3 _) (own_255 _) (own_255 _)
set_option maxRecDepth 65536 in
set_option maxHeartbeats 40000000 in
theorem comes_1 {Post : Tables → Env → Array Value → State → Outcome → State → Prop} (hpost : ∀ tb e args s v u, (limb_1_1.after args s (.returned v) u = true ∧ limb_1_2.after args s (.returned v) u = true ∧ True) → ReturnedEndW s (.returned v) u (Jvm.fieldLocs frame_1_writes args s ++ Jvm.arrayLocs frame_1_arrays args s ++ Jvm.staticLocs frame_1_statics s) 32 1152 → Post tb e args s (.returned v) u) :
    ArmFor flags0 classFile x code maxLocals ret World_1 tables_1 room_1 Calls_1 rest_1 Pre_1 Post := by
  intro l hfl _ _ p e ha hc hk s m args below hf hA hF happ hP
  obtain ⟨hcalls, hrest, hpre⟩ := hP
  obtain ⟨-, -, -, hnamed, -, -, -, hat⟩ := (Spec.applies_iff hf).mp happ
  obtain ⟨hg, hn⟩ := and_e (Cond.before_iff.mp (show (Jvm.Cond.and given_1 narrow_1).before args s = true from hpre))
  obtain ⟨g1, g2⟩ := and_e hg
  obtain ⟨g3, g4⟩ := and_e g2
  obtain ⟨g5, g6⟩ := and_e g4
  obtain ⟨w0, w1, w2, rfl⟩ : ∃ w0 w1 w2 : Value, args = #[w0, w1, w2] := by
    have hs : args.size = 3 := by simpa [Cond.value, given_1] using g1
    obtain ⟨L⟩ := args
    match L, hs with
    | [w0, w1, w2], _ => exact ⟨w0, w1, w2, rfl⟩
  have hw := fun d (hd : d ∈ tables_1) => atoms_spec (ws := Jvm.Cond.code x code maxLocals ret :: tables_1) hat d (List.mem_cons_of_mem _ hd)
  have hfit : Fit s := fun {y c} hc i hi => by
    obtain ⟨ha, rfl⟩ := Array.getElem?_eq_some_iff.mp hc
    have q := List.all_eq_true.mp ((Array.all_eq_true_iff_forall_mem.mp hF) _ (Array.getElem_mem ha)) i (List.mem_range.mpr hi)
    simpa [Array.getElem?_eq_getElem hi] using q
  obtain ⟨hsets, hown0⟩ := atoms_of _ (rest_1_c_eq ▸ (show rest_1_c.before _ s = true from hrest))
  obtain ⟨i0, ei0⟩ := is_v g3
  obtain rfl : w0 = (.int i0) := Option.some.inj ei0
  obtain ⟨i1, ei1⟩ := is_v g5
  obtain rfl : w1 = (.int i1) := Option.some.inj ei1
  obtain ⟨i2, ei2⟩ := is_v g6
  obtain rfl : w2 = (.int i2) := Option.some.inj ei2
  obtain ⟨st_COMPACT_STRINGS, ev_st_COMPACT_STRINGS⟩ := is_v (Cond.before_iff.mp (hsets _ (List.mem_of_getElem? (i := 1) rfl)))
  have S_st_COMPACT_STRINGS := Sta.start ev_st_COMPACT_STRINGS (Or.inl (hsets _ (List.mem_of_getElem? (i := 0) rfl)))
  have nz_st_COMPACT_STRINGS := own_nez ev_st_COMPACT_STRINGS (Cond.before_iff.mp (hsets _ (List.mem_of_getElem? (i := 2) rfl)))
  obtain ⟨st_SIOOBE_FORMATTER, ev_st_SIOOBE_FORMATTER, hr_st_SIOOBE_FORMATTER⟩ := isR_v (Cond.before_iff.mp (hsets _ (List.mem_of_getElem? (i := 8) rfl)))
  have S_st_SIOOBE_FORMATTER := Sta.start ev_st_SIOOBE_FORMATTER (Or.inl (hsets _ (List.mem_of_getElem? (i := 7) rfl)))
  obtain ⟨n, o, h1, h2, h3, _, L, rfl, ⟨rfl, N, hK⟩, -, hq⟩ := rm0 l s _ hw tables_1 i0 i1 i2 st_COMPACT_STRINGS s.heap s.heap.size (Old.start s) S_st_COMPACT_STRINGS nz_st_COMPACT_STRINGS p e ha hc hk s m _ below hf ((Spec.applies_iff_loose hf).mp happ).1 ⟨rfl, State.Warmed39.refl s, rfl, CHv.start (own_EW hw) hcalls.1 (hsets _ (List.mem_of_getElem? (i := 2) rfl)) (ow hw 19) (ow hw 5)⟩ trivial
  refine ⟨n, _, h1, h2, h3, hpost _ _ _ _ _ _ ⟨Cond.after_iff.mpr rfl, Cond.after_iff.mpr (eq_i res_at (Term.int_eval (1)) rfl), trivial⟩ ⟨hq.1, hq.2.1, hq.2.2.1, (hq.2.2.2.sift fun y hy => Or.inr (N y hy)).mono (by decide) (by decide)⟩⟩
theorem main_1_1 : Claimed_1_1 := comes_1 fun _ _ _ _ _ _ h hF => ⟨h.1, hF⟩
theorem main_1_2 : Claimed_1_2 := comes_1 fun _ _ _ _ _ _ h hF => ⟨h.2.1, hF⟩
end Jvm.Pilot.@@N@@
namespace Jvm.Pilot.@@N@@
open Jvm Jvm.ClassFile Sem Op Lib Jvm.Free Jvm.Stand Jvm.Pilot.@@N@@.Jvm.D
/-! MADE BY PROGRAM (witnessworld.py) out of the Statement's table words and the real class files: 20 classes; the members and pool entries that the words name. The judged class is class 1, her method 2. -/
namespace start1
open Jvm.ClassFile
def u (s : String) : CpInfo := .utf8 (stringToUtf16 s)
/-- a pool by its gaps: so many unusable entries, then the entry; so many at the end -/
def gap : Nat → List CpInfo → List CpInfo
  | 0, r => r
  | n + 1, r => .unusable :: gap n r
def poolList (es : List (Nat × CpInfo)) (last : Nat) : List CpInfo := es.foldr (fun e r => gap e.1 (e.2 :: r)) (gap last [])
def pool (es : List (Nat × CpInfo)) (last : Nat) : Array CpInfo := ⟨poolList es last⟩
def fileOf (pool : Array CpInfo) (this : Nat) (attrs : Array Attribute := #[]) (ms : Array MethodInfo := #[]) (fl : Nat := 33) (sup : Nat := 0) (ifs : Array Nat := #[]) (fds : Array FieldInfo := #[]) : ClassFile where
  minorVersion := 0
  majorVersion := 65
  constantPool := pool
  accessFlags := fl
  thisClass := this
  superClass := sup
  interfaces := ifs
  fields := fds
  methods := ms
  attributes := attrs
def plain (name : String) (sup : Option ClassId) : Class where
  name := name
  kind := .ordinary
  loader := none
  accessFlags := 33
  super := sup
  interfaces := #[]
  cf := none
  fields := #[]
  methods := #[]
  instanceTypes := #[]
  staticTypes := #[]
  resolved := #[]
  callSites := []
  init := .initialized
  statics := none
  mirror := none

def pool0 : Array CpInfo := pool [(5, u "<init>"), (0, u "()V"), (1, .class_ 10), (1, u "java/lang/Object")] 113

def k0c0 : Code := { maxStack := 0, maxLocals := 1, code := object_method_1_code, exceptionTable := #[], attributes := #[] }
def k0m0 : Method := { name := "<init>", desc := "()V", sig := { parameters := [], returnType := none }, accessFlags := 1, code := some k0c0 }
/-- java/lang/Object -/
def k0 : Class := { plain "java/lang/Object" none with
  accessFlags := 33
  interfaces := #[]
  cf := some (fileOf pool0 8 #[] #[{ accessFlags := 1, nameIndex := 5, descriptorIndex := 6, attributes := #[] }] 33 0 #[] #[])
  fields := #[]
  methods := #[k0m0]
  instanceTypes := #[]
  staticTypes := #[]
  resolved := Array.replicate 124 none
  statics := none }

def pool1 : Array CpInfo := pool [(2, .class_ 4), (1, u "java/lang/Object"), (0, u "<init>"), (0, u "()V"), (0, .class_ 8), (0, u "java/lang/String"), (0, .methodref 7 10), (0, .nameAndType 5 11), (0, u "([C)V"), (0, .methodref 7 13), (0, .nameAndType 14 15), (0, u "valueOf"), (0, u "(C)Ljava/lang/String;"), (0, .methodref 17 18), (0, .class_ 19), (0, .nameAndType 20 21), (0, u "com/example/crete/crete/TreeItemEqualsPinLaw"), (0, u "mk"), (0, u "(ICC)Ljava/lang/String;"), (0, .class_ 23), (0, u "com/example/crete/crete/TreeItem"), (0, .methodref 22 25), (0, .nameAndType 5 26), (0, u "(Ljava/lang/String;Z)V"), (0, .methodref 22 28), (0, .nameAndType 29 30), (0, u "equals"), (0, u "(Ljava/lang/Object;)Z"), (3, u "law"), (0, u "(III)Z")] 2

def k1m0 : Method := { name := "<init>", desc := "()V", sig := { parameters := [], returnType := none }, accessFlags := 1, code := none }
def k1c1 : Code := { maxStack := 6, maxLocals := 3, code := method_2_code, exceptionTable := #[], attributes := #[] }
def k1m1 : Method := { name := "mk", desc := "(ICC)Ljava/lang/String;", sig := { parameters := [.int, .char, .char], returnType := some (.object "java/lang/String") }, accessFlags := 10, code := some k1c1 }
def k1c2 : Code := { maxStack := 4, maxLocals := 18, code := code, exceptionTable := #[], attributes := #[] }
def k1m2 : Method := { name := "law", desc := "(III)Z", sig := { parameters := [.int, .int, .int], returnType := some .boolean }, accessFlags := 9, code := some k1c2 }
/-- com/example/crete/crete/TreeItemEqualsPinLaw -/
def k1 : Class := { plain "com/example/crete/crete/TreeItemEqualsPinLaw" (some 0) with
  accessFlags := 49
  interfaces := #[]
  cf := some (fileOf pool1 17 #[] #[{ accessFlags := 1, nameIndex := 5, descriptorIndex := 6, attributes := #[] }, { accessFlags := 10, nameIndex := 20, descriptorIndex := 21, attributes := #[] }, { accessFlags := 9, nameIndex := 34, descriptorIndex := 35, attributes := #[] }] 49 2 #[] #[])
  fields := #[]
  methods := #[k1m0, k1m1, k1m2]
  instanceTypes := #[]
  staticTypes := #[]
  resolved := Array.replicate 38 none
  statics := none }

def pool2 : Array CpInfo := pool [(1, .class_ 2), (0, u "java/io/Serializable"), (0, .class_ 4), (0, u "java/lang/Object")] 2

/-- java/io/Serializable -/
def k2 : Class := { plain "java/io/Serializable" (some 0) with
  accessFlags := 1537
  interfaces := #[]
  cf := some (fileOf pool2 1 #[] #[] 1537 3 #[] #[])
  fields := #[]
  methods := #[]
  instanceTypes := #[]
  staticTypes := #[]
  resolved := Array.replicate 7 none
  statics := none }

def pool3 : Array CpInfo := pool [(1, .class_ 2), (0, u "java/lang/Comparable"), (0, .class_ 4), (0, u "java/lang/Object")] 7

/-- java/lang/Comparable -/
def k3 : Class := { plain "java/lang/Comparable" (some 0) with
  accessFlags := 1537
  interfaces := #[]
  cf := some (fileOf pool3 1 #[] #[] 1537 3 #[] #[])
  fields := #[]
  methods := #[]
  instanceTypes := #[]
  staticTypes := #[]
  resolved := Array.replicate 12 none
  statics := none }

def pool4 : Array CpInfo := pool [(2, .class_ 4), (1, u "java/lang/CharSequence"), (42, .class_ 48), (0, u "java/lang/CharSequence$1CodePointIterator"), (10, .class_ 60), (0, u "java/lang/CharSequence$1CharIterator"), (5, .class_ 67), (0, u "java/lang/Object")] 63

/-- java/lang/CharSequence -/
def k4 : Class := { plain "java/lang/CharSequence" (some 0) with
  accessFlags := 1537
  interfaces := #[]
  cf := some (fileOf pool4 2 #[.nestMembers #[47, 59]] #[] 1537 66 #[] #[])
  fields := #[]
  methods := #[]
  instanceTypes := #[]
  staticTypes := #[]
  resolved := Array.replicate 131 none
  statics := none }

def pool5 : Array CpInfo := pool [(1, .class_ 2), (0, u "java/lang/constant/Constable"), (0, .class_ 4), (0, u "java/lang/Object")] 6

/-- java/lang/constant/Constable -/
def k5 : Class := { plain "java/lang/constant/Constable" (some 0) with
  accessFlags := 1537
  interfaces := #[]
  cf := some (fileOf pool5 1 #[] #[] 1537 3 #[] #[])
  fields := #[]
  methods := #[]
  instanceTypes := #[]
  staticTypes := #[]
  resolved := Array.replicate 11 none
  statics := none }

def pool6 : Array CpInfo := pool [(1, .class_ 2), (0, u "java/lang/constant/ConstantDesc"), (0, .class_ 4), (0, u "java/lang/Object")] 32

/-- java/lang/constant/ConstantDesc -/
def k6 : Class := { plain "java/lang/constant/ConstantDesc" (some 0) with
  accessFlags := 1537
  interfaces := #[]
  cf := some (fileOf pool6 1 #[] #[] 1537 3 #[] #[])
  fields := #[]
  methods := #[]
  instanceTypes := #[]
  staticTypes := #[]
  resolved := Array.replicate 37 none
  statics := none }

def pool7 : Array CpInfo := pool [(1, .methodref 2 3), (0, .class_ 4), (0, .nameAndType 5 6), (0, u "java/lang/Object"), (0, u "<init>"), (0, u "()V"), (0, .string 8), (0, u ""), (0, .fieldref 10 11), (0, .class_ 12), (0, .nameAndType 13 14), (0, u "java/lang/String"), (0, u "value"), (0, u "[B"), (0, .fieldref 10 16), (0, .nameAndType 17 18), (0, u "coder"), (0, u "B"), (2, u "hash"), (0, u "I"), (2, u "hashIsZero"), (0, u "Z"), (0, .methodref 10 28), (0, .nameAndType 5 29), (0, u "([CIILjava/lang/Void;)V"), (8, .fieldref 10 39), (0, .nameAndType 40 26), (0, u "COMPACT_STRINGS"), (1, .class_ 44), (1, u "java/lang/StringUTF16"), (0, u "compress"), (1, .methodref 42 48), (0, .nameAndType 49 50), (0, u "coderFromArrayLen"), (0, u "([BI)B"), (2, u "toBytes"), (53, .class_ 109), (1, u "java/lang/StringLatin1"), (67, .methodref 42 178), (0, .nameAndType 45 179), (0, u "([CII)[B"), (29, .methodref 10 210), (0, .nameAndType 5 211), (0, u "([BB)V"), (157, u "(C)Z"), (171, .methodref 107 542), (0, .nameAndType 543 544), (0, u "equals"), (0, u "([B[B)Z"), (28, u "(Ljava/lang/Object;)Z"), (1, .class_ 576), (0, u "java/lang/CharSequence"), (22, u "CASE_INSENSITIVE_ORDER"), (0, u "Ljava/util/Comparator;"), (181, u "valueOf"), (0, u "(C)Ljava/lang/String;"), (226, u "([C)V"), (4, .methodref 107 1016), (0, .nameAndType 1017 369), (0, u "canEncode"), (0, .methodref 107 1019), (0, .nameAndType 53 1020), (0, u "(C)[B"), (80, u "serialPersistentFields"), (0, u "[Ljava/io/ObjectStreamField;"), (0, .class_ 1104), (0, u "java/lang/String$CaseInsensitiveComparator"), (1, .class_ 1107), (0, u "java/io/Serializable"), (0, .class_ 1109), (0, u "java/lang/Comparable"), (0, .class_ 1111), (0, u "java/lang/constant/Constable"), (0, .class_ 1113), (0, u "java/lang/constant/ConstantDesc"), (2, u "serialVersionUID"), (0, u "J"), (3, u "REPL"), (0, u "C"), (2, u "LATIN1"), (1, u "UTF16")] 323

def k7m0 : Method := { name := "<init>", desc := "()V", sig := { parameters := [], returnType := none }, accessFlags := 1, code := none }
def k7c1 : Code := { maxStack := 5, maxLocals := 2, code := jdk_42_method_3_code, exceptionTable := #[], attributes := #[] }
def k7m1 : Method := { name := "<init>", desc := "([C)V", sig := { parameters := [(.array .char)], returnType := none }, accessFlags := 1, code := some k7c1 }
def k7c2 : Code := { maxStack := 2, maxLocals := 3, code := jdk_42_method_66_code, exceptionTable := #[], attributes := #[] }
def k7m2 : Method := { name := "equals", desc := "(Ljava/lang/Object;)Z", sig := { parameters := [(.object "java/lang/Object")], returnType := some .boolean }, accessFlags := 1, code := some k7c2 }
def k7c3 : Code := { maxStack := 4, maxLocals := 1, code := jdk_42_method_139_code, exceptionTable := #[], attributes := #[] }
def k7m3 : Method := { name := "valueOf", desc := "(C)Ljava/lang/String;", sig := { parameters := [.char], returnType := some (.object "java/lang/String") }, accessFlags := 9, code := some k7c3 }
def k7c4 : Code := { maxStack := 4, maxLocals := 6, code := jdk_42_method_149_code, exceptionTable := #[], attributes := #[] }
def k7m4 : Method := { name := "<init>", desc := "([CIILjava/lang/Void;)V", sig := { parameters := [(.array .char), .int, .int, (.object "java/lang/Void")], returnType := none }, accessFlags := 2, code := some k7c4 }
def k7c5 : Code := { maxStack := 2, maxLocals := 3, code := jdk_42_method_151_code, exceptionTable := #[], attributes := #[] }
def k7m5 : Method := { name := "<init>", desc := "([BB)V", sig := { parameters := [(.array .byte), .byte], returnType := none }, accessFlags := 0, code := some k7c5 }
/-- java/lang/String -/
def k7 : Class := { plain "java/lang/String" (some 0) with
  accessFlags := 49
  interfaces := #[2, 3, 4, 5, 6]
  cf := some (fileOf pool7 10 #[.nestMembers #[1103]] #[{ accessFlags := 1, nameIndex := 5, descriptorIndex := 6, attributes := #[] }, { accessFlags := 1, nameIndex := 5, descriptorIndex := 1010, attributes := #[] }, { accessFlags := 1, nameIndex := 543, descriptorIndex := 573, attributes := #[] }, { accessFlags := 9, nameIndex := 782, descriptorIndex := 783, attributes := #[] }, { accessFlags := 2, nameIndex := 5, descriptorIndex := 29, attributes := #[] }, { accessFlags := 0, nameIndex := 5, descriptorIndex := 211, attributes := #[] }] 49 2 #[1106, 1108, 575, 1110, 1112] #[{ accessFlags := 18, nameIndex := 13, descriptorIndex := 14, attributes := #[] }, { accessFlags := 18, nameIndex := 17, descriptorIndex := 18, attributes := #[] }, { accessFlags := 2, nameIndex := 21, descriptorIndex := 22, attributes := #[] }, { accessFlags := 2, nameIndex := 25, descriptorIndex := 26, attributes := #[] }, { accessFlags := 26, nameIndex := 1116, descriptorIndex := 1117, attributes := #[] }, { accessFlags := 24, nameIndex := 40, descriptorIndex := 26, attributes := #[] }, { accessFlags := 26, nameIndex := 1101, descriptorIndex := 1102, attributes := #[] }, { accessFlags := 26, nameIndex := 1121, descriptorIndex := 1122, attributes := #[] }, { accessFlags := 25, nameIndex := 599, descriptorIndex := 600, attributes := #[] }, { accessFlags := 24, nameIndex := 1125, descriptorIndex := 18, attributes := #[] }, { accessFlags := 24, nameIndex := 1127, descriptorIndex := 18, attributes := #[] }])
  fields := #[{ name := "value", type := (.array .byte), accessFlags := 18, slot := 0, constantValue := 0 }, { name := "coder", type := .byte, accessFlags := 18, slot := 1, constantValue := 0 }, { name := "hash", type := .int, accessFlags := 2, slot := 2, constantValue := 0 }, { name := "hashIsZero", type := .boolean, accessFlags := 2, slot := 3, constantValue := 0 }, { name := "serialVersionUID", type := .long, accessFlags := 26, slot := 0, constantValue := 0 }, { name := "COMPACT_STRINGS", type := .boolean, accessFlags := 24, slot := 1, constantValue := 0 }, { name := "serialPersistentFields", type := (.array (.object "java/io/ObjectStreamField")), accessFlags := 26, slot := 2, constantValue := 0 }, { name := "REPL", type := .char, accessFlags := 26, slot := 3, constantValue := 0 }, { name := "CASE_INSENSITIVE_ORDER", type := (.object "java/util/Comparator"), accessFlags := 25, slot := 4, constantValue := 0 }, { name := "LATIN1", type := .byte, accessFlags := 24, slot := 5, constantValue := 0 }, { name := "UTF16", type := .byte, accessFlags := 24, slot := 6, constantValue := 0 }]
  methods := #[k7m0, k7m1, k7m2, k7m3, k7m4, k7m5]
  instanceTypes := #[(.array .byte), .byte, .int, .boolean]
  staticTypes := #[.long, .boolean, (.array (.object "java/io/ObjectStreamField")), .char, (.object "java/util/Comparator"), .byte, .byte]
  resolved := Array.replicate 1451 none
  statics := some 0 }

def pool8 : Array CpInfo := pool [(1, .methodref 2 3), (0, .class_ 4), (0, .nameAndType 5 6), (0, u "java/lang/Object"), (0, u "<init>"), (0, u "()V"), (0, .fieldref 8 9), (0, .class_ 10), (0, .nameAndType 11 12), (0, u "com/example/crete/crete/TreeItem"), (0, u "name"), (0, u "Ljava/lang/String;"), (0, .fieldref 8 14), (0, .nameAndType 15 16), (0, u "leaf"), (0, u "Z"), (0, .methodref 18 19), (0, .class_ 20), (0, .nameAndType 21 22), (0, u "java/lang/String"), (0, u "equals"), (0, u "(Ljava/lang/Object;)Z"), (16, u "(Ljava/lang/String;Z)V")] 26

def k8c0 : Code := { maxStack := 2, maxLocals := 3, code := prog_32_method_1_code, exceptionTable := #[], attributes := #[] }
def k8m0 : Method := { name := "<init>", desc := "(Ljava/lang/String;Z)V", sig := { parameters := [(.object "java/lang/String"), .boolean], returnType := none }, accessFlags := 0, code := some k8c0 }
def k8c1 : Code := { maxStack := 2, maxLocals := 3, code := prog_32_method_4_code, exceptionTable := #[], attributes := #[] }
def k8m1 : Method := { name := "equals", desc := "(Ljava/lang/Object;)Z", sig := { parameters := [(.object "java/lang/Object")], returnType := some .boolean }, accessFlags := 1, code := some k8c1 }
/-- com/example/crete/crete/TreeItem -/
def k8 : Class := { plain "com/example/crete/crete/TreeItem" (some 0) with
  accessFlags := 49
  interfaces := #[]
  cf := some (fileOf pool8 8 #[] #[{ accessFlags := 0, nameIndex := 5, descriptorIndex := 39, attributes := #[] }, { accessFlags := 1, nameIndex := 21, descriptorIndex := 22, attributes := #[] }] 49 2 #[] #[{ accessFlags := 18, nameIndex := 11, descriptorIndex := 12, attributes := #[] }, { accessFlags := 18, nameIndex := 15, descriptorIndex := 16, attributes := #[] }])
  fields := #[{ name := "name", type := (.object "java/lang/String"), accessFlags := 18, slot := 0, constantValue := 0 }, { name := "leaf", type := .boolean, accessFlags := 18, slot := 1, constantValue := 0 }]
  methods := #[k8m0, k8m1]
  instanceTypes := #[(.object "java/lang/String"), .boolean]
  staticTypes := #[]
  resolved := Array.replicate 66 none
  statics := none }

def pool9 : Array CpInfo := pool [(4, .class_ 6), (1, u "java/lang/Object"), (0, u "<init>"), (0, u "()V"), (5, .class_ 16), (1, u "java/lang/StringLatin1"), (73, u "canEncode"), (14, u "(C)Z"), (15, u "$assertionsDisabled"), (0, u "Z"), (98, .class_ 223), (1, u "java/lang/StringLatin1$LinesSpliterator"), (57, u "equals"), (0, u "([B[B)Z"), (97, u "toBytes"), (1, u "(C)[B"), (7, .class_ 391), (0, u "java/lang/StringLatin1$CharsSpliterator")] 3

def k9m0 : Method := { name := "<init>", desc := "()V", sig := { parameters := [], returnType := none }, accessFlags := 0, code := none }
def k9c1 : Code := { maxStack := 2, maxLocals := 1, code := jdk_43_method_3_code, exceptionTable := #[], attributes := #[] }
def k9m1 : Method := { name := "canEncode", desc := "(C)Z", sig := { parameters := [.char], returnType := some .boolean }, accessFlags := 9, code := some k9c1 }
def k9c2 : Code := { maxStack := 3, maxLocals := 3, code := jdk_43_method_13_code, exceptionTable := #[], attributes := #[] }
def k9m2 : Method := { name := "equals", desc := "([B[B)Z", sig := { parameters := [(.array .byte), (.array .byte)], returnType := some .boolean }, accessFlags := 9, code := some k9c2 }
def k9c3 : Code := { maxStack := 4, maxLocals := 1, code := jdk_43_method_46_code, exceptionTable := #[], attributes := #[] }
def k9m3 : Method := { name := "toBytes", desc := "(C)[B", sig := { parameters := [.char], returnType := some (.array .byte) }, accessFlags := 9, code := some k9c3 }
/-- java/lang/StringLatin1 -/
def k9 : Class := { plain "java/lang/StringLatin1" (some 0) with
  accessFlags := 48
  interfaces := #[]
  cf := some (fileOf pool9 14 #[.nestMembers #[390, 221]] #[{ accessFlags := 0, nameIndex := 7, descriptorIndex := 8, attributes := #[] }, { accessFlags := 9, nameIndex := 90, descriptorIndex := 105, attributes := #[] }, { accessFlags := 9, nameIndex := 281, descriptorIndex := 282, attributes := #[] }, { accessFlags := 9, nameIndex := 380, descriptorIndex := 382, attributes := #[] }] 48 4 #[] #[{ accessFlags := 4120, nameIndex := 121, descriptorIndex := 122, attributes := #[] }])
  fields := #[{ name := "$assertionsDisabled", type := .boolean, accessFlags := 4120, slot := 0, constantValue := 0 }]
  methods := #[k9m0, k9m1, k9m2, k9m3]
  instanceTypes := #[]
  staticTypes := #[.boolean]
  resolved := Array.replicate 395 none
  statics := none }

def pool10 : Array CpInfo := pool [(6, .class_ 8), (1, u "java/lang/Object"), (0, u "<init>"), (0, u "()V"), (1, .class_ 14), (1, u "java/lang/StringUTF16"), (31, u "$assertionsDisabled"), (0, u "Z"), (13, u "HI_BYTE_SHIFT"), (0, u "I"), (2, u "LO_BYTE_SHIFT"), (49, .methodref 12 116), (0, .nameAndType 117 118), (0, u "compress"), (0, u "([CI[BII)I"), (3, u "([CII)[B"), (138, u "coderFromArrayLen"), (0, u "([BI)B"), (106, .class_ 371), (1, u "java/lang/StringUTF16$LinesSpliterator"), (58, u "MAX_LENGTH"), (196, .class_ 628), (0, u "java/lang/StringUTF16$CodePointsSpliterator"), (0, .class_ 630), (0, u "java/lang/StringUTF16$CharsSpliterator")] 4

def k10m0 : Method := { name := "<init>", desc := "()V", sig := { parameters := [], returnType := none }, accessFlags := 0, code := none }
def k10c1 : Code := { maxStack := 2, maxLocals := 2, code := jdk_52_method_15_code, exceptionTable := #[], attributes := #[] }
def k10m1 : Method := { name := "coderFromArrayLen", desc := "([BI)B", sig := { parameters := [(.array .byte), .int], returnType := some .byte }, accessFlags := 8, code := some k10c1 }
def k10c2 : Code := { maxStack := 5, maxLocals := 6, code := jdk_52_method_16_code, exceptionTable := #[], attributes := #[] }
def k10m2 : Method := { name := "compress", desc := "([CII)[B", sig := { parameters := [(.array .char), .int, .int], returnType := some (.array .byte) }, accessFlags := 9, code := some k10c2 }
def k10c3 : Code := { maxStack := 3, maxLocals := 7, code := jdk_52_method_21_code, exceptionTable := #[], attributes := #[] }
def k10m3 : Method := { name := "compress", desc := "([CI[BII)I", sig := { parameters := [(.array .char), .int, (.array .byte), .int, .int], returnType := some .int }, accessFlags := 9, code := some k10c3 }
/-- java/lang/StringUTF16 -/
def k10 : Class := { plain "java/lang/StringUTF16" (some 0) with
  accessFlags := 48
  interfaces := #[]
  cf := some (fileOf pool10 12 #[.nestMembers #[627, 629, 369]] #[{ accessFlags := 0, nameIndex := 9, descriptorIndex := 10, attributes := #[] }, { accessFlags := 8, nameIndex := 261, descriptorIndex := 262, attributes := #[] }, { accessFlags := 9, nameIndex := 117, descriptorIndex := 122, attributes := #[] }, { accessFlags := 9, nameIndex := 117, descriptorIndex := 118, attributes := #[] }] 48 6 #[] #[{ accessFlags := 26, nameIndex := 61, descriptorIndex := 62, attributes := #[] }, { accessFlags := 26, nameIndex := 65, descriptorIndex := 62, attributes := #[] }, { accessFlags := 24, nameIndex := 430, descriptorIndex := 62, attributes := #[] }, { accessFlags := 4120, nameIndex := 46, descriptorIndex := 47, attributes := #[] }])
  fields := #[{ name := "HI_BYTE_SHIFT", type := .int, accessFlags := 26, slot := 0, constantValue := 0 }, { name := "LO_BYTE_SHIFT", type := .int, accessFlags := 26, slot := 1, constantValue := 0 }, { name := "MAX_LENGTH", type := .int, accessFlags := 24, slot := 2, constantValue := 0 }, { name := "$assertionsDisabled", type := .boolean, accessFlags := 4120, slot := 3, constantValue := 0 }]
  methods := #[k10m0, k10m1, k10m2, k10m3]
  instanceTypes := #[]
  staticTypes := #[.int, .int, .int, .boolean]
  resolved := Array.replicate 635 none
  statics := none }

def pool11 : Array CpInfo := pool [(2, .class_ 4), (1, u "java/lang/Object"), (0, u "<init>"), (0, u "()V"), (17, .class_ 26), (1, u "jdk/internal/util/Preconditions"), (28, .class_ 56), (0, u "jdk/internal/util/Preconditions$4"), (57, .class_ 115), (0, u "jdk/internal/util/Preconditions$1"), (7, u "SIOOBE_FORMATTER"), (0, u "Ljava/util/function/BiFunction;"), (0, .class_ 126), (0, u "jdk/internal/util/Preconditions$2"), (3, u "AIOOBE_FORMATTER"), (0, .class_ 132), (0, u "jdk/internal/util/Preconditions$3"), (3, u "IOOBE_FORMATTER")] 57

def k11m0 : Method := { name := "<init>", desc := "()V", sig := { parameters := [], returnType := none }, accessFlags := 1, code := none }
/-- jdk/internal/util/Preconditions -/
def k11 : Class := { plain "jdk/internal/util/Preconditions" (some 0) with
  accessFlags := 33
  interfaces := #[]
  cf := some (fileOf pool11 24 #[.nestMembers #[55, 131, 125, 114]] #[{ accessFlags := 1, nameIndex := 5, descriptorIndex := 6, attributes := #[] }] 33 2 #[] #[{ accessFlags := 25, nameIndex := 123, descriptorIndex := 124, attributes := #[] }, { accessFlags := 25, nameIndex := 130, descriptorIndex := 124, attributes := #[] }, { accessFlags := 25, nameIndex := 136, descriptorIndex := 124, attributes := #[] }])
  fields := #[{ name := "SIOOBE_FORMATTER", type := (.object "java/util/function/BiFunction"), accessFlags := 25, slot := 0, constantValue := 0 }, { name := "AIOOBE_FORMATTER", type := (.object "java/util/function/BiFunction"), accessFlags := 25, slot := 1, constantValue := 0 }, { name := "IOOBE_FORMATTER", type := (.object "java/util/function/BiFunction"), accessFlags := 25, slot := 2, constantValue := 0 }]
  methods := #[k11m0]
  instanceTypes := #[]
  staticTypes := #[(.object "java/util/function/BiFunction"), (.object "java/util/function/BiFunction"), (.object "java/util/function/BiFunction")]
  resolved := Array.replicate 194 none
  statics := some 1 }

def pool12 : Array CpInfo := pool [(9, u "<init>"), (6, .class_ 18), (1, u "java/lang/Object"), (0, u "()V"), (1, .class_ 23), (1, u "jdk/internal/util/ArraysSupport"), (0, u "LOG2_ARRAY_LONG_INDEX_SCALE"), (0, u "I"), (2, u "U"), (0, u "Ljdk/internal/misc/Unsafe;"), (8, u "BIG_ENDIAN"), (0, u "Z"), (8, u "LOG2_BYTE_BIT_SIZE"), (4, u "LOG2_ARRAY_INT_INDEX_SCALE"), (54, u "JLA"), (0, u "Ljdk/internal/access/JavaLangAccess;"), (11, u "LOG2_ARRAY_BOOLEAN_INDEX_SCALE"), (9, u "LOG2_ARRAY_BYTE_INDEX_SCALE"), (5, u "LOG2_ARRAY_CHAR_INDEX_SCALE"), (5, u "LOG2_ARRAY_SHORT_INDEX_SCALE"), (18, u "LOG2_ARRAY_FLOAT_INDEX_SCALE"), (24, u "LOG2_ARRAY_DOUBLE_INDEX_SCALE"), (89, u "T_BOOLEAN"), (2, u "T_CHAR"), (1, u "T_FLOAT"), (1, u "T_DOUBLE"), (1, u "T_BYTE"), (1, u "T_SHORT"), (1, u "T_INT"), (1, u "T_LONG"), (1, u "SOFT_MAX_ARRAY_LENGTH")] 83

def k12m0 : Method := { name := "<init>", desc := "()V", sig := { parameters := [], returnType := none }, accessFlags := 2, code := none }
/-- jdk/internal/util/ArraysSupport -/
def k12 : Class := { plain "jdk/internal/util/ArraysSupport" (some 0) with
  accessFlags := 33
  interfaces := #[]
  cf := some (fileOf pool12 21 #[] #[{ accessFlags := 2, nameIndex := 9, descriptorIndex := 19, attributes := #[] }] 33 16 #[] #[{ accessFlags := 24, nameIndex := 28, descriptorIndex := 29, attributes := #[] }, { accessFlags := 26, nameIndex := 38, descriptorIndex := 39, attributes := #[] }, { accessFlags := 25, nameIndex := 121, descriptorIndex := 25, attributes := #[] }, { accessFlags := 25, nameIndex := 131, descriptorIndex := 25, attributes := #[] }, { accessFlags := 25, nameIndex := 137, descriptorIndex := 25, attributes := #[] }, { accessFlags := 25, nameIndex := 143, descriptorIndex := 25, attributes := #[] }, { accessFlags := 25, nameIndex := 53, descriptorIndex := 25, attributes := #[] }, { accessFlags := 25, nameIndex := 24, descriptorIndex := 25, attributes := #[] }, { accessFlags := 25, nameIndex := 162, descriptorIndex := 25, attributes := #[] }, { accessFlags := 25, nameIndex := 187, descriptorIndex := 25, attributes := #[] }, { accessFlags := 26, nameIndex := 48, descriptorIndex := 25, attributes := #[] }, { accessFlags := 25, nameIndex := 277, descriptorIndex := 25, attributes := #[] }, { accessFlags := 25, nameIndex := 280, descriptorIndex := 25, attributes := #[] }, { accessFlags := 25, nameIndex := 282, descriptorIndex := 25, attributes := #[] }, { accessFlags := 25, nameIndex := 284, descriptorIndex := 25, attributes := #[] }, { accessFlags := 25, nameIndex := 286, descriptorIndex := 25, attributes := #[] }, { accessFlags := 25, nameIndex := 288, descriptorIndex := 25, attributes := #[] }, { accessFlags := 25, nameIndex := 290, descriptorIndex := 25, attributes := #[] }, { accessFlags := 25, nameIndex := 292, descriptorIndex := 25, attributes := #[] }, { accessFlags := 26, nameIndex := 108, descriptorIndex := 109, attributes := #[] }, { accessFlags := 25, nameIndex := 294, descriptorIndex := 25, attributes := #[] }])
  fields := #[{ name := "U", type := (.object "jdk/internal/misc/Unsafe"), accessFlags := 24, slot := 0, constantValue := 0 }, { name := "BIG_ENDIAN", type := .boolean, accessFlags := 26, slot := 1, constantValue := 0 }, { name := "LOG2_ARRAY_BOOLEAN_INDEX_SCALE", type := .int, accessFlags := 25, slot := 2, constantValue := 0 }, { name := "LOG2_ARRAY_BYTE_INDEX_SCALE", type := .int, accessFlags := 25, slot := 3, constantValue := 0 }, { name := "LOG2_ARRAY_CHAR_INDEX_SCALE", type := .int, accessFlags := 25, slot := 4, constantValue := 0 }, { name := "LOG2_ARRAY_SHORT_INDEX_SCALE", type := .int, accessFlags := 25, slot := 5, constantValue := 0 }, { name := "LOG2_ARRAY_INT_INDEX_SCALE", type := .int, accessFlags := 25, slot := 6, constantValue := 0 }, { name := "LOG2_ARRAY_LONG_INDEX_SCALE", type := .int, accessFlags := 25, slot := 7, constantValue := 0 }, { name := "LOG2_ARRAY_FLOAT_INDEX_SCALE", type := .int, accessFlags := 25, slot := 8, constantValue := 0 }, { name := "LOG2_ARRAY_DOUBLE_INDEX_SCALE", type := .int, accessFlags := 25, slot := 9, constantValue := 0 }, { name := "LOG2_BYTE_BIT_SIZE", type := .int, accessFlags := 26, slot := 10, constantValue := 0 }, { name := "T_BOOLEAN", type := .int, accessFlags := 25, slot := 11, constantValue := 0 }, { name := "T_CHAR", type := .int, accessFlags := 25, slot := 12, constantValue := 0 }, { name := "T_FLOAT", type := .int, accessFlags := 25, slot := 13, constantValue := 0 }, { name := "T_DOUBLE", type := .int, accessFlags := 25, slot := 14, constantValue := 0 }, { name := "T_BYTE", type := .int, accessFlags := 25, slot := 15, constantValue := 0 }, { name := "T_SHORT", type := .int, accessFlags := 25, slot := 16, constantValue := 0 }, { name := "T_INT", type := .int, accessFlags := 25, slot := 17, constantValue := 0 }, { name := "T_LONG", type := .int, accessFlags := 25, slot := 18, constantValue := 0 }, { name := "JLA", type := (.object "jdk/internal/access/JavaLangAccess"), accessFlags := 26, slot := 19, constantValue := 0 }, { name := "SOFT_MAX_ARRAY_LENGTH", type := .int, accessFlags := 25, slot := 20, constantValue := 0 }]
  methods := #[k12m0]
  instanceTypes := #[]
  staticTypes := #[(.object "jdk/internal/misc/Unsafe"), .boolean, .int, .int, .int, .int, .int, .int, .int, .int, .int, .int, .int, .int, .int, .int, .int, .int, .int, (.object "jdk/internal/access/JavaLangAccess"), .int]
  resolved := Array.replicate 378 none
  statics := none }

def pool13 : Array CpInfo := pool [(1, u "java/lang/Cloneable"), (0, .class_ 1), (0, u "java/lang/Object"), (0, .class_ 3)] 3

/-- java/lang/Cloneable -/
def k13 : Class := { plain "java/lang/Cloneable" (some 0) with
  accessFlags := 1537
  interfaces := #[]
  cf := some (fileOf pool13 2 #[] #[] 1537 4 #[] #[])
  fields := #[]
  methods := #[]
  instanceTypes := #[]
  staticTypes := #[]
  resolved := Array.replicate 8 none
  statics := none }

/-- the primitive byte -/
def k14 : Class := { plain "byte" none with kind := .primitive 'B', accessFlags := 0x411 }
/-- [B -/
def k15 : Class := { plain "[B" (some 0) with kind := .array 14 .byte, interfaces := #[13, 2], accessFlags := 1041 }

/-- the primitive char -/
def k16 : Class := { plain "char" none with kind := .primitive 'C', accessFlags := 0x411 }
/-- [C -/
def k17 : Class := { plain "[C" (some 0) with kind := .array 16 .char, interfaces := #[13, 2], accessFlags := 1041 }

/-- the primitive int -/
def k18 : Class := { plain "int" none with kind := .primitive 'I', accessFlags := 0x411 }
/-- [I -/
def k19 : Class := { plain "[I" (some 0) with kind := .array 18 .int, interfaces := #[13, 2], accessFlags := 1041 }

def heap : Heap := #[{ cls := 7, slots := #[.long 0, .int 1, .null, .int 0, .null, .int 0, .int 0], vm := .statics 7 },
  { cls := 11, slots := #[.null, .null, .null], vm := .statics 11 }]
def classes : Array Class := #[k0, k1, k2, k3, k4, k5, k6, k7, k8, k9, k10, k11, k12, k13, k14, k15, k16, k17, k18, k19]
def interned : List (Array UInt16 × Addr) := []
def slotsUsed : Nat := 10
def theMethod : MethodId := ⟨1, 2⟩
def args0 : Array Value := #[.int 1, .int 2, .int 3]
def aboutOver (below : List Frame) : State where
  vm := { classes := classes, interned := interned.toArray }
  heap := heap
  slotsUsed := slotsUsed
  threads := #[{ frames := .invoking theMethod args0 :: below }]
def below0 : List Frame := [.native { method := ⟨0, 0⟩, args := #[] }]
def about1 : State := aboutOver below0
def p0 : Program := .bare "" "" ""
def e0 : Env := launch0.env 0 0 0
theorem w_frames : about1.frames = Frame.invoking theMethod args0 :: below0 := rfl
set_option maxRecDepth 65536 in
theorem w_args : argsFit about1.vm theMethod args0 = true := by decide +kernel
set_option maxRecDepth 65536 in
theorem w_heap : heapFits about1 = true := by decide +kernel
set_option maxRecDepth 65536 in
theorem w_runnable : about1.curStatus? = some .runnable := by decide +kernel
set_option maxRecDepth 65536 in
theorem w_alone : about1.alone = true := by decide +kernel
set_option maxRecDepth 65536 in
theorem w_named : about1.methodNamed? x = some theMethod := by decide +kernel
set_option maxRecDepth 65536 in
theorem w_hears : about1.hears theMethod below0 = true := by decide +kernel
set_option maxRecDepth 65536 in
theorem w_ripe : about1.ripe theMethod args0 below0 = true := by decide +kernel
theorem w_running : about1.status = .running := rfl
set_option maxRecDepth 65536 in
theorem w_room : about1.hasRoom e0.platform room_1 = true :=
  launch0.hasRoom_least _ room_1 (by decide +kernel) (by decide +kernel) (by decide +kernel) (by decide +kernel) (by decide +kernel) (by decide +kernel)
theorem allAtoms_all (ts : List Jvm.Cond) (a : Array Jvm.Value) (st : Jvm.State) : (allAtoms ts).before a st = ts.all (fun c => c.before a st) := by
  induction ts with
  | nil => rfl
  | cons c t ih =>
    show (Jvm.Cond.and c (allAtoms t)).before a st = _
    rw [Jvm.Cond.before_and, ih, List.all_cons]
def words1 : List Jvm.Cond := Jvm.Cond.code x code maxLocals ret :: tables_1
/-- a 'code' word, met by the world's own term for the bytes: nothing is compared byte by byte -/
theorem code_word {y : MethodName} {bytes : ByteArray} {mx : Nat} {rt : Option FieldType} {a : Array Value} {s : State} {m : MethodId} {meth : Method} {c : Code} (h1 : s.methodNamed? y = some m) (h2 : s.vm.method? m = some meth) (h3 : meth.code = some c) (h4 : c.code = bytes)
    (h5 : (c.maxLocals == mx && c.exceptionTable.isEmpty && decide (c.maxStack ≤ mostOperands) && decide (meth.sig.returnType = rt) && !meth.locks && decide (parseMethodDescriptor y.desc = some meth.sig)) = true) : (Jvm.Cond.code y bytes mx rt).before a s = true := by
  simp only [Bool.and_eq_true, beq_iff_eq, Bool.not_eq_true', decide_eq_true_eq] at h5
  obtain ⟨⟨⟨⟨⟨g1, g2⟩, g3⟩, g4⟩, g5⟩, g6⟩ := h5
  simp [Cond.before, Cond.holds, Cond.value, h1, h2, h3, h4, g1, g2, g3, g4, g5, g6]
def isCode : Jvm.Cond → Bool
  | .code _ _ _ _ => true
  | _ => false
theorem all_split {L : List Jvm.Cond} {P : Jvm.Cond → Bool} (h1 : L.all (fun c => isCode c || P c) = true) (h2 : ∀ c ∈ L.filter isCode, P c = true) : L.all P = true := by
  refine List.all_eq_true.mpr fun c hc => ?_
  have h := List.all_eq_true.mp h1 c hc
  rcases Bool.eq_false_or_eq_true (isCode c) with hi | hi
  · exact h2 c (List.mem_filter.mpr ⟨hc, hi⟩)
  · simpa [hi] using h
set_option maxRecDepth 65536 in
theorem w_c0 : (Jvm.Cond.code x code maxLocals ret).before args0 about1 = true := code_word (m := ⟨1, 2⟩) (meth := k1m2) (c := k1c2) (by decide +kernel) rfl rfl rfl (by decide +kernel)
set_option maxRecDepth 65536 in
theorem w_c1 : (Jvm.Cond.code ({ cls := "com/example/crete/crete/TreeItemEqualsPinLaw", name := "mk", desc := "(ICC)Ljava/lang/String;" } : Jvm.MethodName) method_2_code (3 : Nat) (Option.some (Jvm.ClassFile.FieldType.object "java/lang/String"))).before args0 about1 = true := code_word (m := ⟨1, 1⟩) (meth := k1m1) (c := k1c1) (by decide +kernel) rfl rfl rfl (by decide +kernel)
set_option maxRecDepth 65536 in
theorem w_c2 : (Jvm.Cond.code ({ cls := "java/lang/String", name := "<init>", desc := "([C)V" } : Jvm.MethodName) jdk_42_method_3_code (2 : Nat) (Option.none : Option Jvm.ClassFile.FieldType)).before args0 about1 = true := code_word (m := ⟨7, 1⟩) (meth := k7m1) (c := k7c1) (by decide +kernel) rfl rfl rfl (by decide +kernel)
set_option maxRecDepth 65536 in
theorem w_c3 : (Jvm.Cond.code ({ cls := "java/lang/String", name := "<init>", desc := "([CIILjava/lang/Void;)V" } : Jvm.MethodName) jdk_42_method_149_code (6 : Nat) (Option.none : Option Jvm.ClassFile.FieldType)).before args0 about1 = true := code_word (m := ⟨7, 4⟩) (meth := k7m4) (c := k7c4) (by decide +kernel) rfl rfl rfl (by decide +kernel)
set_option maxRecDepth 65536 in
theorem w_c4 : (Jvm.Cond.code ({ cls := "java/lang/Object", name := "<init>", desc := "()V" } : Jvm.MethodName) object_method_1_code (1 : Nat) (Option.none : Option Jvm.ClassFile.FieldType)).before args0 about1 = true := code_word (m := ⟨0, 0⟩) (meth := k0m0) (c := k0c0) (by decide +kernel) rfl rfl rfl (by decide +kernel)
set_option maxRecDepth 65536 in
theorem w_c5 : (Jvm.Cond.code ({ cls := "com/example/crete/crete/TreeItem", name := "<init>", desc := "(Ljava/lang/String;Z)V" } : Jvm.MethodName) prog_32_method_1_code (3 : Nat) (Option.none : Option Jvm.ClassFile.FieldType)).before args0 about1 = true := code_word (m := ⟨8, 0⟩) (meth := k8m0) (c := k8c0) (by decide +kernel) rfl rfl rfl (by decide +kernel)
set_option maxRecDepth 65536 in
theorem w_c6 : (Jvm.Cond.code ({ cls := "com/example/crete/crete/TreeItem", name := "equals", desc := "(Ljava/lang/Object;)Z" } : Jvm.MethodName) prog_32_method_4_code (3 : Nat) (Option.some Jvm.ClassFile.FieldType.boolean)).before args0 about1 = true := code_word (m := ⟨8, 1⟩) (meth := k8m1) (c := k8c1) (by decide +kernel) rfl rfl rfl (by decide +kernel)
set_option maxRecDepth 65536 in
theorem w_c7 : (Jvm.Cond.code ({ cls := "java/lang/String", name := "equals", desc := "(Ljava/lang/Object;)Z" } : Jvm.MethodName) jdk_42_method_66_code (3 : Nat) (Option.some Jvm.ClassFile.FieldType.boolean)).before args0 about1 = true := code_word (m := ⟨7, 2⟩) (meth := k7m2) (c := k7c2) (by decide +kernel) rfl rfl rfl (by decide +kernel)
set_option maxRecDepth 65536 in
theorem w_c8 : (Jvm.Cond.code ({ cls := "java/lang/StringLatin1", name := "equals", desc := "([B[B)Z" } : Jvm.MethodName) jdk_43_method_13_code (3 : Nat) (Option.some Jvm.ClassFile.FieldType.boolean)).before args0 about1 = true := code_word (m := ⟨9, 2⟩) (meth := k9m2) (c := k9c2) (by decide +kernel) rfl rfl rfl (by decide +kernel)
set_option maxRecDepth 65536 in
theorem w_c9 : (Jvm.Cond.code ({ cls := "java/lang/StringUTF16", name := "compress", desc := "([CII)[B" } : Jvm.MethodName) jdk_52_method_16_code (6 : Nat) (Option.some (Jvm.ClassFile.FieldType.array Jvm.ClassFile.FieldType.byte))).before args0 about1 = true := code_word (m := ⟨10, 2⟩) (meth := k10m2) (c := k10c2) (by decide +kernel) rfl rfl rfl (by decide +kernel)
set_option maxRecDepth 65536 in
theorem w_c10 : (Jvm.Cond.code ({ cls := "java/lang/StringUTF16", name := "compress", desc := "([CI[BII)I" } : Jvm.MethodName) jdk_52_method_21_code (7 : Nat) (Option.some Jvm.ClassFile.FieldType.int)).before args0 about1 = true := code_word (m := ⟨10, 3⟩) (meth := k10m3) (c := k10c3) (by decide +kernel) rfl rfl rfl (by decide +kernel)
set_option maxRecDepth 65536 in
theorem w_c11 : (Jvm.Cond.code ({ cls := "java/lang/StringUTF16", name := "coderFromArrayLen", desc := "([BI)B" } : Jvm.MethodName) jdk_52_method_15_code (2 : Nat) (Option.some Jvm.ClassFile.FieldType.byte)).before args0 about1 = true := code_word (m := ⟨10, 1⟩) (meth := k10m1) (c := k10c1) (by decide +kernel) rfl rfl rfl (by decide +kernel)
set_option maxRecDepth 65536 in
theorem w_c12 : (Jvm.Cond.code ({ cls := "java/lang/String", name := "valueOf", desc := "(C)Ljava/lang/String;" } : Jvm.MethodName) jdk_42_method_139_code (1 : Nat) (Option.some (Jvm.ClassFile.FieldType.object "java/lang/String"))).before args0 about1 = true := code_word (m := ⟨7, 3⟩) (meth := k7m3) (c := k7c3) (by decide +kernel) rfl rfl rfl (by decide +kernel)
set_option maxRecDepth 65536 in
theorem w_c13 : (Jvm.Cond.code ({ cls := "java/lang/StringLatin1", name := "canEncode", desc := "(C)Z" } : Jvm.MethodName) jdk_43_method_3_code (1 : Nat) (Option.some Jvm.ClassFile.FieldType.boolean)).before args0 about1 = true := code_word (m := ⟨9, 1⟩) (meth := k9m1) (c := k9c1) (by decide +kernel) rfl rfl rfl (by decide +kernel)
set_option maxRecDepth 65536 in
theorem w_c14 : (Jvm.Cond.code ({ cls := "java/lang/StringLatin1", name := "toBytes", desc := "(C)[B" } : Jvm.MethodName) jdk_43_method_46_code (1 : Nat) (Option.some (Jvm.ClassFile.FieldType.array Jvm.ClassFile.FieldType.byte))).before args0 about1 = true := code_word (m := ⟨9, 3⟩) (meth := k9m3) (c := k9c3) (by decide +kernel) rfl rfl rfl (by decide +kernel)
set_option maxRecDepth 65536 in
theorem w_c15 : (Jvm.Cond.code ({ cls := "java/lang/String", name := "<init>", desc := "([BB)V" } : Jvm.MethodName) jdk_42_method_151_code (3 : Nat) (Option.none : Option Jvm.ClassFile.FieldType)).before args0 about1 = true := code_word (m := ⟨7, 5⟩) (meth := k7m5) (c := k7c5) (by decide +kernel) rfl rfl rfl (by decide +kernel)
def codes1 : List Jvm.Cond := [Jvm.Cond.code x code maxLocals ret, Jvm.Cond.code ({ cls := "com/example/crete/crete/TreeItemEqualsPinLaw", name := "mk", desc := "(ICC)Ljava/lang/String;" } : Jvm.MethodName) method_2_code (3 : Nat) (Option.some (Jvm.ClassFile.FieldType.object "java/lang/String")), Jvm.Cond.code ({ cls := "java/lang/String", name := "<init>", desc := "([C)V" } : Jvm.MethodName) jdk_42_method_3_code (2 : Nat) (Option.none : Option Jvm.ClassFile.FieldType), Jvm.Cond.code ({ cls := "java/lang/String", name := "<init>", desc := "([CIILjava/lang/Void;)V" } : Jvm.MethodName) jdk_42_method_149_code (6 : Nat) (Option.none : Option Jvm.ClassFile.FieldType), Jvm.Cond.code ({ cls := "java/lang/Object", name := "<init>", desc := "()V" } : Jvm.MethodName) object_method_1_code (1 : Nat) (Option.none : Option Jvm.ClassFile.FieldType), Jvm.Cond.code ({ cls := "com/example/crete/crete/TreeItem", name := "<init>", desc := "(Ljava/lang/String;Z)V" } : Jvm.MethodName) prog_32_method_1_code (3 : Nat) (Option.none : Option Jvm.ClassFile.FieldType), Jvm.Cond.code ({ cls := "com/example/crete/crete/TreeItem", name := "equals", desc := "(Ljava/lang/Object;)Z" } : Jvm.MethodName) prog_32_method_4_code (3 : Nat) (Option.some Jvm.ClassFile.FieldType.boolean), Jvm.Cond.code ({ cls := "java/lang/String", name := "equals", desc := "(Ljava/lang/Object;)Z" } : Jvm.MethodName) jdk_42_method_66_code (3 : Nat) (Option.some Jvm.ClassFile.FieldType.boolean), Jvm.Cond.code ({ cls := "java/lang/StringLatin1", name := "equals", desc := "([B[B)Z" } : Jvm.MethodName) jdk_43_method_13_code (3 : Nat) (Option.some Jvm.ClassFile.FieldType.boolean), Jvm.Cond.code ({ cls := "java/lang/StringUTF16", name := "compress", desc := "([CII)[B" } : Jvm.MethodName) jdk_52_method_16_code (6 : Nat) (Option.some (Jvm.ClassFile.FieldType.array Jvm.ClassFile.FieldType.byte)), Jvm.Cond.code ({ cls := "java/lang/StringUTF16", name := "compress", desc := "([CI[BII)I" } : Jvm.MethodName) jdk_52_method_21_code (7 : Nat) (Option.some Jvm.ClassFile.FieldType.int), Jvm.Cond.code ({ cls := "java/lang/StringUTF16", name := "coderFromArrayLen", desc := "([BI)B" } : Jvm.MethodName) jdk_52_method_15_code (2 : Nat) (Option.some Jvm.ClassFile.FieldType.byte), Jvm.Cond.code ({ cls := "java/lang/String", name := "valueOf", desc := "(C)Ljava/lang/String;" } : Jvm.MethodName) jdk_42_method_139_code (1 : Nat) (Option.some (Jvm.ClassFile.FieldType.object "java/lang/String")), Jvm.Cond.code ({ cls := "java/lang/StringLatin1", name := "canEncode", desc := "(C)Z" } : Jvm.MethodName) jdk_43_method_3_code (1 : Nat) (Option.some Jvm.ClassFile.FieldType.boolean), Jvm.Cond.code ({ cls := "java/lang/StringLatin1", name := "toBytes", desc := "(C)[B" } : Jvm.MethodName) jdk_43_method_46_code (1 : Nat) (Option.some (Jvm.ClassFile.FieldType.array Jvm.ClassFile.FieldType.byte)), Jvm.Cond.code ({ cls := "java/lang/String", name := "<init>", desc := "([BB)V" } : Jvm.MethodName) jdk_42_method_151_code (3 : Nat) (Option.none : Option Jvm.ClassFile.FieldType)]
set_option maxRecDepth 65536 in
theorem codes_eq : words1.filter isCode = codes1 := rfl
theorem w_codes : ∀ c ∈ words1.filter isCode, c.before args0 about1 = true := by
  rw [codes_eq]
  intro c hc
  simp only [codes1, List.mem_cons, List.not_mem_nil, or_false] at hc
  rcases hc with rfl | rfl | rfl | rfl | rfl | rfl | rfl | rfl | rfl | rfl | rfl | rfl | rfl | rfl | rfl | rfl
  · exact w_c0
  · exact w_c1
  · exact w_c2
  · exact w_c3
  · exact w_c4
  · exact w_c5
  · exact w_c6
  · exact w_c7
  · exact w_c8
  · exact w_c9
  · exact w_c10
  · exact w_c11
  · exact w_c12
  · exact w_c13
  · exact w_c14
  · exact w_c15
set_option maxRecDepth 65536 in
theorem w_t1 : (words1.take 24).all (fun c => isCode c || c.before args0 about1) = true := by decide +kernel
set_option maxRecDepth 65536 in
theorem w_t2 : ((words1.drop 24).take 24).all (fun c => isCode c || c.before args0 about1) = true := by decide +kernel
set_option maxRecDepth 65536 in
theorem w_t3 : (((words1.drop 24).drop 24).take 24).all (fun c => isCode c || c.before args0 about1) = true := by decide +kernel
set_option maxRecDepth 65536 in
theorem w_t4 : (((words1.drop 24).drop 24).drop 24).all (fun c => isCode c || c.before args0 about1) = true := by decide +kernel
theorem w_tables : (allAtoms (Jvm.Cond.code x code maxLocals ret :: tables_1)).before args0 about1 = true := by
  rw [allAtoms_all]
  show words1.all (fun c => c.before args0 about1) = true
  refine all_split ?_ w_codes
  rw [← List.take_append_drop 24 words1, List.all_append, w_t1, ← List.take_append_drop 24 (words1.drop 24), List.all_append, w_t2, ← List.take_append_drop 24 ((words1.drop 24).drop 24), List.all_append, w_t3, w_t4]
  rfl
set_option maxRecDepth 65536 in
theorem w_rest : rest_1_c.before args0 about1 = true := by decide +kernel
set_option maxRecDepth 65536 in
theorem w_case : (Jvm.Cond.and given_1 narrow_1).before args0 about1 = true := by decide +kernel
set_option maxRecDepth 65536 in
theorem w_consts : constsHeld consts_1 about1 := Jvm.Lit.constsHeldB_iff.mp (by decide +kernel)
theorem w_applies : (headSpec (Jvm.Cond.code x code maxLocals ret :: tables_1) room_1).applies x e0.platform about1 = true :=
  (Spec.applies_iff w_frames).mpr ⟨w_running, w_runnable, w_alone, w_named, w_hears, w_ripe, w_room, w_tables⟩
theorem atStart : AtStart classFile x code maxLocals ret World_1 tables_1 room_1 Calls_1 rest_1 Pre_1 launch0 p0 e0 about1 theMethod args0 below0 :=
  ⟨lists_1, trivial, launch0.admits_env _ _ _, launch0.least_env, fairChoices_fair.cas, fairChoices_fair.clock, w_frames, w_args, w_heap, w_applies, ⟨w_consts, trivial⟩, w_rest, w_case⟩
end start1
theorem witness_1 : WitnessClaimed_1 := ⟨start1.p0, start1.e0, start1.about1, start1.theMethod, start1.args0, start1.below0, start1.atStart⟩
end Jvm.Pilot.@@N@@
