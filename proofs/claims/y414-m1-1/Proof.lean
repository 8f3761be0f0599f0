import JvmDerived
import JvmDerived.Pilot.@@N@@Statement
import JvmDerived.Pilot.@@N@@Code
set_option linter.unusedVariables false
set_option linter.unusedSimpArgs false
namespace Jvm.RoadKit
open Sem ClassFile Op Lib Jvm.Stand Jvm.Free Jvm.LawKit
section New
variable {p : Program} {l : Launch} {e : Env} {R : Room} {s : State} {m : MethodId} {args : Array Value} {below : List Frame} {meth : Method} {c : Code} {T : State} {locs : List Loc} {cells slots : Nat}
theorem own_retI (X : Stand p l e R s m args below meth c T locs cells slots) (hx : p.tables.exec = Jvm.exec) {pc : Nat} {Ls : Array Slot} {z : Int32} {rest : List Value} (hret : meth.sig.returnType = some .int) (hd : decode c.code pc = .ok (.ireturn, 1)) {fs : List Frame}
    (hl : ∀ (f : JFrame) (acts : List Action), f.method = m → f.locked = none → f.entered = [] → (doReturn e (T.setTop f) acts (some (.int z))).1 = T.setFrames fs) : Steps p.tables e below (T.setTop (mkF m pc Ls (.int z :: rest))) (T.setFrames fs) :=
  retOut X hx hret rfl (Or.inl ⟨rfl, Or.inl rfl, z, rfl⟩) hd hl
theorem own_retJ (X : Stand p l e R s m args below meth c T locs cells slots) (hx : p.tables.exec = Jvm.exec) {pc : Nat} {Ls : Array Slot} {z : Int64} {rest : List Value} (hret : meth.sig.returnType = some .long) (hd : decode c.code pc = .ok (.lreturn, 1)) {fs : List Frame}
    (hl : ∀ (f : JFrame) (acts : List Action), f.method = m → f.locked = none → f.entered = [] → (doReturn e (T.setTop f) acts (some (.long z))).1 = T.setFrames fs) : Steps p.tables e below (T.setTop (mkF m pc Ls (.long z :: rest))) (T.setFrames fs) :=
  retOut X hx hret rfl (Or.inr (Or.inl ⟨rfl, rfl, z, rfl⟩)) hd hl
end New
/-- the rest of a walk: from here the run comes to an end with Q -/
def own_Fin (p : Program) (e : Env) (below : List Frame) (A : State) (Q : Outcome → State → Prop) : Prop :=
  ∃ t o, Steps p.tables e below A t ∧ t.status = .running ∧ Ended t below o ∧ Q o t
theorem own_go {p : Program} {e : Env} {below : List Frame} {A B : State} {Q : Outcome → State → Prop} (st : ∀ t, Steps p.tables e below A t → Steps p.tables e below B t) (k : own_Fin p e below A Q) : own_Fin p e below B Q := by
  obtain ⟨t, o, h, r⟩ := k; exact ⟨t, o, st t h, r⟩
theorem own_start {p : Program} {e : Env} {below : List Frame} {T : State} {g g' : JFrame} {Q : Outcome → State → Prop} (q : g = g') (k : own_Fin p e below (T.setTop g') Q) :
    ∃ t o, Steps p.tables e below (T.setTop g) t ∧ t.status = .running ∧ Ended t below o ∧ Q o t := by subst q; exact k
theorem own_cat {v : Value} (h : v.isRef = true) : v.category = 1 := by cases v <;> simp [Value.isRef] at h <;> rfl
theorem own_st1 {l l' : Array Slot} {i : Nat} {v : Value} (hold : (match l[i]? with | some .unset => true | some (.val w) => w.category == 1 | _ => false) = true) (hv : v.isRef = true) (e : l.setIfInBounds i (.val v) = l') : storeLocals l i v = some l' := by
  subst e
  cases h : l[i]? with
  | none => simp [h] at hold
  | some o =>
    refine Jvm.Free.XS.store1 h ?_ (own_cat hv)
    cases o with
    | unset => exact Or.inl rfl
    | second => simp [h] at hold
    | val w => simp [h] at hold; exact Or.inr ⟨w, rfl, hold⟩
theorem own_st2 {l l' : Array Slot} {i : Nat} {v : Value} {o : Slot} (hold : l[i]? = some o) (ho : One o) (hv : v.category = 1) (e : l.setIfInBounds i (.val v) = l') : storeLocals l i v = some l' := by
  subst e; exact Jvm.Free.XS.store1 hold ho hv
theorem own_fitR {v : Value} {C : String} (h : v.isRef = true) : fits (.object C) v = true := by cases v <;> simp [Value.isRef, fits] at h ⊢
theorem own_osz {Z : State} {n0 : Nat} {h : Heap} (O : Old Z n0 h) : n0 ≤ h.size := O.1 ▸ O.2.1
def own_bi (P : Prop) [Decidable P] : Int32 := if P then 1 else 0
theorem own_bi1 {P : Prop} [Decidable P] (h : P) : own_bi P = 1 := if_pos h
theorem own_bi0 {P : Prop} [Decidable P] (h : ¬ P) : own_bi P = 0 := if_neg h
theorem own_bz {P : Prop} [Decidable P] (h : ¬ P) : own_bi P = 0 := if_neg h
theorem own_bn {P : Prop} [Decidable P] (h : P) : ¬ own_bi P = 0 := by rw [own_bi1 h]; decide
theorem own_narb {P : Prop} [Decidable P] : nar .boolean (own_bi P) = own_bi P := by unfold own_bi; split <;> decide
theorem own_narbi (P : Prop) [Decidable P] : narrow .boolean (.int (own_bi P)) = .int (own_bi P) := by unfold own_bi; split <;> rfl
theorem own_fitbi (P : Prop) [Decidable P] : fits .boolean (.int (own_bi P)) = true := by unfold own_bi; split <;> rfl
theorem own_e1 {P : Prop} [Decidable P] (h : P) : ¬ own_bi P = 0 := by rw [own_bi1 h]; decide
theorem own_e0 {P : Prop} [Decidable P] (h : ¬ P) : ¬ own_bi P = 1 := by rw [own_bi0 h]; decide
theorem own_retB {p : Program} {l : Launch} {e : Env} {R : Room} {s : State} {m : MethodId} {args : Array Value} {below : List Frame} {meth : Method} {c : Code} {T : State} {locs : List Loc} {cells slots : Nat} (X : Stand p l e R s m args below meth c T locs cells slots) (hx : p.tables.exec = Jvm.exec) {pc : Nat} {Ls : Array Slot} {P : Prop} [Decidable P] {rest : List Value} (hret : meth.sig.returnType = some .boolean) (hd : decode c.code pc = .ok (.ireturn, 1)) {fs : List Frame}
    (hl : ∀ (f : JFrame) (acts : List Action), f.method = m → f.locked = none → f.entered = [] → (doReturn e (T.setTop f) acts (some (.int (own_bi P)))).1 = T.setFrames fs) : Steps p.tables e below (T.setTop (mkF m pc Ls (.int (own_bi P) :: rest))) (T.setFrames fs) :=
  retN X hx (t := .boolean) hret (by simp) hd (by rw [own_narb]; exact hl)
theorem own_eqv {args : Array Value} {f s : State} {o : Option Outcome} {idx : List Nat} {a b : Term} {v : Value} (h : (Cond.eq a b).value args f o s idx = some true) (hb : b.eval args f o idx s = some v) (hk : (match v with | .int _ => true | .long _ => true | .ref _ => true | .null => true | _ => false) = true) : a.eval args f o idx s = some v := by
  obtain ⟨x, y, h1, h2, h3, h4⟩ := cmp_v (Or.inl h)
  rw [hb] at h2; cases h2
  rw [h1]
  cases x <;> cases v <;> simp [Kin, Value.isRef] at h3 h4 hk <;> simp [Cond.value, h1, hb] at h ⊢ <;> exact h
theorem own_eqBi {v : Option Value} {P : Prop} [Decidable P] (h : (v = some (.int 1) ∧ P) ∨ (v = some (.int 0) ∧ ¬ P)) : v = some (.int (own_bi P)) := by
  rcases h with ⟨h, q⟩ | ⟨h, q⟩
  · rw [h, own_bi1 q]
  · rw [h, own_bi0 q]
theorem own_up {cs : List Int32} (h : ∀ c ∈ cs, ¬ c < 0 ∧ ¬ (255 : Int32) < c) : ∀ c ∈ cs, ¬ c < 0 ∧ ¬ (65535 : Int32) < c := fun c hc => ⟨(h c hc).1, fun q => (h c hc).2 (by
  rw [Int32.lt_iff_toInt_lt] at q ⊢
  have e1 : (65535 : Int32).toInt = 65535 := by decide
  have e2 : (255 : Int32).toInt = 255 := by decide
  omega)⟩
theorem own_narid {a : Int32} (h : ¬ a < 0 ∧ ¬ (255 : Int32) < a) : nar .char a = a := by
  have e0 : (0 : Int32).toInt = 0 := by decide
  have e2 : (255 : Int32).toInt = 255 := by decide
  obtain ⟨h1, h2⟩ := h
  rw [Int32.lt_iff_toInt_lt] at h1 h2
  have q := c_i2c a
  rw [← Int32.toInt_inj]
  show a.toUInt32.toUInt16.toUInt32.toInt32.toInt = a.toInt
  omega
theorem own_nez {args : Array Value} {f s : State} {o : Option Outcome} {idx : List Nat} {t : Term} {z : Int32} (ev : t.eval args f o idx s = some (.int z)) (h : (Cond.not (Cond.eq t (Term.int 0))).value args f o s idx = some true) : ¬ z = 0 := by
  intro q; subst q; have h' := not_v h; simp [Cond.value, ev, Term.eval] at h'
theorem own_notOf {Z : State} {a0 : Array Value} {C O K : String} {n : Nat} (w : (Cond.superclass C O).before a0 Z = true) (w0 : (Cond.noSuperclass O).before a0 Z = true) (wi : (Cond.instantiable K n).before a0 Z = true) (hn : C ≠ K) (ho : O ≠ K) : ∃ c t, Z.vm.findClass C = some c ∧ Z.vm.findClass K = some t ∧ Z.vm.assignable c t = false := by
  obtain ⟨t, kt, g0, g2, g5, g7, -⟩ := Cond.instantiable_spec wi
  obtain ⟨c, h0⟩ := found_sup w
  obtain ⟨p, k, kp, h1, h2, h3, h4, h5, -, h7⟩ := Cond.superclass_spec h0 w
  obtain ⟨c', k', j1, j2, j3, -, -⟩ := Cond.noSuperclass_spec w0
  cases j1.symm.trans h1
  have ne := ids_ne h0 g0 hn
  have neo := ids_ne h1 g0 ho
  have g7' : kt.isInterface = false := by cases h : kt.isInterface <;> simp [h] at g7 ⊢
  have hs : ∀ fuel, Z.vm.isSubclassAux fuel c t = false := by
    intro fuel
    cases fuel with
    | zero => rfl
    | succ f =>
      cases f with
      | zero => simp [Vm.isSubclassAux, ne, h2, h4]
      | succ f => simp [Vm.isSubclassAux, ne, h2, h4, neo, j2, j3]
  refine ⟨c, t, h0, g0, ?_⟩
  show Z.vm.assignableAux (255 + 1) c t = false
  simp [Vm.assignableAux, ne, h2, g2, h5, g5, g7', Vm.isSubclass, hs]
theorem own_selS {args : Array Value} {s : State} {y w z : MethodName} {C : String} (h : (Cond.selects C w z).before args s = true) (e : z.cls = y.cls) (hpriv : s.PrivateAt y) (hinst : (Cond.instanceMethod y).before args s = true) (hy : y.cls ≠ "java/lang/invoke/MethodHandle" ∧ y.cls ≠ "java/lang/invoke/VarHandle") : (Cond.selects y.cls y y).before args s = true := by
  obtain ⟨c2, r2, m2, q1, q2, q3, q4, kP, hkP, hkPi⟩ := Cond.selects_spec h
  exact selects_self_of_private (c := m2.cls) (by rw [← e]; exact findClass_of_methodNamed q3) hkP hkPi hpriv hinst hy
theorem own_same {args : Array Value} {s : State} {y w z : MethodName} {C : String} (hinst : (Cond.instanceMethod y).before args s = true) (h : (Cond.selects C w z).before args s = true) (e : z.cls = y.cls) (hy : y.cls ≠ "java/lang/invoke/MethodHandle" ∧ y.cls ≠ "java/lang/invoke/VarHandle") : (Cond.sameMethod y.cls y.cls y.name y.desc).before args s = true := by
  obtain ⟨c2, r2, m2, q1, q2, q3, q4, kP, hkP, hkPi⟩ := Cond.selects_spec h
  obtain ⟨mk, methM, hnamed, hmethM, -, -⟩ := Cond.instanceMethod_spec hinst
  have hf : s.methodFound? y.cls y.name y.desc = some mk := State.methodFound?_of_named hnamed hy
  have hc : s.vm.findClass y.cls = some m2.cls := by rw [← e]; exact findClass_of_methodNamed q3
  have hn : s.methodNamed? ⟨y.cls, y.name, y.desc⟩ = some mk := hnamed
  simp [Cond.before, Cond.holds, Cond.value, hc, hf, hn, hkP, hkPi]
theorem own_eqE {T h : Heap} {a : Addr} {c : Cell} (e : T = h) (q : h[a]? = some c) : T[a]? = some c := by rw [e]; exact q
theorem own_nf {args : Array Value} {s : State} {y w z : MethodName} {C : String} (h : (Cond.selects C w z).before args s = true) (e : z.cls = y.cls) : NotFace s y := fun r0 h0 => by
  obtain ⟨c2, r2, m2, q1, q2, q3, q4, kP, hkP, hkPi⟩ := Cond.selects_spec h
  have a := findClass_of_methodNamed q3
  have b := findClass_of_methodNamed h0
  rw [e] at a
  have hc : m2.cls = r0.cls := Option.some.inj (a.symm.trans b)
  exact ⟨kP, by rw [← hc]; exact hkP, hkPi⟩
theorem own_selI {args : Array Value} {s : State} {y : MethodName} {n : Nat} (h : (Cond.instantiable y.cls n).before args s = true) (hpriv : s.PrivateAt y) (hinst : (Cond.instanceMethod y).before args s = true) (hy : y.cls ≠ "java/lang/invoke/MethodHandle" ∧ y.cls ≠ "java/lang/invoke/VarHandle") : (Cond.selects y.cls y y).before args s = true := by
  obtain ⟨c, k, h1, h2, h3, h4, -⟩ := Cond.instantiable_spec h
  exact selects_self_of_private h1 h2 (by cases hq : k.isInterface <;> simp [hq] at h4 ⊢) hpriv hinst hy
theorem own_selP {args : Array Value} {s : State} {y : MethodName} {S : String} (h : (Cond.superclass y.cls S).before args s = true) (hpriv : s.PrivateAt y) (hinst : (Cond.instanceMethod y).before args s = true) (hy : y.cls ≠ "java/lang/invoke/MethodHandle" ∧ y.cls ≠ "java/lang/invoke/VarHandle") : (Cond.selects y.cls y y).before args s = true := by
  obtain ⟨c, hc⟩ := found_sup h
  obtain ⟨p, k, kp, h1, h2, h3, h4, h5, h6, h7⟩ := Cond.superclass_spec hc h
  exact selects_self_of_private hc h2 h7 hpriv hinst hy
end Jvm.RoadKit
/- laws to paste: Road.backV, Road.eqW, Road.codOf (cut by pick.py; bodies as the Statement names them) -/
namespace Jvm.Pilot.@@N@@
namespace StrChars
open Jvm Sem ClassFile Op Lib Jvm.Stand Jvm.Free.XT Jvm.Free.ALB Jvm.Free.JM Jvm.Free
open Jvm.Lib.Cold (StaticIs)
/-- a char array whose places are chars -/
def Ch (a : Addr) (A : Cell) (U : State) : Prop := Arr .char a A U ∧ Typed .char A
theorem Ch.mv {a : Addr} {A : Cell} {U U' : State} (h : Ch a A U) (hal : U.vm.Alike U'.vm) (hh : U'.heap = U.heap) : Ch a A U' := ⟨h.1.mv hal hh, h.2⟩
theorem Ch.keep {a : Addr} {A : Cell} {U U' : State} (h : Ch a A U) (hal : U.vm.Alike U'.vm) (hk : U'.heap[a]? = some A) : Ch a A U' := ⟨h.1.keep hal hk, h.2⟩
/-- what place i of a char[]'s cell holds -/
def cv (A : Cell) (i : Nat) : Int32 := match A.slots[i]? with | some (.int x) => x | _ => 0
theorem Ch.get {a : Addr} {A : Cell} {U : State} (h : Ch a A U) {i : Nat} (hi : i < A.slots.size) : A.slots[i]? = some (.int (cv A i)) := by
  have e := Array.getElem?_eq_getElem hi
  have f := h.2 i _ e
  unfold cv; rw [e]
  generalize A.slots[i] = v at f
  cases v <;> simp [fits] at f ⊢
/-- the byte that i2b leaves of a char -/
def lo8 (x : Int32) : Int32 := x.toInt8.toInt32
theorem fits_lo8 (y : Int32) : fits .byte (.int (lo8 y)) = true := by
  have h1 := y.toInt8.le_toInt
  have h2 := y.toInt8.toInt_lt
  simp only [lo8, fits, Bool.and_eq_true, decide_eq_true_eq, Int32.le_iff_toInt_le, Int8.toInt_toInt32, show (-128 : Int32).toInt = -128 from by decide, show (127 : Int32).toInt = 127 from by decide]
  omega
/-- A' is A but that each place j of lo .. hi - 1 holds f j -/
def Laid (A A' : Cell) (lo hi : Nat) (f : Nat → Value) : Prop := A'.cls = A.cls ∧ A'.vm = A.vm ∧ A'.slots.size = A.slots.size ∧ ∀ i, A'.slots[i]? = if lo ≤ i ∧ i < hi then some (f i) else A.slots[i]?
theorem Laid.zero (A : Cell) (lo : Nat) (f : Nat → Value) : Laid A A lo (lo + 0) f := ⟨rfl, rfl, rfl, fun i => by rw [if_neg (by omega)]⟩
theorem Laid.step {A Ak : Cell} {lo k : Nat} {f : Nat → Value} {v : Value} (h : Laid A Ak lo k f) (hlo : lo ≤ k) (hk : k < Ak.slots.size) (hv : v = f k) : Laid A (Ak.setSlot k v) lo (k + 1) f := by
  refine ⟨h.1, h.2.1, by simpa [Cell.setSlot] using h.2.2.1, fun i => ?_⟩
  by_cases e : k = i
  · subst e; rw [Cell.slots_setSlot_self v hk, if_pos (by omega), hv]
  · rw [Cell.slots_setSlot_ne v e, h.2.2.2 i]
    by_cases q : lo ≤ i ∧ i < k
    · rw [if_pos q, if_pos (by omega)]
    · rw [if_neg q, if_neg (by omega)]
def U16 : String := "java/lang/StringUTF16"
namespace Cmp5
def yN : MethodName := ⟨"java/lang/StringUTF16", "compress", "([CI[BII)I"⟩
abbrev yB : ByteArray := jdk_52_method_21_code
theorem d0 : decode yB 0 = .ok (.iconst 0, 1) := by decide +kernel
theorem d1 : decode yB 1 = .ok (.istore 5, 2) := by decide +kernel
theorem d3 : decode yB 3 = .ok (.iload 5, 2) := by decide +kernel
theorem d5 : decode yB 5 = .ok (.iload 4, 2) := by decide +kernel
theorem d7 : decode yB 7 = .ok (.if_icmp (.ge) 37, 3) := by decide +kernel
theorem d10 : decode yB 10 = .ok (.aload_n 0, 1) := by decide +kernel
theorem d11 : decode yB 11 = .ok (.iload_n 1, 1) := by decide +kernel
theorem d12 : decode yB 12 = .ok (.caload, 1) := by decide +kernel
theorem d13 : decode yB 13 = .ok (.istore 6, 2) := by decide +kernel
theorem d15 : decode yB 15 = .ok (.iload 6, 2) := by decide +kernel
theorem d17 : decode yB 17 = .ok (.sipush 255, 3) := by decide +kernel
theorem d20 : decode yB 20 = .ok (.if_icmp (.le) 6, 3) := by decide +kernel
theorem d26 : decode yB 26 = .ok (.aload_n 2, 1) := by decide +kernel
theorem d27 : decode yB 27 = .ok (.iload_n 3, 1) := by decide +kernel
theorem d28 : decode yB 28 = .ok (.iload 6, 2) := by decide +kernel
theorem d30 : decode yB 30 = .ok (.i2b, 1) := by decide +kernel
theorem d31 : decode yB 31 = .ok (.bastore, 1) := by decide +kernel
theorem d32 : decode yB 32 = .ok (.iinc 1 1, 3) := by decide +kernel
theorem d35 : decode yB 35 = .ok (.iinc 3 1, 3) := by decide +kernel
theorem d38 : decode yB 38 = .ok (.iinc 5 1, 3) := by decide +kernel
theorem d41 : decode yB 41 = .ok (.goto (-38), 3) := by decide +kernel
theorem d44 : decode yB 44 = .ok (.iload 4, 2) := by decide +kernel
theorem d46 : decode yB 46 = .ok (.ireturn, 1) := by decide +kernel
def site : List Cond := []
def tab : Cond := tabOf yN yB 7 (some .int) site
def P (b : Addr) (A : Cell) (d : Addr) (B : Cell) (o q len : Nat) (args : Array Value) (s : State) : Prop := args = #[.ref b, .int (Int32.ofNat o), .ref d, .int (Int32.ofNat q), .int (Int32.ofNat len)] ∧ Ch b A s ∧ Arr .byte d B s ∧ b ≠ d ∧ o + len ≤ A.slots.size ∧ q + len ≤ B.slots.size ∧ ∀ i, i < len → ¬ 255 < cv A (o + i)
def E (b : Addr) (A : Cell) (d : Addr) (B : Cell) (o q len : Nat) (r : Option Value) (s u : State) : Prop := r = some (.int (Int32.ofNat len)) ∧ ∃ B', Put d B' s u ∧ Laid B B' q (q + len) (fun j => Value.int (lo8 (cv A (o + (j - q)))))
/-- no char of the range above 255: len; the places written hold each char's low byte -/
theorem law (l : Launch) (b : Addr) (A : Cell) (d : Addr) (B : Cell) (o q len : Nat) : Law l yN 5 5 0 0 yB 7 (some .int) site (P b A d B o q len) (E b A d B o q len) (copyLocs d q len) 0 0 := by
  refine Law.of_walk (plainFor_of_name (by decide +kernel)) (by decide +kernel) (by decide +kernel) (by decide) (fun _ _ h => by rw [h.1]; rfl) (fun _ U U' hal hh h => ⟨h.1, h.2.1.mv hal hh, h.2.2.1.mv hal hh, h.2.2.2⟩) (fun r U U' V V' h1 hal h2 h => ⟨h.1, h.2.elim fun B' q => ⟨B', q.1.mv h1 h2, q.2⟩⟩) ?_
  intro p e s m args below meth c s₁ X0 hexec hbytes hml hret hlk hnm hown hh0 W hP
  obtain ⟨rfl, hA, hB, hne, l1, l2, hp⟩ := hP
  have c1 : Steps p.tables e below (s₁.setTop (entryFrame m #[.ref b, .int (Int32.ofNat o), .ref d, .int (Int32.ofNat q), .int (Int32.ofNat len)] 7)) (s₁.setTop (mkF m 0 #[.val (.ref b), .val (.int (Int32.ofNat o)), .val (.ref d), .val (.int (Int32.ofNat q)), .val (.int (Int32.ofNat len)), .unset, .unset] [])) := entry rfl
  have hA0 := hA.1.mv X0.warmed.alike hh0
  have hB0 := hB.mv X0.warmed.alike hh0
  have a31 := hA.1.2.2.2
  have c2 : Steps p.tables e below (s₁.setTop (entryFrame m #[.ref b, .int (Int32.ofNat o), .ref d, .int (Int32.ofNat q), .int (Int32.ofNat len)] 7)) (s₁.setTop (mkF m 3 #[.val (.ref b), .val (.int (Int32.ofNat o)), .val (.ref d), .val (.int (Int32.ofNat q)), .val (.int (Int32.ofNat len)), .val (.int 0), .unset] [])) := c1.trans (by
    refine iconstV X0.here hexec rfl 0 (hb hbytes d0) (by decide) ?_
    refine XS.istore X0.here hexec rfl (hb hbytes d1) rfl rfl ?_
    exact Steps.refl _)
  have loop : ∀ (r i : Nat), i + r = len → ∀ (z : Slot), (z = .unset ∨ ∃ w, z = .val w ∧ w.category = 1) → ∀ (Tl : State) (Bk : Cell), Stand p l e { frames := 0, locals := 0, cells := 0, slots := 0 } s m #[.ref b, .int (Int32.ofNat o), .ref d, .int (Int32.ofNat q), .int (Int32.ofNat len)] below meth c Tl ([] ++ copyLocs d q i) 0 0 → Put d Bk s₁ Tl → Laid B Bk q (q + i) (fun j => Value.int (lo8 (cv A (o + (j - q))))) →
      Steps p.tables e below (s₁.setTop (entryFrame m #[.ref b, .int (Int32.ofNat o), .ref d, .int (Int32.ofNat q), .int (Int32.ofNat len)] 7)) (Tl.setTop (mkF m 3 #[.val (.ref b), .val (.int (Int32.ofNat (o + i))), .val (.ref d), .val (.int (Int32.ofNat (q + i))), .val (.int (Int32.ofNat len)), .val (.int (Int32.ofNat i)), z] [])) → ∃ (T' : State) (B' : Cell) (z' : Slot), Stand p l e { frames := 0, locals := 0, cells := 0, slots := 0 } s m #[.ref b, .int (Int32.ofNat o), .ref d, .int (Int32.ofNat q), .int (Int32.ofNat len)] below meth c T' ([] ++ copyLocs d q len) 0 0 ∧ Put d B' s₁ T' ∧ Laid B B' q (q + len) (fun j => Value.int (lo8 (cv A (o + (j - q))))) ∧
      Steps p.tables e below (s₁.setTop (entryFrame m #[.ref b, .int (Int32.ofNat o), .ref d, .int (Int32.ofNat q), .int (Int32.ofNat len)] 7)) (T'.setTop (mkF m 3 #[.val (.ref b), .val (.int (Int32.ofNat (o + len))), .val (.ref d), .val (.int (Int32.ofNat (q + len))), .val (.int (Int32.ofNat len)), .val (.int (Int32.ofNat len)), z'] [])) := by
    intro r
    induction r with
    | zero =>
      intro i hi z hz Tl Bk Xl pl fl cl
      have hil : i = len := by omega
      rw [hil] at Xl fl cl
      exact ⟨Tl, Bk, z, Xl, pl, fl, cl⟩
    | succ r ih =>
      intro i hi z hz Tl Bk Xl pl fl cl
      have all := X0.warmed.alike.symm.trans Xl.warmed.alike
      have hAl := hA0.keep all (pl.other hne hA0.1)
      have hBk := hB0.like all pl.1 fl.1 fl.2.1 fl.2.2.1
      have hlt : q + i < Bk.slots.size := by rw [fl.2.2.1]; omega
      have c3 : Steps p.tables e below (s₁.setTop (entryFrame m #[.ref b, .int (Int32.ofNat o), .ref d, .int (Int32.ofNat q), .int (Int32.ofNat len)] 7)) (Tl.setTop (mkF m 12 #[.val (.ref b), .val (.int (Int32.ofNat (o + i))), .val (.ref d), .val (.int (Int32.ofNat (q + i))), .val (.int (Int32.ofNat len)), .val (.int (Int32.ofNat i)), z] [.int (Int32.ofNat (o + i)), .ref b])) := cl.trans (by
        refine XS.iload Xl.here hexec rfl (hb hbytes d3) rfl ?_
        refine XS.iload Xl.here hexec rfl (hb hbytes d5) rfl ?_
        refine XS.icmpNo Xl.here hexec rfl (hb hbytes d7) rfl (ii_ge_f (lt32 (by omega) (by omega))) ?_
        refine XS.aloadN Xl.here hexec rfl (hb hbytes d10) rfl rfl ?_
        refine XS.iloadN Xl.here hexec rfl (hb hbytes d11) rfl ?_
        exact Steps.refl _)
      have c4 : Steps p.tables e below (s₁.setTop (entryFrame m #[.ref b, .int (Int32.ofNat o), .ref d, .int (Int32.ofNat q), .int (Int32.ofNat len)] 7)) (Tl.setTop (mkF m 13 #[.val (.ref b), .val (.int (Int32.ofNat (o + i))), .val (.ref d), .val (.int (Int32.ofNat (q + i))), .val (.int (Int32.ofNat len)), .val (.int (Int32.ofNat i)), z] [.int (cv A (o + i))])) := c3.trans (by
        refine Xl.aget hexec hAl rfl (hA.get (i := o + i) (by omega)) rfl rfl (hb hbytes d12) ?_
        exact Steps.refl _)
      have c5 : Steps p.tables e below (s₁.setTop (entryFrame m #[.ref b, .int (Int32.ofNat o), .ref d, .int (Int32.ofNat q), .int (Int32.ofNat len)] 7)) (Tl.setTop (mkF m 15 #[.val (.ref b), .val (.int (Int32.ofNat (o + i))), .val (.ref d), .val (.int (Int32.ofNat (q + i))), .val (.int (Int32.ofNat len)), .val (.int (Int32.ofNat i)), .val (.int (cv A (o + i)))] [])) := c4.trans (by
        refine XS.istoreS Xl.here hexec rfl (hb hbytes d13) rfl rfl hz ?_
        exact Steps.refl _)
      have c6 : Steps p.tables e below (s₁.setTop (entryFrame m #[.ref b, .int (Int32.ofNat o), .ref d, .int (Int32.ofNat q), .int (Int32.ofNat len)] 7)) (Tl.setTop (mkF m 31 #[.val (.ref b), .val (.int (Int32.ofNat (o + i))), .val (.ref d), .val (.int (Int32.ofNat (q + i))), .val (.int (Int32.ofNat len)), .val (.int (Int32.ofNat i)), .val (.int (cv A (o + i)))] [.int (lo8 (cv A (o + i))), .int (Int32.ofNat (q + i)), .ref d])) := c5.trans (by
        refine XS.iload Xl.here hexec rfl (hb hbytes d15) rfl ?_
        refine sipushV Xl.here hexec rfl 255 (hb hbytes d17) (by decide) ?_
        refine XS.icmpYes Xl.here hexec rfl (pc0 := 20) rfl (hb hbytes d20) rfl (ii_le_t (hp i (by omega))) (by decide) rfl ?_
        refine XS.aloadN Xl.here hexec rfl (hb hbytes d26) rfl rfl ?_
        refine XS.iloadN Xl.here hexec rfl (hb hbytes d27) rfl ?_
        refine XS.iload Xl.here hexec rfl (hb hbytes d28) rfl ?_
        refine i2b Xl.here hexec rfl (hb hbytes d30) rfl ?_
        exact Steps.refl _)
      obtain ⟨T7, X7, p7, st7⟩ := Xl.aput hexec hBk rfl hlt rfl (fits_lo8 (cv A (o + i))) (g := (mkF m 31 #[.val (.ref b), .val (.int (Int32.ofNat (o + i))), .val (.ref d), .val (.int (Int32.ofNat (q + i))), .val (.int (Int32.ofNat len)), .val (.int (Int32.ofNat i)), .val (.int (cv A (o + i)))] [.int (lo8 (cv A (o + i))), .int (Int32.ofNat (q + i)), .ref d])) rfl (rest := []) rfl (hb hbytes d31)
      have c8 : Steps p.tables e below (s₁.setTop (entryFrame m #[.ref b, .int (Int32.ofNat o), .ref d, .int (Int32.ofNat q), .int (Int32.ofNat len)] 7)) (T7.setTop (mkF m 32 #[.val (.ref b), .val (.int (Int32.ofNat (o + i))), .val (.ref d), .val (.int (Int32.ofNat (q + i))), .val (.int (Int32.ofNat len)), .val (.int (Int32.ofNat i)), .val (.int (cv A (o + i)))] [])) := c6.trans (st7 _ (Steps.refl _))
      have c9 : Steps p.tables e below (s₁.setTop (entryFrame m #[.ref b, .int (Int32.ofNat o), .ref d, .int (Int32.ofNat q), .int (Int32.ofNat len)] 7)) (T7.setTop (mkF m 3 #[.val (.ref b), .val (.int (Int32.ofNat (o + i) + 1)), .val (.ref d), .val (.int (Int32.ofNat (q + i) + 1)), .val (.int (Int32.ofNat len)), .val (.int (Int32.ofNat i + 1)), .val (.int (cv A (o + i)))] [])) := c8.trans (by
        refine iincV X7.here hexec rfl 1 (hb hbytes d32) (by decide) rfl rfl ?_
        refine iincV X7.here hexec rfl 1 (hb hbytes d35) (by decide) rfl rfl ?_
        refine iincV X7.here hexec rfl 1 (hb hbytes d38) (by decide) rfl rfl ?_
        refine XS.goto X7.here hexec rfl (pc0 := 41) rfl (hb hbytes d41) (by decide) rfl ?_
        exact Steps.refl _)
      have c10 : Steps p.tables e below (s₁.setTop (entryFrame m #[.ref b, .int (Int32.ofNat o), .ref d, .int (Int32.ofNat q), .int (Int32.ofNat len)] 7)) (T7.setTop (mkF m 3 #[.val (.ref b), .val (.int (Int32.ofNat (o + (i + 1)))), .val (.ref d), .val (.int (Int32.ofNat (q + (i + 1)))), .val (.int (Int32.ofNat len)), .val (.int (Int32.ofNat (i + 1))), .val (.int (cv A (o + i)))] [])) := by
        have := c9
        rw [succ32, succ32, succ32] at this
        exact this
      exact ih (i + 1) (by omega) _ (Or.inr ⟨_, rfl, rfl⟩) T7 _ (by rw [copyLocs_step, ← List.append_assoc]; exact X7) (pl.trans p7) (fl.step (by omega) hlt (by simp)) c10
  obtain ⟨T9, B9, z9, X9, p9, f9, g9⟩ := loop len 0 (by omega) .unset (Or.inl rfl) s₁ B (by simpa [copyLocs] using X0) ⟨hB0.1, fun _ _ => rfl, rfl⟩ (Laid.zero _ _ _) c2
  have c11 : Steps p.tables e below (s₁.setTop (entryFrame m #[.ref b, .int (Int32.ofNat o), .ref d, .int (Int32.ofNat q), .int (Int32.ofNat len)] 7)) (T9.setTop (mkF m 46 #[.val (.ref b), .val (.int (Int32.ofNat (o + len))), .val (.ref d), .val (.int (Int32.ofNat (q + len))), .val (.int (Int32.ofNat len)), .val (.int (Int32.ofNat len)), z9] [.int (Int32.ofNat len)])) := g9.trans (by
    refine XS.iload X9.here hexec rfl (hb hbytes d3) rfl ?_
    refine XS.iload X9.here hexec rfl (hb hbytes d5) rfl ?_
    refine XS.icmpYes X9.here hexec rfl (pc0 := 7) rfl (hb hbytes d7) rfl (ii_ge_t (nlt32 (by omega) (Nat.le_refl _))) (by decide) rfl ?_
    refine XS.iload X9.here hexec rfl (hb hbytes d44) rfl ?_
    exact Steps.refl _)
  exact ⟨T9, some (.int (Int32.ofNat len)), _, _, _, X9, by simp, rfl, rfl, (fun h => by cases h), ⟨rfl, B9, p9.from hh0, f9⟩, fun fs hl => c11.trans (X9.ireturnOut hexec hret rfl (Or.inl rfl) (hb hbytes d46) hl)⟩
end Cmp5
namespace Cmp3
def yN : MethodName := ⟨"java/lang/StringUTF16", "compress", "([CII)[B"⟩
abbrev yB : ByteArray := jdk_52_method_16_code
theorem d0 : decode yB 0 = .ok (.iload_n 2, 1) := by decide +kernel
theorem d1 : decode yB 1 = .ok (.newarray .byte, 2) := by decide +kernel
theorem d3 : decode yB 3 = .ok (.astore_n 3, 1) := by decide +kernel
theorem d4 : decode yB 4 = .ok (.aload_n 0, 1) := by decide +kernel
theorem d5 : decode yB 5 = .ok (.iload_n 1, 1) := by decide +kernel
theorem d6 : decode yB 6 = .ok (.aload_n 3, 1) := by decide +kernel
theorem d7 : decode yB 7 = .ok (.iconst 0, 1) := by decide +kernel
theorem d8 : decode yB 8 = .ok (.iload_n 2, 1) := by decide +kernel
theorem d9 : decode yB 9 = .ok (.invokestatic 115, 3) := by decide +kernel
theorem d12 : decode yB 12 = .ok (.istore 4, 2) := by decide +kernel
theorem d14 : decode yB 14 = .ok (.iload 4, 2) := by decide +kernel
theorem d16 : decode yB 16 = .ok (.iload_n 2, 1) := by decide +kernel
theorem d17 : decode yB 17 = .ok (.if_icmp (.eq) 40, 3) := by decide +kernel
theorem d57 : decode yB 57 = .ok (.aload_n 3, 1) := by decide +kernel
theorem d58 : decode yB 58 = .ok (.areturn, 1) := by decide +kernel
def site : List Cond := [.arrayClass .byte, Cmp5.tab] ++ staticW U16 115 Cmp5.yN
def tab : Cond := tabOf yN yB 6 (some (.array .byte)) site
def P (b : Addr) (A : Cell) (o len : Nat) (args : Array Value) (s : State) : Prop := args = #[.ref b, .int (Int32.ofNat o), .int (Int32.ofNat len)] ∧ Ch b A s ∧ o + len ≤ A.slots.size ∧ len ≤ 536870912 ∧ ∀ i, i < len → ¬ 255 < cv A (o + i)
def E (b : Addr) (A : Cell) (o len : Nat) (r : Option Value) (s u : State) : Prop := NewArr .byte "[B" len (fun j => .int (lo8 (cv A (o + j)))) r s u ∧ u.heap.size = s.heap.size + 1
/-- no char of the range above 255: a new byte[] of their low bytes -/
theorem law (l : Launch) (b : Addr) (A : Cell) (o len : Nat) : Law l yN 3 3 1 18 yB 6 (some (.array .byte)) site (P b A o len) (E b A o len) [] 1 len := by
  refine Law.of_walk (plainFor_of_name (by decide +kernel)) (by decide +kernel) (by decide +kernel) (by decide) (fun _ _ h => by rw [h.1]; rfl) (fun _ U U' hal hh h => ⟨h.1, h.2.1.mv hal hh, h.2.2⟩) (fun r U U' V V' h1 hal h2 h => ⟨NewArr.mv r U U' V V' h1 hal h2 h.1, by rw [h1, h2]; exact h.2⟩) ?_
  intro p e s m args below meth c s₁ X0 hexec hbytes hml hret hlk hnm hown hh0 W hP
  obtain ⟨rfl, hA, l1, l2, hp⟩ := hP
  have a31 := hA.1.2.2.2
  have c1 : Steps p.tables e below (s₁.setTop (entryFrame m #[.ref b, .int (Int32.ofNat o), .int (Int32.ofNat len)] 6)) (s₁.setTop (mkF m 0 #[.val (.ref b), .val (.int (Int32.ofNat o)), .val (.int (Int32.ofNat len)), .unset, .unset, .unset] [])) := entry rfl
  have c2 : Steps p.tables e below (s₁.setTop (entryFrame m #[.ref b, .int (Int32.ofNat o), .int (Int32.ofNat len)] 6)) (s₁.setTop (mkF m 1 #[.val (.ref b), .val (.int (Int32.ofNat o)), .val (.int (Int32.ofNat len)), .unset, .unset, .unset] [.int (Int32.ofNat len)])) := c1.trans (by
    refine XS.iloadN X0.here hexec rfl (hb hbytes d0) rfl ?_
    exact Steps.refl _)
  obtain ⟨T3, B3, X3, ba3, bs3, bv3, bh3, bf3, st3⟩ := X0.anew hexec (atype := .byte) (wk W (.arrayClass .byte)) rfl (by show len * 1 ≤ _; omega) (by omega) (g := (mkF m 1 #[.val (.ref b), .val (.int (Int32.ofNat o)), .val (.int (Int32.ofNat len)), .unset, .unset, .unset] [.int (Int32.ofNat len)])) rfl (hb hbytes d1) (rest := []) rfl (Nat.le_refl _) (by show 0 + len ≤ len; omega)
  rw [hh0] at ba3 st3
  have kp3 : XT.Kept s T3 := (XT.Kept.of_eq hh0).push bh3
  have hA3 := hA.keep X3.warmed.alike (kp3 _ _ hA.1.1)
  have hne : b ≠ s.heap.size := hA.1.ne
  have c4 : Steps p.tables e below (s₁.setTop (entryFrame m #[.ref b, .int (Int32.ofNat o), .int (Int32.ofNat len)] 6)) (T3.setTop (mkF m 3 #[.val (.ref b), .val (.int (Int32.ofNat o)), .val (.int (Int32.ofNat len)), .unset, .unset, .unset] [.ref s.heap.size])) := c2.trans (st3 _ (Steps.refl _))
  have c5 : Steps p.tables e below (s₁.setTop (entryFrame m #[.ref b, .int (Int32.ofNat o), .int (Int32.ofNat len)] 6)) (T3.setTop (mkF m 9 #[.val (.ref b), .val (.int (Int32.ofNat o)), .val (.int (Int32.ofNat len)), .val (.ref s.heap.size), .unset, .unset] [.int (Int32.ofNat len), .int 0, .ref s.heap.size, .int (Int32.ofNat o), .ref b])) := c4.trans (by
    refine XS.astoreN X3.here hexec rfl (hb hbytes d3) rfl rfl rfl ?_
    refine XS.aloadN X3.here hexec rfl (hb hbytes d4) rfl rfl ?_
    refine XS.iloadN X3.here hexec rfl (hb hbytes d5) rfl ?_
    refine XS.aloadN X3.here hexec rfl (hb hbytes d6) rfl rfl ?_
    refine iconstV X3.here hexec rfl 0 (hb hbytes d7) (by decide) ?_
    refine XS.iloadN X3.here hexec rfl (hb hbytes d8) rfl ?_
    exact Steps.refl _)
  obtain ⟨v6, T6, X6, E6, g6⟩ := X3.callS hexec (Cmp5.law l b A s.heap.size B3 o 0 len) hown (wks W (staticW U16 115 Cmp5.yN)) (wk W Cmp5.tab) (W := 0) (Nat.le_of_ble_eq_true rfl) (Nat.le_of_ble_eq_true rfl) (Nat.le_refl _) (by show 0 + len + 0 ≤ len; omega) (g := (mkF m 9 #[.val (.ref b), .val (.int (Int32.ofNat o)), .val (.int (Int32.ofNat len)), .val (.ref s.heap.size), .unset, .unset] [.int (Int32.ofNat len), .int (Int32.ofNat 0), .ref s.heap.size, .int (Int32.ofNat o), .ref b])) rfl (by rw [hml]; rfl) c5 (argsL := [.ref b, .int (Int32.ofNat o), .ref s.heap.size, .int (Int32.ofNat 0), .int (Int32.ofNat len)]) (rest := []) rfl rfl (by show 2 * 0 + 0 ≤ _; decide) (hb hbytes d9) (⟨rfl, hA3, ba3, hne, l1, by rw [bs3]; simp, hp⟩)
  obtain ⟨rfl, B6, p6, f6⟩ := E6
  have c7 : Steps p.tables e below (s₁.setTop (entryFrame m #[.ref b, .int (Int32.ofNat o), .int (Int32.ofNat len)] 6)) (T6.setTop (mkF m 12 #[.val (.ref b), .val (.int (Int32.ofNat o)), .val (.int (Int32.ofNat len)), .val (.ref s.heap.size), .unset, .unset] [.int (Int32.ofNat len)])) := g6
  have c8 : Steps p.tables e below (s₁.setTop (entryFrame m #[.ref b, .int (Int32.ofNat o), .int (Int32.ofNat len)] 6)) (T6.setTop (mkF m 58 #[.val (.ref b), .val (.int (Int32.ofNat o)), .val (.int (Int32.ofNat len)), .val (.ref s.heap.size), .val (.int (Int32.ofNat len)), .unset] [.ref s.heap.size])) := c7.trans (by
    refine XS.istore X6.here hexec rfl (hb hbytes d12) rfl rfl ?_
    refine XS.iload X6.here hexec rfl (hb hbytes d14) rfl ?_
    refine XS.iloadN X6.here hexec rfl (hb hbytes d16) rfl ?_
    refine XS.icmpYes X6.here hexec rfl (pc0 := 17) rfl (hb hbytes d17) rfl (ii_eq_t rfl) (by decide) rfl ?_
    refine XS.aloadN X6.here hexec rfl (hb hbytes d57) rfl rfl ?_
    exact Steps.refl _)
  have X8 := X6.wide (L' := []) (cells' := 1) (slots' := len) (fun x hx hlt => by
    simp only [List.nil_append, copyLocs, List.mem_map, List.mem_range] at hx
    obtain ⟨i, -, rfl⟩ := hx
    exact absurd hlt (Nat.lt_irrefl _)) (Nat.le_refl _) (by omega)
  exact ⟨T6, some (.ref s.heap.size), _, _, _, X8, rfl, rfl, rfl, (fun h => by cases h), ⟨⟨rfl, B6, ba3.like (X3.warmed.alike.symm.trans X6.warmed.alike) p6.1 f6.1 f6.2.1 f6.2.2.1, f6.2.1.trans bv3, by rw [X6.warmed.alike.findClass, f6.1]; exact bf3, by rw [f6.2.2.1, bs3]; simp, fun j hj => by rw [f6.2.2.2 j, if_pos (by omega)]; rfl, kp3.put p6 (Nat.le_refl _)⟩, by rw [p6.2.2, bh3, hh0]; simp⟩, fun fs hl => c8.trans (X8.areturnOut hexec rfl hret rfl (hb hbytes d58) hl)⟩
end Cmp3
namespace CodL
def yN : MethodName := ⟨"java/lang/StringUTF16", "coderFromArrayLen", "([BI)B"⟩
abbrev yB : ByteArray := jdk_52_method_15_code
theorem d0 : decode yB 0 = .ok (.iload_n 1, 1) := by decide +kernel
theorem d1 : decode yB 1 = .ok (.aload_n 0, 1) := by decide +kernel
theorem d2 : decode yB 2 = .ok (.arraylength, 1) := by decide +kernel
theorem d3 : decode yB 3 = .ok (.isub, 1) := by decide +kernel
theorem d4 : decode yB 4 = .ok (.bipush 31, 2) := by decide +kernel
theorem d6 : decode yB 6 = .ok (.iushr, 1) := by decide +kernel
theorem d7 : decode yB 7 = .ok (.i2b, 1) := by decide +kernel
theorem d8 : decode yB 8 = .ok (.ireturn, 1) := by decide +kernel
def site : List Cond := []
def tab : Cond := tabOf yN yB 2 (some .byte) site
def P (d : Addr) (B : Cell) (args : Array Value) (s : State) : Prop := args = #[.ref d, .int (Int32.ofNat B.slots.size)] ∧ Arr .byte d B s
def E (r : Option Value) (s u : State) : Prop := XT.PureE (some (.int 0)) r s u
/-- an array as long as the number of chars: LATIN1 -/
theorem law (l : Launch) (d : Addr) (B : Cell) : Law l yN 2 2 0 0 yB 2 (some .byte) site (P d B) E [] 0 0 := by
  refine Law.of_walk (plainFor_of_name (by decide +kernel)) (by decide +kernel) (by decide +kernel) (by decide) (fun _ _ h => by rw [h.1]; rfl) (fun _ U U' hal hh h => ⟨h.1, h.2.mv hal hh⟩) (fun r U U' V V' h1 hal h2 h => XT.PureE.mv r U U' V V' h1 hal h2 h) ?_
  intro p e s m args below meth c s₁ X0 hexec hbytes hml hret hlk hnm hown hh0 W hP
  obtain ⟨rfl, hB⟩ := hP
  have hB0 := hB.mv X0.warmed.alike hh0
  have c1 : Steps p.tables e below (s₁.setTop (entryFrame m #[.ref d, .int (Int32.ofNat B.slots.size)] 2)) (s₁.setTop (mkF m 0 #[.val (.ref d), .val (.int (Int32.ofNat B.slots.size))] [])) := entry rfl
  have c2 : Steps p.tables e below (s₁.setTop (entryFrame m #[.ref d, .int (Int32.ofNat B.slots.size)] 2)) (s₁.setTop (mkF m 2 #[.val (.ref d), .val (.int (Int32.ofNat B.slots.size))] [.ref d, .int (Int32.ofNat B.slots.size)])) := c1.trans (by
    refine XS.iloadN X0.here hexec rfl (hb hbytes d0) rfl ?_
    refine XS.aloadN X0.here hexec rfl (hb hbytes d1) rfl rfl ?_
    exact Steps.refl _)
  have c3 : Steps p.tables e below (s₁.setTop (entryFrame m #[.ref d, .int (Int32.ofNat B.slots.size)] 2)) (s₁.setTop (mkF m 8 #[.val (.ref d), .val (.int (Int32.ofNat B.slots.size))] [.int (lo8 (ushr (Int32.ofNat B.slots.size - Int32.ofNat B.slots.size) 31))])) := c2.trans (by
    refine X0.alen hexec hB0 rfl rfl (hb hbytes d2) ?_
    refine XS.isub X0.here hexec rfl (hb hbytes d3) rfl ?_
    refine bipushV X0.here hexec rfl 31 (hb hbytes d4) (by decide) ?_
    refine iushr X0.here hexec rfl (hb hbytes d6) rfl ?_
    refine i2b X0.here hexec rfl (hb hbytes d7) rfl ?_
    exact Steps.refl _)
  have e0 : lo8 (ushr (Int32.ofNat B.slots.size - Int32.ofNat B.slots.size) 31) = 0 := by rw [Int32.sub_self]; decide
  rw [e0] at c3
  exact ⟨s₁, some (.int 0), _, _, _, X0, rfl, rfl, rfl, (fun h => by cases h), ⟨rfl, hh0⟩, fun fs hl => c3.trans (X0.ireturnOut hexec hret rfl (Or.inr (Or.inr (Or.inl rfl))) (hb hbytes d8) hl)⟩
end CodL
/-- the String at a is Latin-1 over a new byte[] (the heap's one new cell): the low bytes of the len chars of A from o on; every cell but a is kept -/
def Got (a : Addr) (D : Cell) (fV fC : Field) (A : Cell) (o len : Nat) (r : Option Value) (s u : State) : Prop := r = none ∧ ∃ D' V : Cell, Blank "java/lang/String" a D' u ∧ Same D D' [fV.slot, fC.slot] ∧ D'.slots[fV.slot]? = some (.ref s.heap.size) ∧ D'.slots[fC.slot]? = some (.int 0) ∧ Arr .byte s.heap.size V u ∧ V.vm = .none ∧ u.vm.findClass "[B" = some V.cls ∧ V.slots.size = len ∧ (∀ j, j < len → V.slots[j]? = some (.int (lo8 (cv A (o + j))))) ∧ (∀ (y : Addr) (c : Cell), y ≠ a → s.heap[y]? = some c → u.heap[y]? = some c) ∧ u.heap.size = s.heap.size + 1
theorem Got.mv {a : Addr} {D A : Cell} {fV fC : Field} {o len : Nat} : ∀ r (U U' V V' : State), U'.heap = U.heap → V.vm.Alike V'.vm → V'.heap = V.heap → Got a D fV fC A o len r U V → Got a D fV fC A o len r U' V' :=
  fun r U U' V V' h1 hal h2 ⟨e0, D', X, a1, a2, a3, a4, a5, a6, a7, a8, a9, a10, a11⟩ => ⟨e0, D', X, a1.mv hal h2, a2, by rw [h1]; exact a3, a4, by rw [h1]; exact a5.mv hal h2, a6, by rw [hal.findClass]; exact a7, a8, a9, by rw [h1, h2]; exact a10, by rw [h1, h2]; exact a11⟩
namespace New4
def yN : MethodName := ⟨"java/lang/String", "<init>", "([CIILjava/lang/Void;)V"⟩
abbrev yB : ByteArray := jdk_42_method_149_code
theorem d0 : decode yB 0 = .ok (.aload_n 0, 1) := by decide +kernel
theorem d1 : decode yB 1 = .ok (.invokespecial 1, 3) := by decide +kernel
theorem d4 : decode yB 4 = .ok (.iload_n 3, 1) := by decide +kernel
theorem d5 : decode yB 5 = .ok (.ifCond (.ne) 22, 3) := by decide +kernel
theorem d27 : decode yB 27 = .ok (.getstatic 38, 3) := by decide +kernel
theorem d30 : decode yB 30 = .ok (.ifCond (.eq) 28, 3) := by decide +kernel
theorem d33 : decode yB 33 = .ok (.aload_n 1, 1) := by decide +kernel
theorem d34 : decode yB 34 = .ok (.iload_n 2, 1) := by decide +kernel
theorem d35 : decode yB 35 = .ok (.iload_n 3, 1) := by decide +kernel
theorem d36 : decode yB 36 = .ok (.invokestatic 177, 3) := by decide +kernel
theorem d39 : decode yB 39 = .ok (.astore 5, 2) := by decide +kernel
theorem d41 : decode yB 41 = .ok (.aload_n 0, 1) := by decide +kernel
theorem d42 : decode yB 42 = .ok (.aload 5, 2) := by decide +kernel
theorem d44 : decode yB 44 = .ok (.iload_n 3, 1) := by decide +kernel
theorem d45 : decode yB 45 = .ok (.invokestatic 47, 3) := by decide +kernel
theorem d48 : decode yB 48 = .ok (.putfield 15, 3) := by decide +kernel
theorem d51 : decode yB 51 = .ok (.aload_n 0, 1) := by decide +kernel
theorem d52 : decode yB 52 = .ok (.aload 5, 2) := by decide +kernel
theorem d54 : decode yB 54 = .ok (.putfield 9, 3) := by decide +kernel
theorem d57 : decode yB 57 = .ok (.return_, 1) := by decide +kernel
def site : List Cond := [.fieldLink "java/lang/String" 38 "java/lang/String" "COMPACT_STRINGS" "Z", Cmp3.tab, CodL.tab, .laysFinal "java/lang/String" "java/lang/String" "value" "[B", .fieldLink "java/lang/String" 9 "java/lang/String" "value" "[B", .laysFinal "java/lang/String" "java/lang/String" "coder" "B", .fieldLink "java/lang/String" 15 "java/lang/String" "coder" "B"] ++ objW "java/lang/String" 1 ++ staticW "java/lang/String" 177 Cmp3.yN ++ staticW "java/lang/String" 47 CodL.yN
def tab : Cond := tabOf yN yB 6 none site
def P (a : Addr) (D : Cell) (fV fC : Field) (b : Addr) (A : Cell) (z : Int32) (o len : Nat) (args : Array Value) (s : State) : Prop := args = #[.ref a, .ref b, .int (Int32.ofNat o), .int (Int32.ofNat len), .null] ∧ Blank "java/lang/String" a D s ∧ Found "java/lang/String" "value" "[B" fV s ∧ Found "java/lang/String" "coder" "B" fC s ∧ Ch b A s ∧ StaticIs s "java/lang/String" "COMPACT_STRINGS" "Z" (.int z) ∧ ¬ z = 0 ∧ 0 < len ∧ o + len ≤ A.slots.size ∧ len ≤ 536870912 ∧ ∀ i, i < len → ¬ 255 < cv A (o + i)
def E (a : Addr) (D : Cell) (fV fC : Field) (A : Cell) (o len : Nat) (r : Option Value) (s u : State) : Prop := Got a D fV fC A o len r s u
/-- len > 0, no char of the range above 255: a Latin-1 String of their low bytes -/
theorem law (l : Launch) (a : Addr) (D : Cell) (fV fC : Field) (b : Addr) (A : Cell) (z : Int32) (o len : Nat) : Law l yN 5 4 2 35 yB 6 none site (P a D fV fC b A z o len) (E a D fV fC A o len) [⟨a, fC.slot⟩, ⟨a, fV.slot⟩] 1 len := by
  refine Law.of_walk (plainFor_of_name (by decide +kernel)) (by decide +kernel) (by decide +kernel) (by decide) (fun _ _ h => by rw [h.1]; rfl) (fun _ U U' hal hh h => ⟨h.1, h.2.1.mv hal hh, h.2.2.1.al hal, h.2.2.2.1.al hal, h.2.2.2.2.1.mv hal hh, h.2.2.2.2.2.1.there hal hh, h.2.2.2.2.2.2⟩) (fun r U U' V V' h1 hal h2 h => Got.mv r U U' V V' h1 hal h2 h) ?_
  intro p e s m args below meth c s₁ X0 hexec hbytes hml hret hlk hnm hown hh0 W hP
  obtain ⟨rfl, hB, f1, f2, hA, s1, hz, l0, l1, l2, hp⟩ := hP
  have a31 := hA.1.2.2.2
  have c1 : Steps p.tables e below (s₁.setTop (entryFrame m #[.ref a, .ref b, .int (Int32.ofNat o), .int (Int32.ofNat len), .null] 6)) (s₁.setTop (mkF m 0 #[.val (.ref a), .val (.ref b), .val (.int (Int32.ofNat o)), .val (.int (Int32.ofNat len)), .val .null, .unset] [])) := entry rfl
  have c2 : Steps p.tables e below (s₁.setTop (entryFrame m #[.ref a, .ref b, .int (Int32.ofNat o), .int (Int32.ofNat len), .null] 6)) (s₁.setTop (mkF m 1 #[.val (.ref a), .val (.ref b), .val (.int (Int32.ofNat o)), .val (.int (Int32.ofNat len)), .val .null, .unset] [.ref a])) := c1.trans (by
    refine XS.aloadN X0.here hexec rfl (hb hbytes d0) rfl rfl ?_
    exact Steps.refl _)
  obtain ⟨T3, X3, q3, st3⟩ := X0.oinit hexec hown (wks W (objW "java/lang/String" 1)) (g := (mkF m 1 #[.val (.ref a), .val (.ref b), .val (.int (Int32.ofNat o)), .val (.int (Int32.ofNat len)), .val .null, .unset] [.ref a])) rfl (by rw [hml]; rfl) (rest := []) rfl (hb hbytes d1) (W := 0) (by show 2 * 0 + 0 ≤ _; decide) (Nat.le_of_ble_eq_true rfl) (Nat.le_of_ble_eq_true rfl)
  have hh3 := q3.trans hh0
  have c4 : Steps p.tables e below (s₁.setTop (entryFrame m #[.ref a, .ref b, .int (Int32.ofNat o), .int (Int32.ofNat len), .null] 6)) (T3.setTop (mkF m 27 #[.val (.ref a), .val (.ref b), .val (.int (Int32.ofNat o)), .val (.int (Int32.ofNat len)), .val .null, .unset] [])) := (c2.trans (st3 _ (Steps.refl _))).trans (by
    refine XS.iloadN X3.here hexec rfl (hb hbytes d4) rfl ?_
    refine XS.ifYes X3.here hexec rfl (pc0 := 5) rfl (hb hbytes d5) rfl (i0_ne_t (nz32 (by omega) l0)) (by decide) rfl ?_
    exact Steps.refl _)
  obtain ⟨T5, X5, q5, st5⟩ := X3.sget hexec hown (wk W (.fieldLink "java/lang/String" 38 "java/lang/String" "COMPACT_STRINGS" "Z")) s1 (fun _ _ h => by rw [hh3]; exact h) (g := (mkF m 27 #[.val (.ref a), .val (.ref b), .val (.int (Int32.ofNat o)), .val (.int (Int32.ofNat len)), .val .null, .unset] [])) rfl (hb hbytes d27)
  have hh5 := q5.trans hh3
  have c6 : Steps p.tables e below (s₁.setTop (entryFrame m #[.ref a, .ref b, .int (Int32.ofNat o), .int (Int32.ofNat len), .null] 6)) (T5.setTop (mkF m 30 #[.val (.ref a), .val (.ref b), .val (.int (Int32.ofNat o)), .val (.int (Int32.ofNat len)), .val .null, .unset] [.int z])) := c4.trans (st5 _ (Steps.refl _))
  have c7 : Steps p.tables e below (s₁.setTop (entryFrame m #[.ref a, .ref b, .int (Int32.ofNat o), .int (Int32.ofNat len), .null] 6)) (T5.setTop (mkF m 36 #[.val (.ref a), .val (.ref b), .val (.int (Int32.ofNat o)), .val (.int (Int32.ofNat len)), .val .null, .unset] [.int (Int32.ofNat len), .int (Int32.ofNat o), .ref b])) := c6.trans (by
    refine XS.ifNo X5.here hexec rfl (hb hbytes d30) rfl (i0_eq_f hz) ?_
    refine XS.aloadN X5.here hexec rfl (hb hbytes d33) rfl rfl ?_
    refine XS.iloadN X5.here hexec rfl (hb hbytes d34) rfl ?_
    refine XS.iloadN X5.here hexec rfl (hb hbytes d35) rfl ?_
    exact Steps.refl _)
  obtain ⟨v8, T8, X8, E8, g8⟩ := X5.callS hexec (Cmp3.law l b A o len) hown (wks W (staticW "java/lang/String" 177 Cmp3.yN)) (wk W Cmp3.tab) (W := 0) (Nat.le_of_ble_eq_true rfl) (Nat.le_of_ble_eq_true rfl) (Nat.le_refl _) (by show 0 + len ≤ len; omega) (g := (mkF m 36 #[.val (.ref a), .val (.ref b), .val (.int (Int32.ofNat o)), .val (.int (Int32.ofNat len)), .val .null, .unset] [.int (Int32.ofNat len), .int (Int32.ofNat o), .ref b])) rfl (by rw [hml]; rfl) c7 (argsL := [.ref b, .int (Int32.ofNat o), .int (Int32.ofNat len)]) (rest := []) rfl rfl (by show 2 * 0 + 0 ≤ _; decide) (hb hbytes d36) (⟨rfl, hA.mv X5.warmed.alike hh5, l1, l2, hp⟩)
  obtain ⟨e8, z8⟩ := E8
  obtain ⟨rfl, N, n1, n2, n3, n4, n5, n6⟩ := NewArr.mv _ T5 s _ _ hh5.symm (Vm.Alike.refl _) rfl e8
  rw [hh5] at z8
  have hB1 := hB.keep X8.warmed.alike (n6 _ _ hB.1)
  have hne : s.heap.size ≠ a := (Nat.ne_of_lt (Array.getElem?_eq_some_iff.mp hB.1).1).symm
  have c9 : Steps p.tables e below (s₁.setTop (entryFrame m #[.ref a, .ref b, .int (Int32.ofNat o), .int (Int32.ofNat len), .null] 6)) (T8.setTop (mkF m 39 #[.val (.ref a), .val (.ref b), .val (.int (Int32.ofNat o)), .val (.int (Int32.ofNat len)), .val .null, .unset] [.ref s.heap.size])) := g8
  have c10 : Steps p.tables e below (s₁.setTop (entryFrame m #[.ref a, .ref b, .int (Int32.ofNat o), .int (Int32.ofNat len), .null] 6)) (T8.setTop (mkF m 45 #[.val (.ref a), .val (.ref b), .val (.int (Int32.ofNat o)), .val (.int (Int32.ofNat len)), .val .null, .val (.ref s.heap.size)] [.int (Int32.ofNat N.slots.size), .ref s.heap.size, .ref a])) := by
    have hc : Steps p.tables e below (s₁.setTop (entryFrame m #[.ref a, .ref b, .int (Int32.ofNat o), .int (Int32.ofNat len), .null] 6)) (T8.setTop (mkF m 45 #[.val (.ref a), .val (.ref b), .val (.int (Int32.ofNat o)), .val (.int (Int32.ofNat len)), .val .null, .val (.ref s.heap.size)] [.int (Int32.ofNat len), .ref s.heap.size, .ref a])) := c9.trans (by
      refine XS.astore X8.here hexec rfl (hb hbytes d39) rfl rfl rfl ?_
      refine XS.aloadN X8.here hexec rfl (hb hbytes d41) rfl rfl ?_
      refine XS.aload X8.here hexec rfl (hb hbytes d42) rfl rfl ?_
      refine XS.iloadN X8.here hexec rfl (hb hbytes d44) rfl ?_
      exact Steps.refl _)
    rw [n4]; exact hc
  obtain ⟨v11, T11, X11, E11, g11⟩ := X8.callS hexec (CodL.law l s.heap.size N) hown (wks W (staticW "java/lang/String" 47 CodL.yN)) (wk W CodL.tab) (W := 1) (Nat.le_of_ble_eq_true rfl) (Nat.le_of_ble_eq_true rfl) (Nat.le_refl _) (by show 0 + len + 0 ≤ len; omega) (g := (mkF m 45 #[.val (.ref a), .val (.ref b), .val (.int (Int32.ofNat o)), .val (.int (Int32.ofNat len)), .val .null, .val (.ref s.heap.size)] [.int (Int32.ofNat N.slots.size), .ref s.heap.size, .ref a])) rfl (by rw [hml]; rfl) c10 (argsL := [.ref s.heap.size, .int (Int32.ofNat N.slots.size)]) (rest := [.ref a]) rfl rfl (by show 2 * 0 + (1 + 0) ≤ _; decide) (hb hbytes d45) (⟨rfl, n1⟩)
  obtain ⟨rfl, q11⟩ := E11
  have hB11 := hB1.mv (X8.warmed.alike.symm.trans X11.warmed.alike) q11
  have c12 : Steps p.tables e below (s₁.setTop (entryFrame m #[.ref a, .ref b, .int (Int32.ofNat o), .int (Int32.ofNat len), .null] 6)) (T11.setTop (mkF m 48 #[.val (.ref a), .val (.ref b), .val (.int (Int32.ofNat o)), .val (.int (Int32.ofNat len)), .val .null, .val (.ref s.heap.size)] [.int 0, .ref a])) := g11
  obtain ⟨T13, X13, p13, bl13, sl13, st13⟩ := X11.finit hexec hown (wk W (.fieldLink "java/lang/String" 15 "java/lang/String" "coder" "B")) (Or.inr ⟨_, (wk W (.laysFinal "java/lang/String" "java/lang/String" "coder" "B"))⟩) (Or.inl ⟨rfl, hnm⟩) f2 (Or.inl rfl) hB11 (t := .byte) (by decide +kernel) rfl (g := (mkF m 48 #[.val (.ref a), .val (.ref b), .val (.int (Int32.ofNat o)), .val (.int (Int32.ofNat len)), .val .null, .val (.ref s.heap.size)] [.int 0, .ref a])) rfl (rest := []) rfl (hb hbytes d48)
  have c14 : Steps p.tables e below (s₁.setTop (entryFrame m #[.ref a, .ref b, .int (Int32.ofNat o), .int (Int32.ofNat len), .null] 6)) (T13.setTop (mkF m 54 #[.val (.ref a), .val (.ref b), .val (.int (Int32.ofNat o)), .val (.int (Int32.ofNat len)), .val .null, .val (.ref s.heap.size)] [.ref s.heap.size, .ref a])) := (c12.trans (st13 _ (Steps.refl _))).trans (by
    refine XS.aloadN X13.here hexec rfl (hb hbytes d51) rfl rfl ?_
    refine XS.aload X13.here hexec rfl (hb hbytes d52) rfl rfl ?_
    exact Steps.refl _)
  obtain ⟨T15, X15, p15, bl15, sl15, st15⟩ := X13.finit hexec hown (wk W (.fieldLink "java/lang/String" 9 "java/lang/String" "value" "[B")) (Or.inr ⟨_, (wk W (.laysFinal "java/lang/String" "java/lang/String" "value" "[B"))⟩) (Or.inl ⟨rfl, hnm⟩) f1 (Or.inl rfl) bl13 (t := (.array .byte)) (by decide +kernel) rfl (g := (mkF m 54 #[.val (.ref a), .val (.ref b), .val (.int (Int32.ofNat o)), .val (.int (Int32.ofNat len)), .val .null, .val (.ref s.heap.size)] [.ref s.heap.size, .ref a])) rfl (rest := []) rfl (hb hbytes d54)
  have c16 : Steps p.tables e below (s₁.setTop (entryFrame m #[.ref a, .ref b, .int (Int32.ofNat o), .int (Int32.ofNat len), .null] 6)) (T15.setTop (mkF m 57 #[.val (.ref a), .val (.ref b), .val (.int (Int32.ofNat o)), .val (.int (Int32.ofNat len)), .val .null, .val (.ref s.heap.size)] [])) := c14.trans (st15 _ (Steps.refl _))
  have ap := apart (Or.inr ⟨_, (wk W (.laysFinal "java/lang/String" "java/lang/String" "value" "[B"))⟩) (Or.inr ⟨_, (wk W (.laysFinal "java/lang/String" "java/lang/String" "coder" "B"))⟩) f1 f2 (t₁ := .array .byte) (t₂ := .byte) (by decide +kernel) (by decide +kernel) (by decide)
  have al := X8.warmed.alike.symm.trans X15.warmed.alike
  have n7 : T11.heap[s.heap.size]? = some N := by rw [q11]; exact n1.1
  exact ⟨T15, none, _, _, _, X15, by simp, rfl, by omega, (fun _ => rfl), ⟨rfl, _, N, bl15, ((Same.refl D _).set _ (by simp)).set _ (by simp), sl15, (Cell.slots_setSlot_ne _ ap).trans sl13, n1.keep al (p15.other hne (p13.other hne n7)), n2, by rw [al.findClass]; exact n3, n4, n5, fun y c h1 h2 => p15.other h1 (p13.other h1 (by rw [q11]; exact n6 y c h2)), by rw [p15.2.2, p13.2.2, q11]; exact z8⟩, fun fs hl => c16.trans (X15.returnOut hexec hret (hb hbytes d57) hl)⟩
end New4
namespace New1
def yN : MethodName := ⟨"java/lang/String", "<init>", "([C)V"⟩
abbrev yB : ByteArray := jdk_42_method_3_code
theorem d0 : decode yB 0 = .ok (.aload_n 0, 1) := by decide +kernel
theorem d1 : decode yB 1 = .ok (.aload_n 1, 1) := by decide +kernel
theorem d2 : decode yB 2 = .ok (.iconst 0, 1) := by decide +kernel
theorem d3 : decode yB 3 = .ok (.aload_n 1, 1) := by decide +kernel
theorem d4 : decode yB 4 = .ok (.arraylength, 1) := by decide +kernel
theorem d5 : decode yB 5 = .ok (.aconst_null, 1) := by decide +kernel
theorem d6 : decode yB 6 = .ok (.invokespecial 27, 3) := by decide +kernel
theorem d9 : decode yB 9 = .ok (.return_, 1) := by decide +kernel
def site : List Cond := [New4.tab] ++ initW "java/lang/String" 27 New4.yN
def tab : Cond := tabOf yN yB 2 none site
def P (a : Addr) (D : Cell) (fV fC : Field) (b : Addr) (A : Cell) (z : Int32) (args : Array Value) (s : State) : Prop := args = #[.ref a, .ref b] ∧ Blank "java/lang/String" a D s ∧ Found "java/lang/String" "value" "[B" fV s ∧ Found "java/lang/String" "coder" "B" fC s ∧ Ch b A s ∧ StaticIs s "java/lang/String" "COMPACT_STRINGS" "Z" (.int z) ∧ ¬ z = 0 ∧ 0 < A.slots.size ∧ A.slots.size ≤ 536870912 ∧ ∀ i, i < A.slots.size → ¬ 255 < cv A i
def E (a : Addr) (D : Cell) (fV fC : Field) (A : Cell) (r : Option Value) (s u : State) : Prop := Got a D fV fC A 0 A.slots.size r s u
/-- new String(chars), not empty, no char above 255: a Latin-1 String of their low bytes -/
theorem law (l : Launch) (a : Addr) (D : Cell) (fV fC : Field) (b : Addr) (A : Cell) (z : Int32) : Law l yN 2 1 3 52 yB 2 none site (P a D fV fC b A z) (E a D fV fC A) [⟨a, fC.slot⟩, ⟨a, fV.slot⟩] 1 A.slots.size := by
  refine Law.of_walk (plainFor_of_name (by decide +kernel)) (by decide +kernel) (by decide +kernel) (by decide) (fun _ _ h => by rw [h.1]; rfl) (fun _ U U' hal hh h => ⟨h.1, h.2.1.mv hal hh, h.2.2.1.al hal, h.2.2.2.1.al hal, h.2.2.2.2.1.mv hal hh, h.2.2.2.2.2.1.there hal hh, h.2.2.2.2.2.2⟩) (fun r U U' V V' h1 hal h2 h => Got.mv r U U' V V' h1 hal h2 h) ?_
  intro p e s m args below meth c s₁ X0 hexec hbytes hml hret hlk hnm hown hh0 W hP
  obtain ⟨rfl, hB, f1, f2, hA, s1, hz, l0, l2, hp⟩ := hP
  have c1 : Steps p.tables e below (s₁.setTop (entryFrame m #[.ref a, .ref b] 2)) (s₁.setTop (mkF m 0 #[.val (.ref a), .val (.ref b)] [])) := entry rfl
  have c2 : Steps p.tables e below (s₁.setTop (entryFrame m #[.ref a, .ref b] 2)) (s₁.setTop (mkF m 6 #[.val (.ref a), .val (.ref b)] [.null, .int (Int32.ofNat A.slots.size), .int 0, .ref b, .ref a])) := c1.trans (by
    refine XS.aloadN X0.here hexec rfl (hb hbytes d0) rfl rfl ?_
    refine XS.aloadN X0.here hexec rfl (hb hbytes d1) rfl rfl ?_
    refine iconstV X0.here hexec rfl 0 (hb hbytes d2) (by decide) ?_
    refine XS.aloadN X0.here hexec rfl (hb hbytes d3) rfl rfl ?_
    refine X0.alen hexec (hA.1.mv X0.warmed.alike hh0) rfl rfl (hb hbytes d4) ?_
    refine XS.aconstNull X0.here hexec rfl (hb hbytes d5) ?_
    exact Steps.refl _)
  obtain ⟨v3, T3, X3, E3, g3⟩ := X0.callN hexec (New4.law l a D fV fC b A z 0 A.slots.size) rfl hown (wks W (initW "java/lang/String" 27 New4.yN)) (W New4.tab (by simp only [site, List.mem_cons, List.mem_append, true_or, or_true])) (W := 0) (Nat.le_of_ble_eq_true rfl) (Nat.le_of_ble_eq_true rfl) (Nat.le_refl _) (by show 0 + A.slots.size ≤ A.slots.size; omega) (g := (mkF m 6 #[.val (.ref a), .val (.ref b)] [.null, .int (Int32.ofNat A.slots.size), .int (Int32.ofNat 0), .ref b, .ref a])) rfl (by rw [hml]; rfl) c2 (argsL := [.ref b, .int (Int32.ofNat 0), .int (Int32.ofNat A.slots.size), .null]) (rest := []) rfl rfl (by show 2 * 0 + 0 ≤ _; decide) (hb hbytes d6) (⟨rfl, hB.mv X0.warmed.alike hh0, f1.al X0.warmed.alike, f2.al X0.warmed.alike, hA.mv X0.warmed.alike hh0, s1.there X0.warmed.alike hh0, hz, l0, by omega, l2, fun i hi => by rw [Nat.zero_add]; exact hp i hi⟩)
  have e0 := Got.mv _ s₁ s _ _ hh0.symm (Vm.Alike.refl _) rfl E3
  obtain rfl := e0.1
  have c4 : Steps p.tables e below (s₁.setTop (entryFrame m #[.ref a, .ref b] 2)) (T3.setTop (mkF m 9 #[.val (.ref a), .val (.ref b)] [])) := g3
  exact ⟨T3, none, _, _, _, X3, by simp, rfl, by omega, (fun _ => rfl), e0, fun fs hl => c4.trans (X3.returnOut hexec hret (hb hbytes d9) hl)⟩
theorem pays {l : Launch} {R : Room} {p : Program} {e : Env} {below : List Frame} {s : State} {sargs : Array Value} {len W : Nat} (a : Addr) (D : Cell) (fV fC : Field) (b : Addr) (A : Cell) (z : Int32) (htab : tab.before sargs s = true) (hfr : 4 ≤ R.frames) (hlo : W + 65 ≤ R.locals) :
    Back l R p e below s sargs yN len W (fun A₁ a₁ => A₁.cells + 1 ≤ R.cells ∧ A₁.slots + A.slots.size ≤ R.slots ∧ P a D fV fC b A z a₁ A₁.U) (fun A₁ _ v₁ B₁ => E a D fV fC A v₁ A₁.U B₁.U ∧ B₁.locs = A₁.locs ++ [⟨a, fC.slot⟩, ⟨a, fV.slot⟩] ∧ B₁.cells = A₁.cells + 1 ∧ B₁.slots = A₁.slots + A.slots.size) :=
  (law l a D fV fC b A z).pays htab hfr (by omega)
end New1
/-- the byte, read back as charAt reads it, is the char -/
theorem lo8_mask {x : Int32} (h0 : ¬ x < 0) (h1 : ¬ 255 < x) : lo8 x &&& 255 = x := by
  have t : ∀ k : Fin 256, lo8 (Int32.ofNat k.val) &&& 255 = Int32.ofNat k.val := by decide +kernel
  rw [Int32.lt_iff_toInt_lt] at h0 h1
  have e0 : (0 : Int32).toInt = 0 := rfl
  have e1 : (255 : Int32).toInt = 255 := rfl
  obtain ⟨k, hk⟩ : ∃ k : Nat, x.toInt = k := ⟨x.toInt.toNat, by omega⟩
  have hx : x = Int32.ofNat k := Int32.toInt_inj.mp (by rw [hk, Int32.toInt_ofNat_small (by omega)])
  rw [hx]
  exact t ⟨k, by omega⟩
end StrChars
namespace StrChars.Road
open Jvm Sem ClassFile Op Lib Jvm.Stand Jvm.Free Jvm.Free.XT
open Jvm.Lib.Cold (StaticIs)
abbrev ST : String := "java/lang/String"
/-- every table word that New1's law asks, flat -/
abbrev words : List Jvm.Cond := [.code New1.yN New1.yB 2 none, .initialized ST, .methodLink ST 27 New4.yN, .instanceMethod New4.yN,
  .code New4.yN New4.yB 6 none, .fieldLink ST 38 ST "COMPACT_STRINGS" "Z", .laysFinal ST ST "value" "[B", .fieldLink ST 9 ST "value" "[B", .laysFinal ST ST "coder" "B", .fieldLink ST 15 ST "coder" "B",
  .methodLink ST 1 Lib.objectInit, .instanceMethod Lib.objectInit, .code Lib.objectInit ⟨#[0xb1]⟩ 1 none, .methodLink ST 177 Cmp3.yN, .static Cmp3.yN, .methodLink ST 47 CodL.yN, .static CodL.yN,
  .code Cmp3.yN Cmp3.yB 6 (some (.array .byte)), .initialized U16, .arrayClass .byte, .methodLink U16 115 Cmp5.yN, .static Cmp5.yN, .code Cmp5.yN Cmp5.yB 7 (some .int), .code CodL.yN CodL.yB 2 (some .byte)]
theorem tab_of {a : Array Value} {s : State} (h : ∀ w ∈ words, w.before a s = true) : New1.tab.before a s = true := by
  have h5 : Cmp5.tab.before a s = true := unparts (wk h (.code Cmp5.yN Cmp5.yB 7 (some .int))) (wks h (.initialized Cmp5.yN.cls :: Cmp5.site))
  have hc : CodL.tab.before a s = true := unparts (wk h (.code CodL.yN CodL.yB 2 (some .byte))) (wks h (.initialized CodL.yN.cls :: CodL.site))
  have q5 : ∀ w ∈ Cmp5.tab :: words, w.before a s = true := fun w hw => (List.mem_cons.mp hw).elim (fun e => e ▸ h5) (h w)
  have h3 : Cmp3.tab.before a s = true := unparts (wk q5 (.code Cmp3.yN Cmp3.yB 6 (some (.array .byte)))) (wks q5 (.initialized Cmp3.yN.cls :: Cmp3.site))
  have q3 : ∀ w ∈ Cmp3.tab :: CodL.tab :: words, w.before a s = true := fun w hw => (List.mem_cons.mp hw).elim (fun e => e ▸ h3) fun hw => (List.mem_cons.mp hw).elim (fun e => e ▸ hc) (h w)
  have h4 : New4.tab.before a s = true := unparts (wk q3 (.code New4.yN New4.yB 6 none)) (wks q3 (.initialized New4.yN.cls :: New4.site))
  have q4 : ∀ w ∈ New4.tab :: words, w.before a s = true := fun w hw => (List.mem_cons.mp hw).elim (fun e => e ▸ h4) (h w)
  exact unparts (wk q4 (.code New1.yN New1.yB 2 none)) (wks q4 (.initialized New1.yN.cls :: New1.site))
/-- the words ride from the start Z to the walk's own state -/
theorem moved {Z s : State} {a0 args : Array Value} (hZ : Z.Warmed39 s.vm) (hw : ∀ d ∈ words, d.before a0 Z = true) : ∀ d ∈ words, d.before args s = true := fun d hd => by
  have q := hw d hd
  have t : ∀ d ∈ words, d = .arrayClass .byte ∨ (d.onTables && d.keepsFace) = true := by decide +kernel
  rcases t d hd with rfl | t
  · exact RoadKit.mvA hZ q
  · exact RoadKit.mv hZ q t
/-- WHAT COMES BACK, over the tables of the start Z: h the heap at the call, h' behind it -/
def Q (Z : State) (x : Addr) (A : Cell) (h : Heap) (v : Option Value) (h' : Heap) (L : List Loc) : Prop := v = none ∧ (∀ y ∈ L, y.base = x) ∧ RoadKit.Keep h h' [x] ∧ h'.size = h.size + 1 ∧ RoadKit.Exa Z h' x ST ∧ RoadKit.Fld Z h' x ST "value" "[B" (.ref h.size) ∧ RoadKit.Fld Z h' x ST "coder" "B" (.int 0) ∧
  (∃ V : Cell, RoadKit.Arr Z h' h.size V .byte ∧ V.vm = .none ∧ Z.vm.findClass "[B" = some V.cls ∧ V.slots.size = A.slots.size ∧ ∀ j, j < A.slots.size → V.slots[j]? = some (.int (lo8 (cv A j)))) ∧
  ∀ (O n d : String) (w : Value), RoadKit.Fld Z h x O n d w → RoadKit.slotOf Z O n d ≠ RoadKit.slotOf Z ST "value" "[B" → RoadKit.slotOf Z O n d ≠ RoadKit.slotOf Z ST "coder" "B" → RoadKit.Fld Z h' x O n d w
/-- **new String(chars) AT A CALL, IN THE ROAD'S FORM**: for specialBack behind newO: x the fresh String, b the char[] with the cell A -/
theorem back {p : Program} {l : Launch} {e : Env} {R : Room} {s : State} {args : Array Value} {below : List Frame} {len W : Nat} {Z : State} {a0 : Array Value} {h : Heap} (hZ : Z.Warmed39 s.vm) (hw : ∀ d ∈ words, d.before a0 Z = true) {kI : Nat} (wi : (Jvm.Cond.instantiable ST kI).before a0 Z = true)
    {x b : Addr} {A : Cell} {z : Int32} {v0 c0 : Value} (E : RoadKit.Exa Z h x ST) (V : RoadKit.Fld Z h x ST "value" "[B" v0) (C : RoadKit.Fld Z h x ST "coder" "B" c0) (K : RoadKit.Arr Z h b A .char) (hty : Typed .char A) (S : RoadKit.Sta Z h ST "COMPACT_STRINGS" "Z" (.int z)) (hz : ¬ z = 0)
    (l0 : 0 < A.slots.size) (l2 : A.slots.size ≤ 536870912) (hp : ∀ i, i < A.slots.size → ¬ 255 < cv A i) (hfr : 4 ≤ R.frames) (hlo : W + 65 ≤ R.locals) :
    Back l R p e below s args New1.yN len W (fun P a => a = #[.ref x, .ref b] ∧ P.U.heap = h ∧ P.cells + 1 ≤ R.cells ∧ P.slots + A.slots.size ≤ R.slots)
      (fun P _ v B => ∃ L, Q Z x A h v B.U.heap L ∧ B.locs = P.locs ++ L ∧ B.cells = P.cells + 1 ∧ B.slots = P.slots + A.slots.size) := by
  intro m meth c P g ig mk a X hg hsize hdg hW hn hp'
  obtain ⟨rfl, rfl, r1, r2⟩ := hp'
  have al : Z.vm.Alike P.U.vm := hZ.alike.trans X.warmed.alike
  obtain ⟨D, cfV, kV, iV, fV, hD, gV, stV, knV, obV, asV, slV⟩ := id V
  obtain ⟨D', cfC, kC, iC, fC, hD', gC, stC, -, -, asC, slC⟩ := id C
  cases hD.symm.trans hD'
  obtain ⟨D2, kD, e1, e2, e3, e4, e5⟩ := id E
  cases hD.symm.trans e1
  obtain ⟨c2, k2, i1, i2, i3, -⟩ := Cond.instantiable_spec wi
  cases e2.symm.trans i1
  cases e3.symm.trans i2
  obtain ⟨kU, u1, u2⟩ := al.2.2 _ _ e3
  have hB : Blank ST x D P.U := ⟨hD, ⟨knV, fun q hq => by rw [hq] at obV; cases obV⟩, by rw [al.findClass]; exact e2, kU, u1, by rw [u2]; exact i3, by rw [u2]; exact e5 i3⟩
  have F1 : Found ST "value" "[B" fV P.U := ⟨SBG.found_only al ⟨cfV, kV, iV, gV⟩, stV⟩
  have F2 : Found ST "coder" "B" fC P.U := ⟨SBG.found_only al ⟨cfC, kC, iC, gC⟩, stC⟩
  have hA : Ch b A P.U := ⟨⟨K.1, State.isArrayOf_alike al K.2.1, K.2.2, by omega⟩, hty⟩
  have hS : StaticIs P.U ST "COMPACT_STRINGS" "Z" (.int z) := by
    obtain ⟨cfS, iS, kS, fS, st, cS, t1, t2, t3, t4, t5, t6, t7⟩ := S
    exact StaticIs.there (s := { Z with heap := P.U.heap }) ⟨cfS, iS, kS, fS, st, cS, t1, t2, t3, t4, t5, (fun q => by rw [q] at t6; cases t6), t7⟩ al rfl
  obtain ⟨v, B, X', ⟨⟨hv, E', V', q1, q2, q3, q4, q5, q6, q7, q8, q9, q10, q11⟩, hl, hc, hs⟩, st⟩ := New1.pays x D fV fC b A z (tab_of (moved hZ hw)) hfr hlo m meth c P g ig mk _ X hg hsize hdg hW hn ⟨r1, r2, rfl, hB, F1, F2, hA, hS, hz, l0, l2, hp⟩
  have al' : Z.vm.Alike B.U.vm := hZ.alike.trans X'.warmed.alike
  have hsz : E'.slots.size = D.slots.size := by
    obtain ⟨-, -, -, kB, w1, w2, w3⟩ := q1
    obtain ⟨kB', y1, y2⟩ := al'.2.2 _ _ e3
    rw [q2.2.1] at w1
    cases w1.symm.trans y1
    rw [w3, e5 i3, y2]
  refine ⟨v, B, X', ⟨_, ⟨hv, ?_, ⟨by omega, fun y cy hy hn' => q10 y cy (by simpa using hn') hy, fun y cy hy => ?_⟩, q11, ⟨E', _, q1.1, by rw [q2.2.1]; exact e2, by rw [q2.2.1]; exact e3, by rw [q2.1]; exact obV, fun _ => by rw [hsz]; exact e5 i3⟩,
    ⟨E', cfV, kV, iV, fV, q1.1, gV, stV, by rw [q2.1]; exact knV, by rw [q2.1]; exact obV, by rw [q2.2.1]; exact asV, q3⟩, ⟨E', cfC, kC, iC, fC, q1.1, gC, stC, by rw [q2.1]; exact knV, by rw [q2.1]; exact obV, by rw [q2.2.1]; exact asC, q4⟩,
    ⟨V', ⟨q5.1, State.isArrayOf_alike al'.symm q5.2.1, q5.2.2.1⟩, q6, by rw [← al'.findClass]; exact q7, q8, fun j hj => by have := q9 j hj; rwa [Nat.zero_add] at this⟩, fun O n d w F n1 n2 => ?_⟩, hl, hc, hs⟩, st⟩
  · intro y hy
    simp only [List.mem_cons, List.not_mem_nil, or_false] at hy
    rcases hy with rfl | rfl <;> rfl
  · by_cases q : y = x
    · subst q
      cases hD.symm.trans hy
      exact ⟨E', q1.1, q2.2.1, q2.1, hsz⟩
    · exact ⟨cy, q10 y cy q hy, rfl, rfl, rfl⟩
  · obtain ⟨D3, cf, k, i, f, g1, g2, g3, g4, g5, g6, g7⟩ := F
    cases hD.symm.trans g1
    simp only [RoadKit.slotOf, g2, gV, gC, Option.map_some, Option.getD_some] at n1 n2
    exact ⟨E', cf, k, i, f, q1.1, g2, g3, by rw [q2.1]; exact g4, by rw [q2.1]; exact g5, by rw [q2.2.1]; exact g6, by rw [q2.2.2 f.slot (by simp [n1, n2])]; exact g7⟩
end StrChars.Road
namespace StrChars.Road
open Jvm Sem ClassFile Op Lib Jvm.Stand Jvm.Free Jvm.Free.XT
/-- WHAT COMES BACK, the byte[] as a list of values -/
def QA (Z : State) (x : Addr) (zn : Int32) (cs : List Int32) (h : Heap) (v : Option Value) (h' : Heap) (L : List Loc) : Prop := v = none ∧ (∀ y ∈ L, y.base = x) ∧ RoadKit.Keep h h' [x] ∧ h'.size = h.size + 1 ∧ RoadKit.Exa Z h' x ST ∧ RoadKit.Fld Z h' x ST "value" "[B" (.ref h.size) ∧ RoadKit.Fld Z h' x ST "coder" "B" (.int 0) ∧
  (∃ kb, Z.vm.findClass "[B" = some kb ∧ RoadKit.Arv Z h' h.size kb .byte zn (cs.map fun c => .int (lo8 c)) (.int 0)) ∧
  ∀ (O n d : String) (w : Value), RoadKit.Fld Z h x O n d w → RoadKit.slotOf Z O n d ≠ RoadKit.slotOf Z ST "value" "[B" → RoadKit.slotOf Z O n d ≠ RoadKit.slotOf Z ST "coder" "B" → RoadKit.Fld Z h' x O n d w
/-- **new String(chars) AT A CALL, THE ARRAYS AS LISTS**: the char[] at b holds cs, not empty, no char above 255 -/
theorem backArv {p : Program} {l : Launch} {e : Env} {R : Room} {s : State} {args : Array Value} {below : List Frame} {len W : Nat} {Z : State} {a0 : Array Value} {h : Heap} (hZ : Z.Warmed39 s.vm) (hw : ∀ d ∈ words, d.before a0 Z = true) {kI : Nat} (wi : (Jvm.Cond.instantiable ST kI).before a0 Z = true)
    {x b : Addr} {k : ClassId} {zn z : Int32} {cs : List Int32} {dv v0 c0 : Value} (E : RoadKit.Exa Z h x ST) (V : RoadKit.Fld Z h x ST "value" "[B" v0) (C : RoadKit.Fld Z h x ST "coder" "B" c0) (K : RoadKit.Arv Z h b k .char zn (cs.map Value.int) dv) (S : RoadKit.Sta Z h ST "COMPACT_STRINGS" "Z" (.int z)) (hz : ¬ z = 0)
    (hlen : zn.toNatClampNeg = cs.length) (h0 : 0 < cs.length) (hbig : cs.length ≤ 536870912) (hall : ∀ c ∈ cs, ¬ 255 < c) (hfr : 4 ≤ R.frames) (hlo : W + 65 ≤ R.locals) :
    Back l R p e below s args New1.yN len W (fun P a => a = #[.ref x, .ref b] ∧ P.U.heap = h ∧ P.cells + 1 ≤ R.cells ∧ P.slots + cs.length ≤ R.slots)
      (fun P _ v B => ∃ L, QA Z x zn cs h v B.U.heap L ∧ B.locs = P.locs ++ L ∧ B.cells = P.cells + 1 ∧ B.slots = P.slots + cs.length) := by
  obtain ⟨A, K1, K2, K3, K4, K5, K6⟩ := K
  have e : A.slots.size = cs.length := K3.trans hlen
  have hat : ∀ (i : Nat) (hi : i < cs.length), A.slots[i]? = some (.int cs[i]) := fun i hi => by rw [K5 i (by omega)]; simp [List.getD_eq_getElem?_getD, hi]
  have hcv : ∀ (i : Nat) (hi : i < cs.length), cv A i = cs[i] := fun i hi => by unfold cv; rw [hat i hi]
  have hty : Typed .char A := fun i v hv => by
    have hi : i < A.slots.size := (Array.getElem?_eq_some_iff.mp hv).1
    have q := K5 i hi
    rw [hv] at q
    rw [Option.some.inj q]
    exact K6 i hi
  refine Back.mono (back hZ hw wi E V C K1 hty S hz (by omega) (by omega) (fun i hi => by rw [hcv i (by omega)]; exact hall _ (List.getElem_mem _)) hfr hlo) (fun P a hp => ⟨hp.1, hp.2.1, hp.2.2.1, by rw [e]; exact hp.2.2.2⟩) (fun P a v B hp hq => ?_)
  obtain ⟨L, ⟨q1, q2, q3, q4, q5, q6, q7, ⟨V', v1, v2, v3, v4, v5⟩, q9⟩, hl, hc, hs⟩ := hq
  refine ⟨L, ⟨q1, q2, q3, q4, q5, q6, q7, ⟨V'.cls, v3, V', v1, rfl, by rw [v4, e, hlen], K4, fun i hi => ?_, fun i hi => ?_⟩, q9⟩, hl, hc, by rw [hs, e]⟩
  · have hi' : i < cs.length := by omega
    rw [v5 i (by omega), hcv i hi']; simp [List.getD_eq_getElem?_getD, hi']
  · have hi' : i < cs.length := by omega
    simp only [List.getD_eq_getElem?_getD, List.getElem?_map, List.getElem?_eq_getElem hi', Option.map_some, Option.getD_some]
    exact fits_lo8 _
end StrChars.Road
namespace StrChars.Road
open Jvm Sem ClassFile Op Lib Jvm.Stand Jvm.Free Jvm.Free.XT
/-- WHAT COMES BACK, in the writer's own shape -/
def QV (Z : State) (x : Addr) (N : Int32) (bs : List Int32) (h : Heap) (n0 : Nat) (v : Option Value) (h' : Heap) (L : List Loc) : Prop := v = none ∧ RoadKit.Fr n0 L ∧ RoadKit.Keep h h' [x] ∧ RoadKit.Exa Z h' x ST ∧ RoadKit.Fld Z h' x ST "coder" "B" (.int 0) ∧
  ∃ (t : Addr) (kb : ClassId), n0 ≤ t ∧ h.size ≤ t ∧ ¬ t = x ∧ RoadKit.Fld Z h' x ST "value" "[B" (.ref t) ∧ RoadKit.Arv Z h' t kb .byte N (bs.map Value.int) (.int 0)
/-- **new String(chars) AT A CALL, FOR THE WRITER**: a char[] of n known ints, each 0 to 255 -/
theorem backV {p : Program} {l : Launch} {e : Env} {R : Room} {s : State} {args : Array Value} {below : List Frame} {len W : Nat} {Z : State} {a0 : Array Value} {h : Heap} (hZ : Z.Warmed39 s.vm) (hw : ∀ d ∈ words, d.before a0 Z = true) {kI : Nat} (wi : (Jvm.Cond.instantiable ST kI).before a0 Z = true)
    {x b : Addr} {kC : ClassId} {cs bs : List Int32} {d v0 c0 : Value} {z N : Int32} {n n0 : Nat} (hx0 : n0 ≤ x) (hh0 : n0 ≤ h.size) (E : RoadKit.Exa Z h x ST) (V : RoadKit.Fld Z h x ST "value" "[B" v0) (C : RoadKit.Fld Z h x ST "coder" "B" c0) (K : RoadKit.Arv Z h b kC .char N (cs.map Value.int) d) (S : RoadKit.Sta Z h ST "COMPACT_STRINGS" "Z" (.int z)) (hz : ¬ z = 0)
    (hn : cs.length = n) (hN : N = Int32.ofNat n) (l0 : 0 < n) (l2 : n ≤ 4000) (hp : ∀ c ∈ cs, ¬ c < 0 ∧ ¬ (255 : Int32) < c) (hb : bs = cs.map (fun c => c.toInt8.toInt32)) (hfr : 4 ≤ R.frames) (hlo : W + 65 ≤ R.locals) :
    Back l R p e below s args (⟨"java/lang/String", "<init>", "([C)V"⟩ : MethodName) len W (fun P a => a = #[.ref x, .ref b] ∧ P.U.heap = h ∧ P.cells + 1 ≤ R.cells ∧ P.slots + n ≤ R.slots)
      (fun P _ v B => ∃ L, QV Z x N bs h n0 v B.U.heap L ∧ B.locs = P.locs ++ L ∧ B.cells = P.cells + 1 ∧ B.slots = P.slots + n) := by
  subst hn hN hb
  refine Back.mono (backArv hZ hw wi E V C K S hz (n32 (by omega)) l0 (by omega) (fun c hc => (hp c hc).2) hfr hlo) (fun P a hp => hp) (fun P a v B hp hq => ?_)
  obtain ⟨L, ⟨q1, q2, q3, q4, q5, q6, q7, ⟨kb, v1, v2⟩, q9⟩, hl, hc, hs⟩ := hq
  exact ⟨L, ⟨q1, fun y hy => by rw [q2 y hy]; exact hx0, q3, q5, q7, h.size, kb, hh0, Nat.le_refl _, Nat.ne_of_gt E.lt, q6, by rw [List.map_map]; exact v2⟩, hl, hc, hs⟩
end StrChars.Road
namespace StrChars
open Jvm Sem ClassFile Op Lib Jvm.Stand Jvm.Free.XT Jvm.Free.ALB Jvm.Free.JM Jvm.Free
open Jvm.Lib.Cold (StaticIs)
def hi8 (x : Int32) : Int32 := lo8 (x >>> ((8 : Int32) &&& 31))
/-- what StringUTF16.getChar makes of two bytes -/
def pairCh (u v : Int32) : Int32 := (((u &&& 255) <<< ((0 : Int32) &&& 31)) ||| ((v &&& 255) <<< ((8 : Int32) &&& 31))).toUInt32.toUInt16.toUInt32.toInt32
theorem lo8_and (x : Int32) : (lo8 x &&& 255).toBitVec.toNat = x.toBitVec.toNat % 256 := by
  have h : (lo8 x).toBitVec = (x.toBitVec.signExtend 8).signExtend 32 := by rw [lo8, Int8.toBitVec_toInt32, Int32.toBitVec_toInt8]
  rw [Int32.toBitVec_and, BitVec.toNat_and, h]
  have e : ((x.toBitVec.signExtend 8).signExtend 32).toNat % 256 = x.toBitVec.toNat % 256 := by
    rw [BitVec.toNat_signExtend]
    have hlt := x.toBitVec.isLt
    simp only [BitVec.toNat_setWidth, BitVec.toNat_signExtend]
    split <;> split <;> omega
  rw [← e]
  exact Nat.and_two_pow_sub_one_eq_mod _ 8
theorem pair_says {c : Int32} (h0 : ¬ c < 0) (h1 : ¬ 65535 < c) : pairCh (lo8 c) (hi8 c) = c := by
  rw [Int32.lt_iff_toInt_lt] at h0 h1
  have e0 : (0 : Int32).toInt = 0 := rfl
  have e1 : (65535 : Int32).toInt = 65535 := rfl
  have hc : c.toInt = c.toBitVec.toNat := by
    have := c.toBitVec.isLt
    have e : c.toInt = c.toBitVec.toInt := rfl
    rw [e] at h0 h1
    rw [e]
    rw [BitVec.toInt_eq_toNat_cond] at h0 h1 ⊢
    split at h0 <;> split <;> omega
  have hn : c.toBitVec.toNat < 65536 := by omega
  have a1 := lo8_and c
  have a2 : (hi8 c &&& 255).toBitVec.toNat = c.toBitVec.toNat / 256 := by
    rw [hi8, lo8_and]
    have e : ((8 : Int32) &&& 31) = 8 := by decide
    rw [e, Int32.toBitVec_shiftRight]
    have e2 : ((8 : Int32).toBitVec.smod 32) = 8#32 := by decide
    rw [e2, BitVec.sshiftRight_eq', BitVec.toNat_sshiftRight_of_msb_false (by rw [BitVec.msb_eq_false_iff_two_mul_lt]; omega)]
    show c.toBitVec.toNat >>> 8 % 256 = _
    rw [Nat.shiftRight_eq_div_pow]
    omega
  unfold pairCh
  apply Int32.toBitVec_inj.mp
  apply BitVec.eq_of_toNat_eq
  have f0 : ((0 : Int32) &&& 31) = 0 := by decide
  have f8 : ((8 : Int32) &&& 31) = 8 := by decide
  rw [f0, f8]
  have g : (((lo8 c &&& 255) <<< (0 : Int32)) ||| ((hi8 c &&& 255) <<< (8 : Int32))).toBitVec.toNat = c.toBitVec.toNat := by
    rw [Int32.toBitVec_or, Int32.toBitVec_shiftLeft, Int32.toBitVec_shiftLeft]
    have s0 : ((0 : Int32).toBitVec.smod 32) = 0#32 := by decide
    have s8 : ((8 : Int32).toBitVec.smod 32) = 8#32 := by decide
    rw [s0, s8, BitVec.toNat_or]
    simp only [BitVec.shiftLeft_eq', BitVec.toNat_shiftLeft, a1, a2]
    show (c.toBitVec.toNat % 256) <<< 0 % 2 ^ 32 ||| (c.toBitVec.toNat / 256) <<< 8 % 2 ^ 32 = _
    rw [Nat.shiftLeft_zero, Nat.mod_eq_of_lt (show c.toBitVec.toNat % 256 < 2 ^ 32 by omega), Nat.mod_eq_of_lt (show (c.toBitVec.toNat / 256) <<< 8 < 2 ^ 32 by rw [Nat.shiftLeft_eq]; omega), Nat.or_comm, ← Nat.shiftLeft_add_eq_or_of_lt (by omega), Nat.shiftLeft_eq]
    omega
  show BitVec.toNat (((((lo8 c &&& 255) <<< (0 : Int32)) ||| ((hi8 c &&& 255) <<< (8 : Int32))).toBitVec.setWidth 16).setWidth 32) = _
  rw [BitVec.toNat_setWidth, BitVec.toNat_setWidth, g]
  omega
end StrChars
namespace StrChars
open Jvm Sem ClassFile Op Lib Jvm.Stand Jvm.Free.XT Jvm.Free.ALB Jvm.Free.JM Jvm.Free
open Jvm.Lib.Cold (StaticIs)
/-- the array's cell V codes the n chars f 0 .. f (n - 1) by the coder cd, as the JDK does: coder 1 just where some char is above 255 -/
def Cod (cd : Int32) (n : Nat) (f : Nat → Int32) (V : Cell) : Prop := (cd = 0 ∧ V.slots.size = n ∧ ∀ j, j < n → V.slots[j]? = some (.int (lo8 (f j))) ∧ ¬ 255 < f j) ∨ (cd = 1 ∧ V.slots.size = 2 * n ∧ (∀ j, j < n → V.slots[2 * j]? = some (.int (lo8 (f j))) ∧ V.slots[2 * j + 1]? = some (.int (hi8 (f j)))) ∧ ∃ j, j < n ∧ 255 < f j)
/-- **x is a String of the n chars f 0 .. f (n - 1)**, Latin-1 or UTF-16; its array at t has the cell V -/
def Txt (x t : Addr) (V : Cell) (cd : Int32) (n : Nat) (f : Nat → Int32) (U : State) : Prop := Exact "java/lang/String" x U ∧ Has x "java/lang/String" "value" "[B" (.ref t) U ∧ Has x "java/lang/String" "coder" "B" (.int cd) U ∧ XT.Arr .byte t V U ∧ Cod cd n f V ∧ ∀ j, j < n → ¬ f j < 0 ∧ ¬ 65535 < f j
theorem Txt.mv {x t : Addr} {V : Cell} {cd : Int32} {n : Nat} {f : Nat → Int32} {U U' : State} (h : Txt x t V cd n f U) (hal : U.vm.Alike U'.vm) (hh : U'.heap = U.heap) : Txt x t V cd n f U' := ⟨h.1.mv hal hh, h.2.1.mv hal hh, h.2.2.1.mv hal hh, h.2.2.2.1.mv hal hh, h.2.2.2.2⟩
end StrChars
namespace StrChars.Road
open Jvm Sem ClassFile Op Lib Jvm.Stand Jvm.Free Jvm.Free.XT
open Jvm.Lib.Cold (StaticIs)
theorem consq {a : Array Value} {s : State} {c : Jvm.Cond} {L : List Jvm.Cond} (h0 : c.before a s = true) (h : ∀ w ∈ L, w.before a s = true) : ∀ w ∈ c :: L, w.before a s = true := fun w hw => (List.mem_cons.mp hw).elim (fun e => e ▸ h0) (h w)
/-- the bytes of the chars cs, low before high -/
def wideBytes : List Int32 → List Value
  | [] => []
  | c :: cs => .int (lo8 c) :: .int (hi8 c) :: wideBytes cs
theorem wide_lo (d : Value) : ∀ (cs : List Int32) (j : Nat), j < cs.length → (wideBytes cs).getD (2 * j) d = .int (lo8 (cs.getD j 0))
  | [], j, h => absurd h (Nat.not_lt_zero j)
  | c :: cs, 0, _ => rfl
  | c :: cs, j + 1, h => by
    have q := wide_lo d cs j (by simpa using h)
    rw [show 2 * (j + 1) = 2 * j + 1 + 1 from by omega]
    simpa [wideBytes] using q
theorem wide_hi (d : Value) : ∀ (cs : List Int32) (j : Nat), j < cs.length → (wideBytes cs).getD (2 * j + 1) d = .int (hi8 (cs.getD j 0))
  | [], j, h => absurd h (Nat.not_lt_zero j)
  | c :: cs, 0, _ => rfl
  | c :: cs, j + 1, h => by
    have q := wide_hi d cs j (by simpa using h)
    rw [show 2 * (j + 1) + 1 = 2 * j + 1 + 1 + 1 from by omega]
    simpa [wideBytes] using q
theorem low_at (d : Value) (cs : List Int32) (j : Nat) (h : j < cs.length) : (cs.map fun c => Value.int (lo8 c)).getD j d = .int (lo8 (cs.getD j 0)) := by
  simp [List.getD_eq_getElem?_getD, h]
/-- an array of N2 bytes vs codes the chars cs by the coder cd -/
def CodA (cs : List Int32) (cd N2 : Int32) (vs : List Value) : Prop := (cd = 0 ∧ N2 = Int32.ofNat cs.length ∧ vs = (cs.map fun c => Value.int (lo8 c)) ∧ ∀ c ∈ cs, ¬ 255 < c) ∨ (cd = 1 ∧ N2 = Int32.ofNat (2 * cs.length) ∧ vs = wideBytes cs ∧ ∃ c ∈ cs, 255 < c)
theorem CodA.cod {cs : List Int32} {cd N2 : Int32} {vs : List Value} {V : Cell} (h : CodA cs cd N2 vs) (hn : 2 * cs.length < 2 ^ 31) (hs : V.slots.size = N2.toNatClampNeg) (hv : RoadKit.Has V vs (.int 0)) : Cod cd cs.length (fun j => cs.getD j 0) V := by
  rcases h with ⟨rfl, rfl, rfl, h⟩ | ⟨rfl, rfl, rfl, c, hc, hw⟩
  · rw [n32 (by omega)] at hs
    exact Or.inl ⟨rfl, hs, fun j hj => ⟨by rw [hv j (by omega), low_at _ _ _ hj], by
      have e : cs.getD j 0 = cs[j] := by simp [List.getD_eq_getElem?_getD, hj]
      show ¬ 255 < cs.getD j 0
      rw [e]; exact h _ (List.getElem_mem _)⟩⟩
  · rw [n32 (by omega)] at hs
    obtain ⟨j, hj, rfl⟩ := List.getElem_of_mem hc
    exact Or.inr ⟨rfl, hs, fun j hj => ⟨by rw [hv _ (by omega), wide_lo _ _ _ hj], by rw [hv _ (by omega), wide_hi _ _ _ hj]⟩, j, hj, by
      have e : cs.getD j 0 = cs[j] := by simp [List.getD_eq_getElem?_getD, hj]
      show 255 < cs.getD j 0
      rw [e]; exact hw⟩
/-- an object of exactly java/lang/String, its two fields found: as the laws ask it -/
theorem strObj {Z U : State} {a0 : Array Value} {kI : Nat} (wi : (Jvm.Cond.instantiable ST kI).before a0 Z = true) (al : Z.vm.Alike U.vm) {x : Addr} {v0 c0 : Value} (E : RoadKit.Exa Z U.heap x ST) (V : RoadKit.Fld Z U.heap x ST "value" "[B" v0) (C : RoadKit.Fld Z U.heap x ST "coder" "B" c0) :
    ∃ (D : Cell) (fV fC : Field), Blank ST x D U ∧ Found ST "value" "[B" fV U ∧ Found ST "coder" "B" fC U ∧ D.slots[fV.slot]? = some v0 ∧ D.slots[fC.slot]? = some c0 ∧ RoadKit.slotOf Z ST "value" "[B" = fV.slot ∧ RoadKit.slotOf Z ST "coder" "B" = fC.slot := by
  obtain ⟨D, cfV, kV, iV, fV, hD, gV, stV, knV, obV, asV, slV⟩ := V
  obtain ⟨D', cfC, kC, iC, fC, hD', gC, stC, -, -, asC, slC⟩ := C
  cases hD.symm.trans hD'
  obtain ⟨D2, kD, e1, e2, e3, e4, e5⟩ := E
  cases hD.symm.trans e1
  obtain ⟨c2, k2, i1, i2, i3, -⟩ := Cond.instantiable_spec wi
  cases e2.symm.trans i1
  cases e3.symm.trans i2
  obtain ⟨kU, u1, u2⟩ := al.2.2 _ _ e3
  exact ⟨D, fV, fC, ⟨hD, ⟨knV, fun q hq => by rw [hq] at obV; cases obV⟩, by rw [al.findClass]; exact e2, kU, u1, by rw [u2]; exact i3, by rw [u2]; exact e5 i3⟩, ⟨SBG.found_only al ⟨cfV, kV, iV, gV⟩, stV⟩, ⟨SBG.found_only al ⟨cfC, kC, iC, gC⟩, stC⟩, slV, slC, by simp [RoadKit.slotOf, gV], by simp [RoadKit.slotOf, gC]⟩
theorem sta_is {Z U : State} (al : Z.vm.Alike U.vm) {C n d : String} {v : Value} (S : RoadKit.Sta Z U.heap C n d v) : StaticIs U C n d v := by
  obtain ⟨cfS, iS, kS, fS, st, cS, t1, t2, t3, t4, t5, t6, t7⟩ := S
  exact StaticIs.there (s := { Z with heap := U.heap }) ⟨cfS, iS, kS, fS, st, cS, t1, t2, t3, t4, t5, (fun q => by rw [q] at t6; cases t6), t7⟩ al rfl
end StrChars.Road
namespace StrChars
open Jvm Sem ClassFile Op Lib Jvm.Stand Jvm.Free.XT Jvm.Free.ALB Jvm.Free.JM Jvm.Free
open Jvm.Lib.Cold (StaticIs)
/-- what place i of a byte[]'s cell holds -/
def yv (A : Cell) (i : Nat) : Int32 := match A.slots[i]? with | some (.int x) => x | _ => 0
theorem yv_get {a : Addr} {A : Cell} {U : State} (h : XT.Arr .byte a A U) (ht : Typed .byte A) {i : Nat} (hi : i < A.slots.size) : A.slots[i]? = some (.int (yv A i)) := by
  have e := Array.getElem?_eq_getElem hi
  have f := ht i _ e
  unfold yv; rw [e]
  generalize A.slots[i] = v at f
  cases v <;> simp [fits] at f ⊢
/-- the two arrays are equal, place for place -/
def EqC (A B : Cell) : Prop := A.slots.size = B.slots.size ∧ ∀ i, i < A.slots.size → yv A i = yv B i
/-- a boolean that says whether p -/
def Says01 (q : Prop) (r : Option Value) (s u : State) : Prop := ∃ v : Int32, r = some (.int v) ∧ u.heap = s.heap ∧ ((v = 1 ∧ q) ∨ (v = 0 ∧ ¬ q))
theorem Says01.mv {q : Prop} : ∀ r (U U' V V' : State), U'.heap = U.heap → V.vm.Alike V'.vm → V'.heap = V.heap → Says01 q r U V → Says01 q r U' V' :=
  fun r U U' V V' h1 _ h2 ⟨v, a, b, c⟩ => ⟨v, a, by rw [h1, h2]; exact b, c⟩
namespace LEq
def yN : MethodName := ⟨"java/lang/StringLatin1", "equals", "([B[B)Z"⟩
abbrev yB : ByteArray := jdk_43_method_13_code
theorem d0 : decode yB 0 = .ok (.aload_n 0, 1) := by decide +kernel
theorem d1 : decode yB 1 = .ok (.arraylength, 1) := by decide +kernel
theorem d2 : decode yB 2 = .ok (.aload_n 1, 1) := by decide +kernel
theorem d3 : decode yB 3 = .ok (.arraylength, 1) := by decide +kernel
theorem d4 : decode yB 4 = .ok (.if_icmp (.ne) 30, 3) := by decide +kernel
theorem d7 : decode yB 7 = .ok (.iconst 0, 1) := by decide +kernel
theorem d8 : decode yB 8 = .ok (.istore_n 2, 1) := by decide +kernel
theorem d9 : decode yB 9 = .ok (.iload_n 2, 1) := by decide +kernel
theorem d10 : decode yB 10 = .ok (.aload_n 0, 1) := by decide +kernel
theorem d11 : decode yB 11 = .ok (.arraylength, 1) := by decide +kernel
theorem d12 : decode yB 12 = .ok (.if_icmp (.ge) 20, 3) := by decide +kernel
theorem d15 : decode yB 15 = .ok (.aload_n 0, 1) := by decide +kernel
theorem d16 : decode yB 16 = .ok (.iload_n 2, 1) := by decide +kernel
theorem d17 : decode yB 17 = .ok (.baload, 1) := by decide +kernel
theorem d18 : decode yB 18 = .ok (.aload_n 1, 1) := by decide +kernel
theorem d19 : decode yB 19 = .ok (.iload_n 2, 1) := by decide +kernel
theorem d20 : decode yB 20 = .ok (.baload, 1) := by decide +kernel
theorem d21 : decode yB 21 = .ok (.if_icmp (.eq) 5, 3) := by decide +kernel
theorem d24 : decode yB 24 = .ok (.iconst 0, 1) := by decide +kernel
theorem d25 : decode yB 25 = .ok (.ireturn, 1) := by decide +kernel
theorem d26 : decode yB 26 = .ok (.iinc 2 1, 3) := by decide +kernel
theorem d29 : decode yB 29 = .ok (.goto (-20), 3) := by decide +kernel
theorem d32 : decode yB 32 = .ok (.iconst 1, 1) := by decide +kernel
theorem d33 : decode yB 33 = .ok (.ireturn, 1) := by decide +kernel
theorem d34 : decode yB 34 = .ok (.iconst 0, 1) := by decide +kernel
theorem d35 : decode yB 35 = .ok (.ireturn, 1) := by decide +kernel
def site : List Cond := []
def tab : Cond := tabOf yN yB 3 (some .boolean) site
def P (a : Addr) (A : Cell) (b : Addr) (B : Cell) (args : Array Value) (s : State) : Prop := args = #[.ref a, .ref b] ∧ XT.Arr .byte a A s ∧ Typed .byte A ∧ XT.Arr .byte b B s ∧ Typed .byte B
/-- whether two byte[] are equal, place for place -/
theorem law (l : Launch) (a : Addr) (A : Cell) (b : Addr) (B : Cell) : Law l yN 2 2 0 0 yB 3 (some .boolean) site (P a A b B) (Says01 (EqC A B)) [] 0 0 := by
  refine Law.of_walk (plainFor_of_name (by decide +kernel)) (by decide +kernel) (by decide +kernel) (by decide) (fun _ _ h => by rw [h.1]; rfl) (fun _ U U' hal hh h => ⟨h.1, h.2.1.mv hal hh, h.2.2.1, h.2.2.2.1.mv hal hh, h.2.2.2.2⟩) (fun r U U' V V' h1 hal h2 h => Says01.mv r U U' V V' h1 hal h2 h) ?_
  intro p e s m args below meth c s₁ X0 hexec hbytes hml hret hlk hnm hown hh0 W hP
  obtain ⟨rfl, hA, tA, hB, tB⟩ := hP
  have a31 := hA.2.2.2
  have b31 := hB.2.2.2
  have hA0 := hA.mv X0.warmed.alike hh0
  have hB0 := hB.mv X0.warmed.alike hh0
  have c1 : Steps p.tables e below (s₁.setTop (entryFrame m #[.ref a, .ref b] 3)) (s₁.setTop (mkF m 0 #[.val (.ref a), .val (.ref b), .unset] [])) := entry rfl
  have c2 : Steps p.tables e below (s₁.setTop (entryFrame m #[.ref a, .ref b] 3)) (s₁.setTop (mkF m 4 #[.val (.ref a), .val (.ref b), .unset] [.int (Int32.ofNat B.slots.size), .int (Int32.ofNat A.slots.size)])) := c1.trans (by
    refine XS.aloadN X0.here hexec rfl (hb hbytes d0) rfl rfl ?_
    refine X0.alen hexec hA0 rfl rfl (hb hbytes d1) ?_
    refine XS.aloadN X0.here hexec rfl (hb hbytes d2) rfl rfl ?_
    refine X0.alen hexec hB0 rfl rfl (hb hbytes d3) ?_
    exact Steps.refl _)
  by_cases hs : A.slots.size = B.slots.size
  · have c3 : Steps p.tables e below (s₁.setTop (entryFrame m #[.ref a, .ref b] 3)) (s₁.setTop (mkF m 9 #[.val (.ref a), .val (.ref b), .val (.int 0)] [])) := c2.trans (by
      refine XS.icmpNo X0.here hexec rfl (hb hbytes d4) rfl (ii_ne_f (by rw [hs])) ?_
      refine iconstV X0.here hexec rfl 0 (hb hbytes d7) (by decide) ?_
      refine XS.istoreN X0.here hexec rfl (hb hbytes d8) rfl rfl ?_
      exact Steps.refl _)
    have loop : ∀ (r i : Nat), i + r = A.slots.size → (∀ j, j < i → yv A j = yv B j) → Steps p.tables e below (s₁.setTop (entryFrame m #[.ref a, .ref b] 3)) (s₁.setTop (mkF m 9 #[.val (.ref a), .val (.ref b), .val (.int (Int32.ofNat i))] [])) → ∃ (pc : Nat) (Ls : Array Slot) (v : Int32), (pc = 25 ∨ pc = 33) ∧ ((v = 1 ∧ EqC A B) ∨ (v = 0 ∧ ¬ EqC A B)) ∧ Steps p.tables e below (s₁.setTop (entryFrame m #[.ref a, .ref b] 3)) (s₁.setTop (mkF m pc Ls [.int v])) := by
      intro r
      induction r with
      | zero =>
        intro i hi he cl
        exact ⟨33, _, 1, Or.inr rfl, Or.inl ⟨rfl, hs, fun j hj => he j (by omega)⟩, cl.trans (by
          refine XS.iloadN X0.here hexec rfl (hb hbytes d9) rfl ?_
          refine XS.aloadN X0.here hexec rfl (hb hbytes d10) rfl rfl ?_
          refine X0.alen hexec hA0 rfl rfl (hb hbytes d11) ?_
          refine XS.icmpYes X0.here hexec rfl (pc0 := 12) rfl (hb hbytes d12) rfl (ii_ge_t (nlt32 (by omega) (by omega))) (by decide) rfl ?_
          refine iconstV X0.here hexec rfl 1 (hb hbytes d32) (by decide) ?_
          exact Steps.refl _)⟩
      | succ r ih =>
        intro i hi he cl
        have c4 : Steps p.tables e below (s₁.setTop (entryFrame m #[.ref a, .ref b] 3)) (s₁.setTop (mkF m 21 #[.val (.ref a), .val (.ref b), .val (.int (Int32.ofNat i))] [.int (yv B i), .int (yv A i)])) := cl.trans (by
          refine XS.iloadN X0.here hexec rfl (hb hbytes d9) rfl ?_
          refine XS.aloadN X0.here hexec rfl (hb hbytes d10) rfl rfl ?_
          refine X0.alen hexec hA0 rfl rfl (hb hbytes d11) ?_
          refine XS.icmpNo X0.here hexec rfl (hb hbytes d12) rfl (ii_ge_f (lt32 (by omega) (by omega))) ?_
          refine XS.aloadN X0.here hexec rfl (hb hbytes d15) rfl rfl ?_
          refine XS.iloadN X0.here hexec rfl (hb hbytes d16) rfl ?_
          refine X0.aget hexec hA0 rfl (yv_get hA tA (i := i) (by omega)) rfl rfl (hb hbytes d17) ?_
          refine XS.aloadN X0.here hexec rfl (hb hbytes d18) rfl rfl ?_
          refine XS.iloadN X0.here hexec rfl (hb hbytes d19) rfl ?_
          refine X0.aget hexec hB0 rfl (yv_get hB tB (i := i) (by omega)) rfl rfl (hb hbytes d20) ?_
          exact Steps.refl _)
        by_cases hv : yv A i = yv B i
        · have c5 : Steps p.tables e below (s₁.setTop (entryFrame m #[.ref a, .ref b] 3)) (s₁.setTop (mkF m 9 #[.val (.ref a), .val (.ref b), .val (.int (Int32.ofNat i + 1))] [])) := c4.trans (by
            refine XS.icmpYes X0.here hexec rfl (pc0 := 21) rfl (hb hbytes d21) rfl (ii_eq_t hv) (by decide) rfl ?_
            refine iincV X0.here hexec rfl 1 (hb hbytes d26) (by decide) rfl rfl ?_
            refine XS.goto X0.here hexec rfl (pc0 := 29) rfl (hb hbytes d29) (by decide) rfl ?_
            exact Steps.refl _)
          rw [succ32] at c5
          exact ih (i + 1) (by omega) (fun j hj => by
            by_cases e : j = i
            · rw [e]; exact hv
            · exact he j (by omega)) c5
        · exact ⟨25, _, 0, Or.inl rfl, Or.inr ⟨rfl, fun q => hv (q.2 i (by omega))⟩, c4.trans (by
            refine XS.icmpNo X0.here hexec rfl (hb hbytes d21) rfl (ii_eq_f hv) ?_
            refine iconstV X0.here hexec rfl 0 (hb hbytes d24) (by decide) ?_
            exact Steps.refl _)⟩
    obtain ⟨pc, Ls, v, hpc, hv, cz⟩ := loop A.slots.size 0 (by omega) (fun j hj => absurd hj (Nat.not_lt_zero j)) c3
    have nv : narrow .boolean (.int v) = .int v := by rcases hv with ⟨rfl, -⟩ | ⟨rfl, -⟩ <;> rfl
    rcases hpc with rfl | rfl
    · exact ⟨s₁, some (.int v), _, _, _, X0, rfl, rfl, rfl, (fun h => by cases h), ⟨v, rfl, hh0, hv⟩, fun fs hl => cz.trans (X0.ireturnOut hexec hret nv (Or.inr (Or.inl rfl)) (hb hbytes d25) hl)⟩
    · exact ⟨s₁, some (.int v), _, _, _, X0, rfl, rfl, rfl, (fun h => by cases h), ⟨v, rfl, hh0, hv⟩, fun fs hl => cz.trans (X0.ireturnOut hexec hret nv (Or.inr (Or.inl rfl)) (hb hbytes d33) hl)⟩
  · have c3 : Steps p.tables e below (s₁.setTop (entryFrame m #[.ref a, .ref b] 3)) (s₁.setTop (mkF m 35 #[.val (.ref a), .val (.ref b), .unset] [.int 0])) := c2.trans (by
      refine XS.icmpYes X0.here hexec rfl (pc0 := 4) rfl (hb hbytes d4) rfl (ii_ne_t (ne32 a31 b31 hs)) (by decide) rfl ?_
      refine iconstV X0.here hexec rfl 0 (hb hbytes d34) (by decide) ?_
      exact Steps.refl _)
    exact ⟨s₁, some (.int 0), _, _, _, X0, rfl, rfl, rfl, (fun h => by cases h), ⟨0, rfl, hh0, Or.inr ⟨rfl, fun q => hs q.1⟩⟩, fun fs hl => c3.trans (X0.ireturnOut hexec hret rfl (Or.inr (Or.inl rfl)) (hb hbytes d35) hl)⟩
end LEq
theorem Cod.ty {cd : Int32} {n : Nat} {f : Nat → Int32} {V : Cell} (h : Cod cd n f V) : Typed .byte V := fun i v hv => by
  have hi : i < V.slots.size := (Array.getElem?_eq_some_iff.mp hv).1
  rcases h with ⟨-, k1, k2⟩ | ⟨-, k1, k2, -⟩
  · rw [(k2 i (by omega)).1] at hv; cases hv; exact fits_lo8 _
  · rcases Nat.mod_two_eq_zero_or_one i with e | e
    · obtain ⟨j, rfl⟩ : ∃ j, i = 2 * j := ⟨i / 2, by omega⟩
      rw [(k2 j (by omega)).1] at hv; cases hv; exact fits_lo8 _
    · obtain ⟨j, rfl⟩ : ∃ j, i = 2 * j + 1 := ⟨i / 2, by omega⟩
      rw [(k2 j (by omega)).2] at hv; cases hv; exact fits_lo8 _
/-- the same text -/
def SameT (n : Nat) (f : Nat → Int32) (k : Nat) (g : Nat → Int32) : Prop := n = k ∧ ∀ j, j < n → f j = g j
theorem lo8_inj {x y : Int32} (h0 : ¬ x < 0) (h1 : ¬ 255 < x) (k0 : ¬ y < 0) (k1 : ¬ 255 < y) (h : lo8 x = lo8 y) : x = y := by
  rw [← lo8_mask h0 h1, ← lo8_mask k0 k1, h]
/-- arrays coded by one coder are equal just where the texts are -/
theorem Cod.eqv {cd : Int32} {n k : Nat} {f g : Nat → Int32} {V V' : Cell} (h : Cod cd n f V) (h' : Cod cd k g V') (hf : ∀ j, j < n → ¬ f j < 0 ∧ ¬ 65535 < f j) (hg : ∀ j, j < k → ¬ g j < 0 ∧ ¬ 65535 < g j) : EqC V V' ↔ SameT n f k g := by
  have yvv : ∀ {W : Cell} {i : Nat} {x : Int32}, W.slots[i]? = some (.int x) → yv W i = x := fun q => by unfold yv; rw [q]
  rcases h with ⟨rfl, k1, k2⟩ | ⟨rfl, k1, k2, -⟩
  · rcases h' with ⟨-, m1, m2⟩ | ⟨e, -⟩
    · constructor
      · rintro ⟨e1, e2⟩
        refine ⟨by omega, fun j hj => ?_⟩
        have q := e2 j (by omega)
        rw [yvv (k2 j hj).1, yvv (m2 j (by omega)).1] at q
        exact lo8_inj (hf j hj).1 (k2 j hj).2 (hg j (by omega)).1 (m2 j (by omega)).2 q
      · rintro ⟨rfl, e2⟩
        refine ⟨by omega, fun j hj => ?_⟩
        rw [yvv (k2 j (by omega)).1, yvv (m2 j (by omega)).1, e2 j (by omega)]
    · exact absurd e (by decide)
  · rcases h' with ⟨e, -⟩ | ⟨-, m1, m2, -⟩
    · exact absurd e (by decide)
    · constructor
      · rintro ⟨e1, e2⟩
        refine ⟨by omega, fun j hj => ?_⟩
        have q1 := e2 (2 * j) (by omega)
        have q2 := e2 (2 * j + 1) (by omega)
        rw [yvv (k2 j hj).1, yvv (m2 j (by omega)).1] at q1
        rw [yvv (k2 j hj).2, yvv (m2 j (by omega)).2] at q2
        rw [← pair_says (hf j hj).1 (hf j hj).2, ← pair_says (hg j (by omega)).1 (hg j (by omega)).2, q1, q2]
      · rintro ⟨rfl, e2⟩
        refine ⟨by omega, fun i hi => ?_⟩
        rcases Nat.mod_two_eq_zero_or_one i with e | e
        · obtain ⟨j, rfl⟩ : ∃ j, i = 2 * j := ⟨i / 2, by omega⟩
          rw [yvv (k2 j (by omega)).1, yvv (m2 j (by omega)).1, e2 j (by omega)]
        · obtain ⟨j, rfl⟩ : ∃ j, i = 2 * j + 1 := ⟨i / 2, by omega⟩
          rw [yvv (k2 j (by omega)).2, yvv (m2 j (by omega)).2, e2 j (by omega)]
/-- two codings differ: so do the texts -/
theorem Cod.dif {cd cd' : Int32} {n k : Nat} {f g : Nat → Int32} {V V' : Cell} (h : Cod cd n f V) (h' : Cod cd' k g V') (hne : ¬ cd = cd') : ¬ SameT n f k g := by
  rintro ⟨rfl, e⟩
  rcases h with ⟨rfl, -, k2⟩ | ⟨rfl, -, -, j, hj, hw⟩
  · rcases h' with ⟨rfl, -⟩ | ⟨-, -, -, j, hj, hw⟩
    · exact hne rfl
    · exact (k2 j hj).2 (by rw [e j hj]; exact hw)
  · rcases h' with ⟨-, -, m2⟩ | ⟨rfl, -⟩
    · exact (m2 j hj).2 (by rw [← e j hj]; exact hw)
    · exact hne rfl
/-- an object of exactly C is an instance of C -/
theorem cinst {p : Program} {l : Launch} {e : Env} {R : Room} {s : State} {m : MethodId} {args : Array Value} {below : List Frame} {meth : Method} {c : Code} {T : State} {locs : List Loc} {cells slots : Nat} (X : Stand p l e R s m args below meth c T locs cells slots) (hexec : p.tables.exec = Jvm.exec) {own C : String} {index : Nat} (hown : s.vm.findClass own = some m.cls) (hlink : (Cond.classLink own index C).before args s = true) {a : Addr} (hE : Exact C a T)
    {g : JFrame} (hg : g.method = m) {rest : List Value} (hstack : g.stack = .ref a :: rest) (hdg : decode c.code g.pc = .ok (.instanceof index, 3)) :
    ∃ T', Stand p l e R s m args below meth c T' locs cells slots ∧ T'.heap = T.heap ∧ ∀ target, Steps p.tables e below (T'.setTop { g with pc := g.pc + 3, stack := .int 1 :: rest }) target → Steps p.tables e below (T.setTop g) target := by
  obtain ⟨cB, h1, D, h2, h3, h4⟩ := hE
  have h1' : s.vm.findClass C = some cB := by rw [← X.warmed.alike.findClass]; exact h1
  obtain ⟨vm', X', st⟩ := X.instanceofYes hexec hown hlink h2 h4 h1' (by rw [h3]; exact Jvm.Free.SB.assignable_self _ _) hg hstack hdg
  exact ⟨_, X', rfl, st⟩
theorem cself {p : Program} {l : Launch} {e : Env} {R : Room} {s : State} {m : MethodId} {args : Array Value} {below : List Frame} {meth : Method} {c : Code} {T : State} {locs : List Loc} {cells slots : Nat} (X : Stand p l e R s m args below meth c T locs cells slots) (hexec : p.tables.exec = Jvm.exec) {own C : String} {index : Nat} (hown : s.vm.findClass own = some m.cls) (hlink : (Cond.classLink own index C).before args s = true) {a : Addr} (hE : Exact C a T)
    {g : JFrame} (hg : g.method = m) {rest : List Value} (hstack : g.stack = .ref a :: rest) (hdg : decode c.code g.pc = .ok (.checkcast index, 3)) :
    ∃ T', Stand p l e R s m args below meth c T' locs cells slots ∧ T'.heap = T.heap ∧ ∀ target, Steps p.tables e below (T'.setTop { g with pc := g.pc + 3, stack := .ref a :: rest }) target → Steps p.tables e below (T.setTop g) target := by
  obtain ⟨cB, h1, D, h2, h3, h4⟩ := hE
  have h1' : s.vm.findClass C = some cB := by rw [← X.warmed.alike.findClass]; exact h1
  obtain ⟨vm', X', st⟩ := X.checkcastYes hexec hown hlink h2 h4 h1' (by rw [h3]; exact Jvm.Free.SB.assignable_self _ _) hg hstack hdg
  exact ⟨_, X', rfl, fun t h => st t (by rw [← hstack] at h; exact h)⟩
namespace SEq
def yN : MethodName := ⟨"java/lang/String", "equals", "(Ljava/lang/Object;)Z"⟩
abbrev yB : ByteArray := jdk_42_method_66_code
theorem d0 : decode yB 0 = .ok (.aload_n 0, 1) := by decide +kernel
theorem d1 : decode yB 1 = .ok (.aload_n 1, 1) := by decide +kernel
theorem d2 : decode yB 2 = .ok (.if_acmp (.ne) 5, 3) := by decide +kernel
theorem d5 : decode yB 5 = .ok (.iconst 1, 1) := by decide +kernel
theorem d6 : decode yB 6 = .ok (.ireturn, 1) := by decide +kernel
theorem d7 : decode yB 7 = .ok (.aload_n 1, 1) := by decide +kernel
theorem d8 : decode yB 8 = .ok (.instanceof 10, 3) := by decide +kernel
theorem d11 : decode yB 11 = .ok (.ifCond (.eq) 43, 3) := by decide +kernel
theorem d14 : decode yB 14 = .ok (.aload_n 1, 1) := by decide +kernel
theorem d15 : decode yB 15 = .ok (.checkcast 10, 3) := by decide +kernel
theorem d18 : decode yB 18 = .ok (.astore_n 2, 1) := by decide +kernel
theorem d19 : decode yB 19 = .ok (.getstatic 38, 3) := by decide +kernel
theorem d22 : decode yB 22 = .ok (.ifCond (.eq) 14, 3) := by decide +kernel
theorem d25 : decode yB 25 = .ok (.aload_n 0, 1) := by decide +kernel
theorem d26 : decode yB 26 = .ok (.getfield 15, 3) := by decide +kernel
theorem d29 : decode yB 29 = .ok (.aload_n 2, 1) := by decide +kernel
theorem d30 : decode yB 30 = .ok (.getfield 15, 3) := by decide +kernel
theorem d33 : decode yB 33 = .ok (.if_icmp (.ne) 21, 3) := by decide +kernel
theorem d36 : decode yB 36 = .ok (.aload_n 0, 1) := by decide +kernel
theorem d37 : decode yB 37 = .ok (.getfield 9, 3) := by decide +kernel
theorem d40 : decode yB 40 = .ok (.aload_n 2, 1) := by decide +kernel
theorem d41 : decode yB 41 = .ok (.getfield 9, 3) := by decide +kernel
theorem d44 : decode yB 44 = .ok (.invokestatic 541, 3) := by decide +kernel
theorem d47 : decode yB 47 = .ok (.ifCond (.eq) 7, 3) := by decide +kernel
theorem d50 : decode yB 50 = .ok (.iconst 1, 1) := by decide +kernel
theorem d51 : decode yB 51 = .ok (.goto 4, 3) := by decide +kernel
theorem d54 : decode yB 54 = .ok (.iconst 0, 1) := by decide +kernel
theorem d55 : decode yB 55 = .ok (.ireturn, 1) := by decide +kernel
def site : List Cond := [.classLink "java/lang/String" 10 "java/lang/String", .fieldLink "java/lang/String" 38 "java/lang/String" "COMPACT_STRINGS" "Z", .fieldLink "java/lang/String" 15 "java/lang/String" "coder" "B", .fieldLink "java/lang/String" 9 "java/lang/String" "value" "[B", LEq.tab] ++ staticW "java/lang/String" 541 LEq.yN
def tab : Cond := tabOf yN yB 3 (some .boolean) site
def P (x t : Addr) (V : Cell) (cd : Int32) (n : Nat) (f : Nat → Int32) (y t' : Addr) (V' : Cell) (cd' : Int32) (k : Nat) (g : Nat → Int32) (z : Int32) (args : Array Value) (s : State) : Prop := args = #[.ref x, .ref y] ∧ Txt x t V cd n f s ∧ Txt y t' V' cd' k g s ∧ StaticIs s "java/lang/String" "COMPACT_STRINGS" "Z" (.int z) ∧ ¬ z = 0
/-- equals(Object) of two Strings: whether the texts are the same -/
theorem law (l : Launch) (x t : Addr) (V : Cell) (cd : Int32) (n : Nat) (f : Nat → Int32) (y t' : Addr) (V' : Cell) (cd' : Int32) (k : Nat) (g : Nat → Int32) (z : Int32) : Law l yN 2 1 1 14 yB 3 (some .boolean) site (P x t V cd n f y t' V' cd' k g z) (Says01 (SameT n f k g)) [] 0 0 := by
  refine Law.of_walk (plainFor_of_name (by decide +kernel)) (by decide +kernel) (by decide +kernel) (by decide) (fun _ _ h => by rw [h.1]; rfl) (fun _ U U' hal hh h => ⟨h.1, h.2.1.mv hal hh, h.2.2.1.mv hal hh, h.2.2.2.1.there hal hh, h.2.2.2.2⟩) (fun r U U' V V' h1 hal h2 h => Says01.mv r U U' V V' h1 hal h2 h) ?_
  intro p e s m args below meth c s₁ X0 hexec hbytes hml hret hlk hnm hown hh0 W hP
  obtain ⟨rfl, hx, hy, s1, hz⟩ := hP
  have c1 : Steps p.tables e below (s₁.setTop (entryFrame m #[.ref x, .ref y] 3)) (s₁.setTop (mkF m 2 #[.val (.ref x), .val (.ref y), .unset] [.ref y, .ref x])) := Steps.trans (entry rfl) (by
    show Steps p.tables e below (s₁.setTop (mkF m 0 #[.val (.ref x), .val (.ref y), .unset] [])) _
    refine XS.aloadN X0.here hexec rfl (hb hbytes d0) rfl rfl ?_
    refine XS.aloadN X0.here hexec rfl (hb hbytes d1) rfl rfl ?_
    exact Steps.refl _)
  by_cases hxy : x = y
  · have c2 : Steps p.tables e below (s₁.setTop (entryFrame m #[.ref x, .ref y] 3)) (s₁.setTop (mkF m 6 #[.val (.ref x), .val (.ref y), .unset] [.int 1])) := c1.trans (by
      refine acmpNo X0.here hexec rfl (hb hbytes d2) rfl rfl rfl (by simp [acmp, hxy]) ?_
      refine iconstV X0.here hexec rfl 1 (hb hbytes d5) (by decide) ?_
      exact Steps.refl _)
    subst hxy
    have ec : cd = cd' := by
      obtain ⟨D, fd, a1, a2, a3⟩ := hx.2.2.1
      obtain ⟨D', fd', b1, b2, b3⟩ := hy.2.2.1
      cases a1.symm.trans b1
      obtain ⟨q1, q2, q3, q4⟩ := a2.1
      obtain ⟨r1, r2, r3, r4⟩ := b2.1
      cases q4.symm.trans r4
      cases a3.symm.trans b3; rfl
    have et : t = t' := by
      obtain ⟨D, fd, a1, a2, a3⟩ := hx.2.1
      obtain ⟨D', fd', b1, b2, b3⟩ := hy.2.1
      cases a1.symm.trans b1
      obtain ⟨q1, q2, q3, q4⟩ := a2.1
      obtain ⟨r1, r2, r3, r4⟩ := b2.1
      cases q4.symm.trans r4
      cases a3.symm.trans b3; rfl
    subst ec et
    have ev : V = V' := by cases hx.2.2.2.1.1.symm.trans hy.2.2.2.1.1; rfl
    subst ev
    have hs : SameT n f k g := (Cod.eqv hx.2.2.2.2.1 hy.2.2.2.2.1 hx.2.2.2.2.2 hy.2.2.2.2.2).mp ⟨rfl, fun _ _ => rfl⟩
    exact ⟨s₁, some (.int 1), _, _, _, X0, rfl, rfl, rfl, (fun h => by cases h), ⟨1, rfl, hh0, Or.inl ⟨rfl, hs⟩⟩, fun fs hl => c2.trans (X0.ireturnOut hexec hret rfl (Or.inr (Or.inl rfl)) (hb hbytes d6) hl)⟩
  · have c2 : Steps p.tables e below (s₁.setTop (entryFrame m #[.ref x, .ref y] 3)) (s₁.setTop (mkF m 8 #[.val (.ref x), .val (.ref y), .unset] [.ref y])) := c1.trans (by
      refine acmpYes X0.here hexec rfl (pc0 := 2) rfl (hb hbytes d2) rfl rfl rfl (by simp [acmp, hxy]) (by decide) rfl ?_
      refine XS.aloadN X0.here hexec rfl (hb hbytes d7) rfl rfl ?_
      exact Steps.refl _)
    obtain ⟨T3, X3, q3, st3⟩ := cinst X0 hexec hown (wk W (.classLink "java/lang/String" 10 "java/lang/String")) (hy.mv X0.warmed.alike hh0).1 (g := (mkF m 8 #[.val (.ref x), .val (.ref y), .unset] [.ref y])) rfl (rest := []) rfl (hb hbytes d8)
    have hh3 := q3.trans hh0
    have c4 : Steps p.tables e below (s₁.setTop (entryFrame m #[.ref x, .ref y] 3)) (T3.setTop (mkF m 15 #[.val (.ref x), .val (.ref y), .unset] [.ref y])) := (c2.trans (st3 _ (Steps.refl _))).trans (by
      refine XS.ifNo X3.here hexec rfl (hb hbytes d11) rfl (i0_eq_f (by decide)) ?_
      refine XS.aloadN X3.here hexec rfl (hb hbytes d14) rfl rfl ?_
      exact Steps.refl _)
    obtain ⟨T5, X5, q5, st5⟩ := cself X3 hexec hown (wk W (.classLink "java/lang/String" 10 "java/lang/String")) (hy.mv X3.warmed.alike hh3).1 (g := (mkF m 15 #[.val (.ref x), .val (.ref y), .unset] [.ref y])) rfl (rest := []) rfl (hb hbytes d15)
    have hh5 := q5.trans hh3
    have c6 : Steps p.tables e below (s₁.setTop (entryFrame m #[.ref x, .ref y] 3)) (T5.setTop (mkF m 19 #[.val (.ref x), .val (.ref y), .val (.ref y)] [])) := (c4.trans (st5 _ (Steps.refl _))).trans (by
      refine XS.astoreN X5.here hexec rfl (hb hbytes d18) rfl rfl rfl ?_
      exact Steps.refl _)
    obtain ⟨T7, X7, q7, st7⟩ := X5.sget hexec hown (wk W (.fieldLink "java/lang/String" 38 "java/lang/String" "COMPACT_STRINGS" "Z")) s1 (fun _ _ h => by rw [hh5]; exact h) (g := (mkF m 19 #[.val (.ref x), .val (.ref y), .val (.ref y)] [])) rfl (hb hbytes d19)
    have hh7 := q7.trans hh5
    have c8 : Steps p.tables e below (s₁.setTop (entryFrame m #[.ref x, .ref y] 3)) (T7.setTop (mkF m 26 #[.val (.ref x), .val (.ref y), .val (.ref y)] [.ref x])) := (c6.trans (st7 _ (Steps.refl _))).trans (by
      refine XS.ifNo X7.here hexec rfl (hb hbytes d22) rfl (i0_eq_f hz) ?_
      refine XS.aloadN X7.here hexec rfl (hb hbytes d25) rfl rfl ?_
      exact Steps.refl _)
    obtain ⟨T9, X9, q9, st9⟩ := X7.hget hexec hown (wk W (.fieldLink "java/lang/String" 15 "java/lang/String" "coder" "B")) (hx.mv X7.warmed.alike hh7).2.2.1 (g := (mkF m 26 #[.val (.ref x), .val (.ref y), .val (.ref y)] [.ref x])) rfl (rest := []) rfl (hb hbytes d26)
    have hh9 := q9.trans hh7
    have c10 : Steps p.tables e below (s₁.setTop (entryFrame m #[.ref x, .ref y] 3)) (T9.setTop (mkF m 30 #[.val (.ref x), .val (.ref y), .val (.ref y)] [.ref y, .int cd])) := (c8.trans (st9 _ (Steps.refl _))).trans (by
      refine XS.aloadN X9.here hexec rfl (hb hbytes d29) rfl rfl ?_
      exact Steps.refl _)
    obtain ⟨T11, X11, q11, st11⟩ := X9.hget hexec hown (wk W (.fieldLink "java/lang/String" 15 "java/lang/String" "coder" "B")) (hy.mv X9.warmed.alike hh9).2.2.1 (g := (mkF m 30 #[.val (.ref x), .val (.ref y), .val (.ref y)] [.ref y, .int cd])) rfl (rest := [.int cd]) rfl (hb hbytes d30)
    have hh11 := q11.trans hh9
    have c12 : Steps p.tables e below (s₁.setTop (entryFrame m #[.ref x, .ref y] 3)) (T11.setTop (mkF m 33 #[.val (.ref x), .val (.ref y), .val (.ref y)] [.int cd', .int cd])) := c10.trans (st11 _ (Steps.refl _))
    by_cases hcd : cd = cd'
    · subst hcd
      have c13 : Steps p.tables e below (s₁.setTop (entryFrame m #[.ref x, .ref y] 3)) (T11.setTop (mkF m 37 #[.val (.ref x), .val (.ref y), .val (.ref y)] [.ref x])) := c12.trans (by
        refine XS.icmpNo X11.here hexec rfl (hb hbytes d33) rfl (ii_ne_f rfl) ?_
        refine XS.aloadN X11.here hexec rfl (hb hbytes d36) rfl rfl ?_
        exact Steps.refl _)
      obtain ⟨T14, X14, q14, st14⟩ := X11.hget hexec hown (wk W (.fieldLink "java/lang/String" 9 "java/lang/String" "value" "[B")) (hx.mv X11.warmed.alike hh11).2.1 (g := (mkF m 37 #[.val (.ref x), .val (.ref y), .val (.ref y)] [.ref x])) rfl (rest := []) rfl (hb hbytes d37)
      have hh14 := q14.trans hh11
      have c15 : Steps p.tables e below (s₁.setTop (entryFrame m #[.ref x, .ref y] 3)) (T14.setTop (mkF m 41 #[.val (.ref x), .val (.ref y), .val (.ref y)] [.ref y, .ref t])) := (c13.trans (st14 _ (Steps.refl _))).trans (by
        refine XS.aloadN X14.here hexec rfl (hb hbytes d40) rfl rfl ?_
        exact Steps.refl _)
      obtain ⟨T16, X16, q16, st16⟩ := X14.hget hexec hown (wk W (.fieldLink "java/lang/String" 9 "java/lang/String" "value" "[B")) (hy.mv X14.warmed.alike hh14).2.1 (g := (mkF m 41 #[.val (.ref x), .val (.ref y), .val (.ref y)] [.ref y, .ref t])) rfl (rest := [.ref t]) rfl (hb hbytes d41)
      have hh16 := q16.trans hh14
      have c17 : Steps p.tables e below (s₁.setTop (entryFrame m #[.ref x, .ref y] 3)) (T16.setTop (mkF m 44 #[.val (.ref x), .val (.ref y), .val (.ref y)] [.ref t', .ref t])) := c15.trans (st16 _ (Steps.refl _))
      obtain ⟨v18, T18, X18, E18, g18⟩ := X16.callS hexec (LEq.law l t V t' V') hown (wks W (staticW "java/lang/String" 541 LEq.yN)) (wk W LEq.tab) (W := 0) (Nat.le_of_ble_eq_true rfl) (Nat.le_of_ble_eq_true rfl) (Nat.le_refl _) (Nat.le_refl _) (g := (mkF m 44 #[.val (.ref x), .val (.ref y), .val (.ref y)] [.ref t', .ref t])) rfl (by rw [hml]; rfl) c17 (argsL := [.ref t, .ref t']) (rest := []) rfl rfl (by show 2 * 0 + 0 ≤ _; decide) (hb hbytes d44) (⟨rfl, hx.2.2.2.1.mv X16.warmed.alike hh16, hx.2.2.2.2.1.ty, hy.2.2.2.1.mv X16.warmed.alike hh16, hy.2.2.2.2.1.ty⟩)
      obtain ⟨v, rfl, q18, hv⟩ := E18
      have iff := Cod.eqv hx.2.2.2.2.1 hy.2.2.2.2.1 hx.2.2.2.2.2 hy.2.2.2.2.2
      rcases hv with ⟨rfl, he⟩ | ⟨rfl, he⟩
      · have c19 : Steps p.tables e below (s₁.setTop (entryFrame m #[.ref x, .ref y] 3)) (T18.setTop (mkF m 55 #[.val (.ref x), .val (.ref y), .val (.ref y)] [.int 1])) := Steps.trans g18 (by
          refine XS.ifNo X18.here hexec rfl (hb hbytes d47) rfl (i0_eq_f (by decide)) ?_
          refine iconstV X18.here hexec rfl 1 (hb hbytes d50) (by decide) ?_
          refine XS.goto X18.here hexec rfl (pc0 := 51) rfl (hb hbytes d51) (by decide) rfl ?_
          exact Steps.refl _)
        exact ⟨T18, some (.int 1), _, _, _, X18, rfl, rfl, rfl, (fun h => by cases h), ⟨1, rfl, q18.trans hh16, Or.inl ⟨rfl, iff.mp he⟩⟩, fun fs hl => c19.trans (X18.ireturnOut hexec hret rfl (Or.inr (Or.inl rfl)) (hb hbytes d55) hl)⟩
      · have c19 : Steps p.tables e below (s₁.setTop (entryFrame m #[.ref x, .ref y] 3)) (T18.setTop (mkF m 55 #[.val (.ref x), .val (.ref y), .val (.ref y)] [.int 0])) := Steps.trans g18 (by
          refine XS.ifYes X18.here hexec rfl (pc0 := 47) rfl (hb hbytes d47) rfl (i0_eq_t rfl) (by decide) rfl ?_
          refine iconstV X18.here hexec rfl 0 (hb hbytes d54) (by decide) ?_
          exact Steps.refl _)
        exact ⟨T18, some (.int 0), _, _, _, X18, rfl, rfl, rfl, (fun h => by cases h), ⟨0, rfl, q18.trans hh16, Or.inr ⟨rfl, fun q => he (iff.mpr q)⟩⟩, fun fs hl => c19.trans (X18.ireturnOut hexec hret rfl (Or.inr (Or.inl rfl)) (hb hbytes d55) hl)⟩
    · have c13 : Steps p.tables e below (s₁.setTop (entryFrame m #[.ref x, .ref y] 3)) (T11.setTop (mkF m 55 #[.val (.ref x), .val (.ref y), .val (.ref y)] [.int 0])) := c12.trans (by
        refine XS.icmpYes X11.here hexec rfl (pc0 := 33) rfl (hb hbytes d33) rfl (ii_ne_t hcd) (by decide) rfl ?_
        refine iconstV X11.here hexec rfl 0 (hb hbytes d54) (by decide) ?_
        exact Steps.refl _)
      exact ⟨T11, some (.int 0), _, _, _, X11, rfl, rfl, rfl, (fun h => by cases h), ⟨0, rfl, hh11, Or.inr ⟨rfl, Cod.dif hx.2.2.2.2.1 hy.2.2.2.2.1 hcd⟩⟩, fun fs hl => c13.trans (X11.ireturnOut hexec hret rfl (Or.inr (Or.inl rfl)) (hb hbytes d55) hl)⟩
theorem pays {l : Launch} {R : Room} {p : Program} {e : Env} {below : List Frame} {s : State} {sargs : Array Value} {len W : Nat} (x t : Addr) (V : Cell) (cd : Int32) (n : Nat) (f : Nat → Int32) (y t' : Addr) (V' : Cell) (cd' : Int32) (k : Nat) (g : Nat → Int32) (z : Int32) (htab : tab.before sargs s = true) (hfr : 2 ≤ R.frames) (hlo : W + 28 ≤ R.locals) :
    Back l R p e below s sargs yN len W (fun A₁ a₁ => A₁.cells + 0 ≤ R.cells ∧ A₁.slots + 0 ≤ R.slots ∧ P x t V cd n f y t' V' cd' k g z a₁ A₁.U) (fun A₁ _ v₁ B₁ => Says01 (SameT n f k g) v₁ A₁.U B₁.U ∧ B₁.locs = A₁.locs ++ [] ∧ B₁.cells = A₁.cells + 0 ∧ B₁.slots = A₁.slots + 0) :=
  (law l x t V cd n f y t' V' cd' k g z).pays htab hfr (by omega)
end SEq
end StrChars
namespace StrChars.Road
open Jvm Sem ClassFile Op Lib Jvm.Stand Jvm.Free Jvm.Free.XT
open Jvm.Lib.Cold (StaticIs)
/-- the words of String.equals(Object) -/
abbrev wordsEq : List Jvm.Cond := [.code SEq.yN SEq.yB 3 (some .boolean), .initialized ST, .classLink ST 10 ST, .fieldLink ST 38 ST "COMPACT_STRINGS" "Z", .fieldLink ST 15 ST "coder" "B", .fieldLink ST 9 ST "value" "[B", .methodLink ST 541 LEq.yN, .static LEq.yN, .code LEq.yN LEq.yB 3 (some .boolean), .initialized "java/lang/StringLatin1"]
theorem tabEq_of {a : Array Value} {s : State} (h : ∀ w ∈ wordsEq, w.before a s = true) : SEq.tab.before a s = true := by
  have hl : LEq.tab.before a s = true := unparts (wk h (.code LEq.yN LEq.yB 3 (some .boolean))) (wks h (.initialized LEq.yN.cls :: LEq.site))
  have q := consq hl h
  exact unparts (wk q (.code SEq.yN SEq.yB 3 (some .boolean))) (wks q (.initialized SEq.yN.cls :: SEq.site))
theorem movedEq {Z s : State} {a0 args : Array Value} (hZ : Z.Warmed39 s.vm) (hw : ∀ d ∈ wordsEq, d.before a0 Z = true) : ∀ d ∈ wordsEq, d.before args s = true := fun d hd => by
  have t : ∀ d ∈ wordsEq, (d.onTables && d.keepsFace) = true := by decide +kernel
  exact RoadKit.mv hZ (hw d hd) (t d hd)
/-- the road's facts of a String, as the laws ask it -/
theorem txt_of {Z U : State} {a0 : Array Value} {kI : Nat} (wi : (Jvm.Cond.instantiable ST kI).before a0 Z = true) (al : Z.vm.Alike U.vm) {x t : Addr} {kb : ClassId} {cs : List Int32} {cd N2 : Int32} {vs : List Value} (E : RoadKit.Exa Z U.heap x ST) (V : RoadKit.Fld Z U.heap x ST "value" "[B" (.ref t)) (C : RoadKit.Fld Z U.heap x ST "coder" "B" (.int cd)) (K : RoadKit.Arv Z U.heap t kb .byte N2 vs (.int 0)) (hc : CodA cs cd N2 vs) (hb : ∀ c ∈ cs, ¬ c < 0 ∧ ¬ (65535 : Int32) < c) (l2 : cs.length ≤ 4000) :
    ∃ A, Txt x t A cd cs.length (fun j => cs.getD j 0) U := by
  obtain ⟨A, K1, K2, K3, K4, K5, K6⟩ := K
  have hcod := hc.cod (by omega) K3 K5
  obtain ⟨D, fV, fC, hB, F1, F2, g1, g2, -, -⟩ := strObj wi al E V C
  exact ⟨A, ⟨_, hB.2.2.1, D, hB.1, rfl, by cases q : D.vm <;> first | rfl | exact absurd q (hB.2.1.2 _)⟩, Has.of hB F1 g1, Has.of hB F2 g2, ⟨K1.1, State.isArrayOf_alike al K1.2.1, K1.2.2, by rcases hcod with ⟨-, q, -⟩ | ⟨-, q, -⟩ <;> omega⟩, hcod, fun j hj => by
    have e : cs.getD j 0 = cs[j] := by simp [List.getD_eq_getElem?_getD, hj]
    show ¬ cs.getD j 0 < 0 ∧ ¬ 65535 < cs.getD j 0
    rw [e]; exact hb _ (List.getElem_mem _)⟩
theorem same_list (cs ds : List Int32) : SameT cs.length (fun j => cs.getD j 0) ds.length (fun j => ds.getD j 0) ↔ cs = ds := by
  constructor
  · rintro ⟨e, q⟩
    refine List.ext_getElem e fun j h1 h2 => ?_
    have := q j h1
    simpa [List.getD_eq_getElem?_getD, h1, h2] using this
  · rintro rfl
    exact ⟨rfl, fun _ _ => rfl⟩
/-- **equals(Object) OF TWO SUCH STRINGS**: 1 just where the chars are the same -/
theorem eqW {p : Program} {l : Launch} {e : Env} {R : Room} {s : State} {args : Array Value} {below : List Frame} {len W : Nat} {Z : State} {a0 : Array Value} {h : Heap} (hZ : Z.Warmed39 s.vm) (hw : ∀ d ∈ wordsEq, d.before a0 Z = true) {kI : Nat} (wi : (Jvm.Cond.instantiable ST kI).before a0 Z = true)
    {x t : Addr} {kb : ClassId} {cs : List Int32} {cd N2 : Int32} {vs : List Value} (E : RoadKit.Exa Z h x ST) (V : RoadKit.Fld Z h x ST "value" "[B" (.ref t)) (C : RoadKit.Fld Z h x ST "coder" "B" (.int cd)) (K : RoadKit.Arv Z h t kb .byte N2 vs (.int 0)) (hc : CodA cs cd N2 vs) (hb : ∀ c ∈ cs, ¬ c < 0 ∧ ¬ (65535 : Int32) < c) (l2 : cs.length ≤ 4000)
    {y t' : Addr} {kb' : ClassId} {ds : List Int32} {cd' N2' : Int32} {vs' : List Value} (E' : RoadKit.Exa Z h y ST) (V' : RoadKit.Fld Z h y ST "value" "[B" (.ref t')) (C' : RoadKit.Fld Z h y ST "coder" "B" (.int cd')) (K' : RoadKit.Arv Z h t' kb' .byte N2' vs' (.int 0)) (hc' : CodA ds cd' N2' vs') (hb' : ∀ c ∈ ds, ¬ c < 0 ∧ ¬ (65535 : Int32) < c) (l2' : ds.length ≤ 4000)
    {z : Int32} (S : RoadKit.Sta Z h ST "COMPACT_STRINGS" "Z" (.int z)) (hz : ¬ z = 0) (hfr : 2 ≤ R.frames) (hlo : W + 28 ≤ R.locals) :
    Back l R p e below s args (⟨"java/lang/String", "equals", "(Ljava/lang/Object;)Z"⟩ : MethodName) len W (fun P a => a = #[.ref x, .ref y] ∧ P.U.heap = h ∧ P.cells + 0 ≤ R.cells ∧ P.slots + 0 ≤ R.slots)
      (fun P _ v B => ∃ L, (((v = some (.int 1) ∧ cs = ds) ∨ (v = some (.int 0) ∧ ¬ cs = ds)) ∧ L = [] ∧ B.U.heap = h) ∧ B.locs = P.locs ++ L ∧ B.cells = P.cells + 0 ∧ B.slots = P.slots + 0) := by
  intro m meth c P g ig mk a X hg hsize hdg hW hn hp'
  obtain ⟨rfl, rfl, r1, r2⟩ := hp'
  have al : Z.vm.Alike P.U.vm := hZ.alike.trans X.warmed.alike
  obtain ⟨A, hx⟩ := txt_of wi al E V C K hc hb l2
  obtain ⟨A', hy⟩ := txt_of wi al E' V' C' K' hc' hb' l2'
  obtain ⟨v, B, X', ⟨⟨w, hv, hh, hq⟩, hl, hk, hs⟩, st⟩ := SEq.pays x t A cd cs.length (fun j => cs.getD j 0) y t' A' cd' ds.length (fun j => ds.getD j 0) z (tabEq_of (movedEq hZ hw)) hfr hlo m meth c P g ig mk _ X hg hsize hdg hW hn ⟨r1, r2, rfl, hx, hy, sta_is al S, hz⟩
  refine ⟨v, B, X', ⟨[], ⟨?_, rfl, hh⟩, hl, hk, hs⟩, st⟩
  rcases hq with ⟨rfl, q⟩ | ⟨rfl, q⟩
  · exact Or.inl ⟨hv, (same_list cs ds).mp q⟩
  · exact Or.inr ⟨hv, fun e => q ((same_list cs ds).mpr e)⟩
end StrChars.Road
namespace StrChars.Road
open Jvm Sem ClassFile Op Lib Jvm.Stand Jvm.Free Jvm.Free.XT
open Jvm.Lib.Cold (StaticIs)
/-- what backV says of its String, as the contracts of this text ask it: cs's low bytes, coder 0 -/
theorem codOf {cs : List Int32} {n : Nat} (hn : cs.length = n) (hb : ∀ c ∈ cs, ¬ 255 < c) : CodA cs 0 (Int32.ofNat n) ((cs.map lo8).map Value.int) := Or.inl ⟨rfl, by rw [hn], by simp [List.map_map, Function.comp_def], hb⟩
end StrChars.Road
end Jvm.Pilot.@@N@@
namespace Jvm.Pilot.@@N@@
open Jvm Jvm.ClassFile Sem Op Lib Jvm.Free Jvm.Stand Jvm.LawKit Jvm.RoadKit Bundle Jvm.Pilot.@@N@@.Jvm.D
theorem ow {Z : State} {a0 : Array Value} (hw : ∀ d ∈ tables_1, d.before a0 Z = true) (i : Nat) {d : Jvm.Cond} (h : tables_1[i]? = some d := by rfl) : d.before a0 Z = true := hw d (List.mem_of_getElem? h)
theorem own_wI {Z : State} {a0 : Array Value} (hw : ∀ d ∈ tables_1, d.before a0 Z = true) : ∀ d ∈ StrChars.Road.words, d.before a0 Z = true := fun d hd => hw d ((by decide +kernel : ∀ d ∈ StrChars.Road.words, d ∈ tables_1) d hd)
theorem own_wE {Z : State} {a0 : Array Value} (hw : ∀ d ∈ tables_1, d.before a0 Z = true) : ∀ d ∈ StrChars.Road.wordsEq, d.before a0 Z = true := fun d hd => hw d ((by decide +kernel : ∀ d ∈ StrChars.Road.wordsEq, d ∈ tables_1) d hd)
theorem own_wS {Z : State} {a0 : Array Value} (hw : ∀ d ∈ tables_1, d.before a0 Z = true) : ∀ d ∈ Bundle.stringAtoms, d.before a0 Z = true := fun d hd => hw d ((by decide +kernel : ∀ d ∈ Bundle.stringAtoms, d ∈ tables_1) d hd)
theorem own_hp1 {a : Int32} (h : ¬ a < 0 ∧ ¬ (255 : Int32) < a) : ∀ c ∈ ([(nar .char a)] : List Int32), ¬ c < 0 ∧ ¬ (255 : Int32) < c := by
  intro c hc; simp only [List.mem_cons, List.not_mem_nil, or_false] at hc; subst hc; rw [own_narid h]; exact h
theorem own_hp2 {a b : Int32} (h : ¬ a < 0 ∧ ¬ (255 : Int32) < a) (h' : ¬ b < 0 ∧ ¬ (255 : Int32) < b) : ∀ c ∈ ([(nar .char a), (nar .char b)] : List Int32), ¬ c < 0 ∧ ¬ (255 : Int32) < c := by
  intro c hc; simp only [List.mem_cons, List.not_mem_nil, or_false] at hc
  rcases hc with rfl | rfl
  · rw [own_narid h]; exact h
  · rw [own_narid h']; exact h'
theorem d1_0 : decode method_2_code 0 = .ok (.iload_n 0, 1) := by decide +kernel
theorem d1_1 : decode method_2_code 1 = .ok (.iconst 1, 1) := by decide +kernel
theorem d1_2 : decode method_2_code 2 = .ok (.if_icmp .ne 18, 3) := by decide +kernel
theorem d1_5 : decode method_2_code 5 = .ok (.new 7, 3) := by decide +kernel
theorem d1_8 : decode method_2_code 8 = .ok (.dup, 1) := by decide +kernel
theorem d1_9 : decode method_2_code 9 = .ok (.iconst 1, 1) := by decide +kernel
theorem d1_10 : decode method_2_code 10 = .ok (.newarray .char, 2) := by decide +kernel
theorem d1_12 : decode method_2_code 12 = .ok (.dup, 1) := by decide +kernel
theorem d1_13 : decode method_2_code 13 = .ok (.iconst 0, 1) := by decide +kernel
theorem d1_14 : decode method_2_code 14 = .ok (.iload_n 1, 1) := by decide +kernel
theorem d1_15 : decode method_2_code 15 = .ok (.castore, 1) := by decide +kernel
theorem d1_16 : decode method_2_code 16 = .ok (.invokespecial 9, 3) := by decide +kernel
theorem pd_0 : parseMethodDescriptor "([C)V" = some ⟨[(.array .char)], none⟩ := by decide +kernel
theorem d1_19 : decode method_2_code 19 = .ok (.areturn, 1) := by decide +kernel
theorem pn_0 : plainName "com/example/lokahi/lokahi/UnitEqualsPinLaw" = true := by first | (simp [plainName, overriddenIn]; done) | decide +kernel
theorem ef_rmk1 (m : MethodId) (x0 : Int32) (x1 : Int32) (x2 : Int32) : entryFrame m #[(.int x0), (.int x1), (.int x2)] 3 = mkF m 0 #[.val (.int x0), .val (.int x1), .val (.int x2)] [] := by first | (simp [entryFrame, mkF, argsToLocals, Value.category]; done) | rfl
def Qrmk1 (Z : State) (pa : Int32) (a : Int32) (b : Int32) (z : Int32) (h0 : Heap) (n0 : Nat) (v : Option Value) (h : Heap) (L : List Loc) : Prop := ∃ (s_ : Addr) (t_ : Addr) (kb_ : ClassId), v = some (.ref s_) ∧ Fr n0 L ∧ Keep h0 h [] ∧ h0.size ≤ s_ ∧ h0.size ≤ t_ ∧ s_ ≠ t_ ∧ Exa Z h s_ "java/lang/String" ∧ Fld Z h s_ "java/lang/String" "coder" "B" (.int 0) ∧ Fld Z h s_ "java/lang/String" "value" "[B" (.ref t_) ∧ Arv Z h t_ kb_ .byte (1 : Int32) (((([(nar .char a)] : List Int32)).map (fun c => c.toInt8.toInt32)).map Value.int) (.int 0)
set_option maxRecDepth 65536 in
set_option maxHeartbeats 40000000 in
theorem rmk1 (l : Launch) (Z : State) (a0 : Array Value) (hw : ∀ d ∈ tables_1, d.before a0 Z = true) (ws : List Jvm.Cond) (pa : Int32) (a : Int32) (b : Int32) (z : Int32) (h0 : Heap) (n0 : Nat) (O : Old Z n0 h0) (S_String_COMPACT_STRINGS : Sta Z Z.heap "java/lang/String" "COMPACT_STRINGS" "Z" (.int z)) (hz : ¬ z = 0) (hp : pa = (1 : Int32)) (ha : ¬ a < 0 ∧ ¬ (255 : Int32) < a) (hb_ : ¬ b < 0 ∧ ¬ (255 : Int32) < b) :
    MetFree l (⟨"com/example/lokahi/lokahi/UnitEqualsPinLaw", "mk", "(ICC)Ljava/lang/String;"⟩ : MethodName) (head1 (Jvm.Cond.code (⟨"com/example/lokahi/lokahi/UnitEqualsPinLaw", "mk", "(ICC)Ljava/lang/String;"⟩ : MethodName) method_2_code 3 (some (.object "java/lang/String")) :: ws) ({ frames := 4, cells := 3, slots := 6, locals := 66 } : Room)) (fun a' U' => a' = #[(.int pa), (.int a), (.int b)] ∧ Z.Warmed39 U'.vm ∧ U'.heap = h0) (fun _ _ _ _ _ => True) (fun _ U' o' W' => ∃ v' L', o' = .returned v' ∧ Qrmk1 Z pa a b z h0 n0 v' W'.heap L' ∧ FrameEnd U' o' W' L' ({ frames := 4, cells := 3, slots := 6, locals := 66 } : Room).cells ({ frames := 4, cells := 3, slots := 6, locals := 66 } : Room).slots) := by
  refine MetFree.of_bodySF (plainFor_of_name pn_0) hisR ?_
  intro p e s m args below meth c s₁ Bd hml0 hP hK
  obtain ⟨rfl, hZ, hh⟩ := hP
  have hx := Bd.exec
  have hby := Bd.bytes
  have hml : c.maxLocals = 3 := hml0
  have hown : s.vm.findClass "com/example/lokahi/lokahi/UnitEqualsPinLaw" = some m.cls := findClass_of_methodNamed Bd.named
  have hnm := (name_of_methodNamed Bd.named Bd.method).1
  have X0 : Stand p l e ({ frames := 4, cells := 3, slots := 6, locals := 66 } : Room) s m #[(.int pa), (.int a), (.int b)] below meth c s₁ [] 0 0 := Stand.of_body Bd
  have e0 : s₁.heap = h0 := by rw [← hh, Bd.state]; rfl
  have N0 := Fr.nil n0
  have K0 := Keep.refl h0 []
  refine own_start (ef_rmk1 m pa a b) (Q := fun o' t' => ∃ v' L', o' = .returned v' ∧ Qrmk1 Z pa a b z h0 n0 v' t'.heap L' ∧ FrameEnd s o' t' L' ({ frames := 4, cells := 3, slots := 6, locals := 66 } : Room).cells ({ frames := 4, cells := 3, slots := 6, locals := 66 } : Room).slots) ?_
  show own_Fin p e below (s₁.setTop (mkF m 0 #[.val (.int pa), .val (.int a), .val (.int b)] [])) _
  refine own_go (fun _ k => XS.iloadN X0.here hx rfl (hb hby d1_0) rfl (XS.iconst X0.here hx rfl (hb hby d1_1) (XS.icmpNo X0.here hx rfl (hb hby d1_2) rfl (teq hp).2 k))) ?_
  show own_Fin p e below (s₁.setTop (mkF m 5 #[.val (.int pa), .val (.int a), .val (.int b)] [])) _
  obtain ⟨T1, h1, X1, e1, E1, A1, D1, -, st1⟩ := newO X0 hx hZ hown (ow hw 5) (ow hw 6) (ow hw 7) e0 (g := (mkF m 5 #[.val (.int pa), .val (.int a), .val (.int b)] [])) rfl (hb hby d1_5) (by decide) (by decide)
  obtain ⟨b1, g1⟩ : ∃ z, z = h0.size := ⟨_, rfl⟩
  rw [← g1] at A1 D1 st1
  refine own_go (fun _ k => st1 _ k) ?_
  have g_b1 : n0 ≤ b1 := Nat.le_trans (own_osz O) (Nat.le_of_eq g1.symm)
  have sz_b1 : h0.size ≤ b1 := Nat.le_trans K0.1 (Nat.le_of_eq g1.symm)
  have O := O.ext E1
  have K2 := K0.ext E1
  have E_b1 := A1
  have F_b1_String_coder : Fld Z h1 b1 "java/lang/String" "coder" "B" (.int 0) := D1 (Or.inr (ow hw 32)) (ty := .byte) (by decide)
  have F_b1_String_value : Fld Z h1 b1 "java/lang/String" "value" "[B" .null := D1 (Or.inr (ow hw 34)) (ty := (.array .byte)) (by decide)
  show own_Fin p e below (T1.setTop (mkF m 8 #[.val (.int pa), .val (.int a), .val (.int b)] [(.ref b1)])) _
  refine own_go (fun _ k => XS.dup X1.here hx rfl (hb hby d1_8) rfl rfl (XS.iconst X1.here hx rfl (hb hby d1_9) k)) ?_
  show own_Fin p e below (T1.setTop (mkF m 10 #[.val (.int pa), .val (.int a), .val (.int b)] [(.int 1), (.ref b1), (.ref b1)])) _
  obtain ⟨T3, h3, k3, X3, e3, E3, A3, st3⟩ := newP X1 hx hZ (ow hw 8) e1 (g := (mkF m 10 #[.val (.int pa), .val (.int a), .val (.int b)] [(.int 1), (.ref b1), (.ref b1)])) rfl (hb hby d1_10) rfl (by decide) (cap := 1) (by decide) (by decide) (by decide) (by decide)
  obtain ⟨b3, g3⟩ : ∃ z, z = h1.size := ⟨_, rfl⟩
  rw [← g3] at A3 st3
  refine own_go (fun _ k => st3 _ k) ?_
  have ne_b1_b3 : b1 ≠ b3 := Nat.ne_of_lt (Nat.lt_of_lt_of_le E_b1.lt (Nat.le_of_eq g3.symm))
  have g_b3 : n0 ≤ b3 := Nat.le_trans (own_osz O) (Nat.le_of_eq g3.symm)
  have sz_b3 : h0.size ≤ b3 := Nat.le_trans K2.1 (Nat.le_of_eq g3.symm)
  have E_b1 := E_b1.ext E3
  have F_b1_String_coder := F_b1_String_coder.ext E3
  have F_b1_String_value := F_b1_String_value.ext E3
  have O := O.ext E3
  have K4 := K2.ext E3
  have V_b3 : Arv Z h3 b3 k3 .char (1 : Int32) [(.int 0)] (.int 0) := (Arv.new A3 (by decide)).pad (pad_rep [] (.int 0) 1)
  show own_Fin p e below (T3.setTop (mkF m 12 #[.val (.int pa), .val (.int a), .val (.int b)] [(.ref b3), (.ref b1), (.ref b1)])) _
  refine own_go (fun _ k => XS.dup X3.here hx rfl (hb hby d1_12) rfl rfl (XS.iconst X3.here hx rfl (hb hby d1_13) (XS.iloadN X3.here hx rfl (hb hby d1_14) rfl k))) ?_
  show own_Fin p e below (T3.setTop (mkF m 15 #[.val (.int pa), .val (.int a), .val (.int b)] [(.int a), (.int 0), (.ref b3), (.ref b3), (.ref b1), (.ref b1)])) _
  obtain ⟨cl5, A5, q5, S5, M5, H5, G5⟩ := id V_b3
  have hin5 : ¬ ((0 : Int32) < 0 ∨ cl5.slots.size ≤ ((0 : Int32)).toNatClampNeg) := inb_of S5 ⟨by decide, by decide⟩
  obtain ⟨T5, h5, X5, e5, W5, st5⟩ := stC X3 hx hZ e3 A5 (j := (0 : Int32)) hin5 (g := (mkF m 15 #[.val (.int pa), .val (.int a), .val (.int b)] [(.int a), (.int 0), (.ref b3), (.ref b3), (.ref b1), (.ref b1)])) rfl rfl (hb hby d1_15)
  refine own_go (fun _ k => st5 _ k) ?_
  have E_b1 := E_b1.wr W5
  have F_b1_String_coder := F_b1_String_coder.other W5 (Or.inl ne_b1_b3)
  have F_b1_String_value := F_b1_String_value.other W5 (Or.inl ne_b1_b3)
  have O := O.wr W5 g_b3
  have K6 := K4.wr W5 (Or.inr sz_b3)
  have V_b3 : Arv Z h5 b3 k3 .char (1 : Int32) [(.int (nar .char a))] (.int 0) := Arv.set A5 q5 S5 M5 H5 G5 (fits_nar_char _) W5 0 rfl (Nat.le_of_ble_eq_true rfl)
  have N5 := Fr.snoc X5 N0 g_b3
  show own_Fin p e below (T5.setTop (mkF m 16 #[.val (.int pa), .val (.int a), .val (.int b)] [(.ref b3), (.ref b1), (.ref b1)])) _
  obtain ⟨_, _, ⟨T7, L7, k7, n7⟩, -, X7, ⟨Lc7, hQ7, l7, y7, z7⟩, st7⟩ := X5.specialBack hx (y := (⟨"java/lang/String", "<init>", "([C)V"⟩ : MethodName)) rfl hown (mvT hZ (ow hw 9)) (mvT hZ (ow hw 10)) (mvT hZ (ow hw 11)) (by decide) (StrChars.Road.backV (W := 1) hZ (own_wI hw) (kI := 4) (ow hw 6) (cs := ([(nar .char a)] : List Int32)) (bs := (([(nar .char a)] : List Int32)).map (fun c => c.toInt8.toInt32)) (n := 1) g_b1 (own_osz O) E_b1 F_b1_String_value F_b1_String_coder V_b3 (S_String_COMPACT_STRINGS.ext O.2) hz rfl rfl (by decide) (by decide) (own_hp1 ha) rfl (by decide) (by decide)) (g := (mkF m 16 #[.val (.int pa), .val (.int a), .val (.int b)] [(.ref b3), (.ref b1), (.ref b1)])) rfl (by rw [hml]; rfl) (Steps.refl _) (a := b1) (argsL := [(.ref b3)]) (rest := [(.ref b1)]) (lenOf pd_0 rfl) rfl (by show 2 * 0 + _ ≤ _; exact Nat.le_of_eq rfl) (hb hby d1_16) (fun _ _ => ⟨rfl, e5, (by decide : 2 + 1 ≤ _), (by decide : 5 + 1 ≤ _)⟩)
  dsimp only [Pt.U, Pt.locs, Pt.cells, Pt.slots] at X7 l7 y7 z7 st7 hQ7
  subst l7 y7 z7
  refine own_go (fun _ k => st7.trans k) ?_
  obtain ⟨rfl, N7q, Kq7, P7_0, P7_1, b8, kb7, g_b8, P7_2, P7_3, P7_4, P7_5⟩ := hQ7
  have N7 := Fr.app N5 N7q
  have ne_b1_b8 : b1 ≠ b8 := Nat.ne_of_lt (Nat.lt_of_lt_of_le E_b1.lt P7_2)
  have ne_b3_b8 : b3 ≠ b8 := Nat.ne_of_lt (Nat.lt_of_lt_of_le V_b3.lt P7_2)
  have sz_b8 : h0.size ≤ b8 := Nat.le_trans K6.1 P7_2
  have E_b1 := E_b1.keep Kq7
  clear F_b1_String_coder
  clear F_b1_String_value
  have V_b3 := V_b3.keep Kq7 (ninS (Ne.symm ne_b1_b3) nin0)
  have O := O.keep Kq7 (allS g_b1 all0)
  have K9 := K6.trans Kq7 (allS (Or.inr sz_b1) all0)
  have E_b1 := P7_0
  have F_b1_String_coder := P7_1
  have F_b1_String_value := P7_4
  have V_b8 := P7_5
  show own_Fin p e below (T7.setTop (mkF m 19 #[.val (.int pa), .val (.int a), .val (.int b)] [(.ref b1)])) _
  obtain ⟨fs, hr, hrun, hended, hW, hsame⟩ := X7.leave (v := some (.ref b1)) (fun h => by rw [Bd.returns] at h; cases h)
  refine ⟨_, _, ?_, hrun, hended, _, _, rfl, ?_, ⟨_, rfl⟩, hW, hsame.mono (by decide) (by decide)⟩
  ·exact X7.areturnOut hx rfl Bd.returns rfl (hb hby d1_19) hr
  ·show Qrmk1 Z pa a b z h0 n0 _ T7.heap _
   exact ⟨b1, b8, kb7, rfl, N7, K9, sz_b1, sz_b8, ne_b1_b8, E_b1, F_b1_String_coder, F_b1_String_value, V_b8⟩
theorem d10_0 : decode jdk_42_method_55_code 0 = .ok (.aload_n 0, 1) := by decide +kernel
theorem d10_1 : decode jdk_42_method_55_code 1 = .ok (.getfield 9, 3) := by decide +kernel
theorem d10_4 : decode jdk_42_method_55_code 4 = .ok (.arraylength, 1) := by decide +kernel
theorem d10_5 : decode jdk_42_method_55_code 5 = .ok (.ifCond .ne 7, 3) := by decide +kernel
theorem d10_12 : decode jdk_42_method_55_code 12 = .ok (.iconst 0, 1) := by decide +kernel
theorem d10_13 : decode jdk_42_method_55_code 13 = .ok (.ireturn, 1) := by decide +kernel
theorem pn_1 : plainName "java/lang/String" = true := by first | (simp [plainName, overriddenIn]; done) | decide +kernel
theorem ef_rmem1 (m : MethodId) (x0 : Addr) : entryFrame m #[(.ref x0)] 1 = mkF m 0 #[.val (.ref x0)] [] := by first | (simp [entryFrame, mkF, argsToLocals, Value.category]; done) | rfl
def Qrmem1 (Z : State) (a : Addr) (t : Addr) (kb : ClassId) (vs : List Value) (h0 : Heap) (n0 : Nat) (v : Option Value) (h : Heap) (L : List Loc) : Prop := v = some (.int 0) ∧ Fr n0 L ∧ h = h0
set_option maxRecDepth 65536 in
set_option maxHeartbeats 40000000 in
theorem rmem1 (l : Launch) (Z : State) (a0 : Array Value) (hw : ∀ d ∈ tables_1, d.before a0 Z = true) (ws : List Jvm.Cond) (a : Addr) (t : Addr) (kb : ClassId) (vs : List Value) (h0 : Heap) (n0 : Nat) (O : Old Z n0 h0) (F_a_String_value : Fld Z h0 a "java/lang/String" "value" "[B" (.ref t)) (V_t : Arv Z h0 t kb .byte (1 : Int32) vs (.int 0)) :
    MetFree l (⟨"java/lang/String", "isEmpty", "()Z"⟩ : MethodName) (head1 (Jvm.Cond.code (⟨"java/lang/String", "isEmpty", "()Z"⟩ : MethodName) jdk_42_method_55_code 1 (some .boolean) :: ws) ({ frames := 0, cells := 0, slots := 0, locals := 0 } : Room)) (fun a' U' => a' = #[(.ref a)] ∧ Z.Warmed39 U'.vm ∧ U'.heap = h0) (fun _ _ _ _ _ => True) (fun _ U' o' W' => ∃ v' L', o' = .returned v' ∧ Qrmem1 Z a t kb vs h0 n0 v' W'.heap L' ∧ FrameEnd U' o' W' L' ({ frames := 0, cells := 0, slots := 0, locals := 0 } : Room).cells ({ frames := 0, cells := 0, slots := 0, locals := 0 } : Room).slots) := by
  refine MetFree.of_bodySF (plainFor_of_name pn_1) hisR ?_
  intro p e s m args below meth c s₁ Bd hml0 hP hK
  obtain ⟨rfl, hZ, hh⟩ := hP
  have hx := Bd.exec
  have hby := Bd.bytes
  have hml : c.maxLocals = 1 := hml0
  have hown : s.vm.findClass "java/lang/String" = some m.cls := findClass_of_methodNamed Bd.named
  have hnm := (name_of_methodNamed Bd.named Bd.method).1
  have X0 : Stand p l e ({ frames := 0, cells := 0, slots := 0, locals := 0 } : Room) s m #[(.ref a)] below meth c s₁ [] 0 0 := Stand.of_body Bd
  have e0 : s₁.heap = h0 := by rw [← hh, Bd.state]; rfl
  have N0 := Fr.nil n0
  refine own_start (ef_rmem1 m a) (Q := fun o' t' => ∃ v' L', o' = .returned v' ∧ Qrmem1 Z a t kb vs h0 n0 v' t'.heap L' ∧ FrameEnd s o' t' L' ({ frames := 0, cells := 0, slots := 0, locals := 0 } : Room).cells ({ frames := 0, cells := 0, slots := 0, locals := 0 } : Room).slots) ?_
  show own_Fin p e below (s₁.setTop (mkF m 0 #[.val (.ref a)] [])) _
  refine own_go (fun _ k => XS.aloadN X0.here hx rfl (hb hby d10_0) rfl rfl k) ?_
  show own_Fin p e below (s₁.setTop (mkF m 1 #[.val (.ref a)] [(.ref a)])) _
  obtain ⟨T11, X11, e11, st11⟩ := getF X0 hx hZ hown (host := "") (Or.inl (ow hw 33)) Via.refl e0 F_a_String_value (g := (mkF m 1 #[.val (.ref a)] [(.ref a)])) rfl rfl (hb hby d10_1)
  refine own_go (fun _ k => st11 _ k) ?_
  show own_Fin p e below (T11.setTop (mkF m 4 #[.val (.ref a)] [(.ref t)])) _
  obtain ⟨cl12, A12, -, S12, M12, -, -⟩ := id V_t
  refine own_go (fun _ k => X11.arraylength hx (own_eqE e11 A12.1) (State.isArrayOf_alike hZ.alike A12.2.1) (g := (mkF m 4 #[.val (.ref a)] [(.ref t)])) rfl rfl (hb hby d10_4) _ (by rw [len_of S12 M12]; exact k)) ?_
  show own_Fin p e below (T11.setTop (mkF m 5 #[.val (.ref a)] [(.int 1)])) _
  refine own_go (fun _ k => XS.ifYes X11.here hx rfl (pc0 := 5) (pc' := 12) rfl (hb hby d10_5) rfl ((if0 _ _).trans (feq (by decide : ¬ ((1 : Int32) = (0 : Int32)))).2) (by decide) (by decide) (XS.iconst X11.here hx rfl (hb hby d10_12) k)) ?_
  show own_Fin p e below (T11.setTop (mkF m 13 #[.val (.ref a)] [(.int 0)])) _
  obtain ⟨fs, hr, hrun, hended, hW, hsame⟩ := X11.leave (v := some (.int 0)) (fun h => by rw [Bd.returns] at h; cases h)
  refine ⟨_, _, ?_, hrun, hended, _, _, rfl, ?_, ⟨_, rfl⟩, hW, hsame.mono (by decide) (by decide)⟩
  ·exact retN X11 hx (t := .boolean) Bd.returns (by simp) (hb hby d10_13) hr
  ·show Qrmem1 Z a t kb vs h0 n0 _ T11.heap _
   rw [e11]
   exact ⟨rfl, N0, rfl⟩
theorem d1_20 : decode method_2_code 20 = .ok (.new 7, 3) := by decide +kernel
theorem d1_23 : decode method_2_code 23 = .ok (.dup, 1) := by decide +kernel
theorem d1_24 : decode method_2_code 24 = .ok (.iconst 2, 1) := by decide +kernel
theorem d1_25 : decode method_2_code 25 = .ok (.newarray .char, 2) := by decide +kernel
theorem d1_27 : decode method_2_code 27 = .ok (.dup, 1) := by decide +kernel
theorem d1_28 : decode method_2_code 28 = .ok (.iconst 0, 1) := by decide +kernel
theorem d1_29 : decode method_2_code 29 = .ok (.iload_n 1, 1) := by decide +kernel
theorem d1_30 : decode method_2_code 30 = .ok (.castore, 1) := by decide +kernel
theorem d1_31 : decode method_2_code 31 = .ok (.dup, 1) := by decide +kernel
theorem d1_32 : decode method_2_code 32 = .ok (.iconst 1, 1) := by decide +kernel
theorem d1_33 : decode method_2_code 33 = .ok (.iload_n 2, 1) := by decide +kernel
theorem d1_34 : decode method_2_code 34 = .ok (.castore, 1) := by decide +kernel
theorem d1_35 : decode method_2_code 35 = .ok (.invokespecial 9, 3) := by decide +kernel
theorem d1_38 : decode method_2_code 38 = .ok (.areturn, 1) := by decide +kernel
theorem ef_rmk2 (m : MethodId) (x0 : Int32) (x1 : Int32) (x2 : Int32) : entryFrame m #[(.int x0), (.int x1), (.int x2)] 3 = mkF m 0 #[.val (.int x0), .val (.int x1), .val (.int x2)] [] := by first | (simp [entryFrame, mkF, argsToLocals, Value.category]; done) | rfl
def Qrmk2 (Z : State) (pa : Int32) (a : Int32) (b : Int32) (z : Int32) (h0 : Heap) (n0 : Nat) (v : Option Value) (h : Heap) (L : List Loc) : Prop := ∃ (s_ : Addr) (t_ : Addr) (kb_ : ClassId), v = some (.ref s_) ∧ Fr n0 L ∧ Keep h0 h [] ∧ h0.size ≤ s_ ∧ h0.size ≤ t_ ∧ s_ ≠ t_ ∧ Exa Z h s_ "java/lang/String" ∧ Fld Z h s_ "java/lang/String" "coder" "B" (.int 0) ∧ Fld Z h s_ "java/lang/String" "value" "[B" (.ref t_) ∧ Arv Z h t_ kb_ .byte (2 : Int32) (((([(nar .char a), (nar .char b)] : List Int32)).map (fun c => c.toInt8.toInt32)).map Value.int) (.int 0)
set_option maxRecDepth 65536 in
set_option maxHeartbeats 40000000 in
theorem rmk2 (l : Launch) (Z : State) (a0 : Array Value) (hw : ∀ d ∈ tables_1, d.before a0 Z = true) (ws : List Jvm.Cond) (pa : Int32) (a : Int32) (b : Int32) (z : Int32) (h0 : Heap) (n0 : Nat) (O : Old Z n0 h0) (S_String_COMPACT_STRINGS : Sta Z Z.heap "java/lang/String" "COMPACT_STRINGS" "Z" (.int z)) (hz : ¬ z = 0) (hp : ¬ (pa = (1 : Int32))) (ha : ¬ a < 0 ∧ ¬ (255 : Int32) < a) (hb_ : ¬ b < 0 ∧ ¬ (255 : Int32) < b) :
    MetFree l (⟨"com/example/lokahi/lokahi/UnitEqualsPinLaw", "mk", "(ICC)Ljava/lang/String;"⟩ : MethodName) (head1 (Jvm.Cond.code (⟨"com/example/lokahi/lokahi/UnitEqualsPinLaw", "mk", "(ICC)Ljava/lang/String;"⟩ : MethodName) method_2_code 3 (some (.object "java/lang/String")) :: ws) ({ frames := 4, cells := 3, slots := 8, locals := 66 } : Room)) (fun a' U' => a' = #[(.int pa), (.int a), (.int b)] ∧ Z.Warmed39 U'.vm ∧ U'.heap = h0) (fun _ _ _ _ _ => True) (fun _ U' o' W' => ∃ v' L', o' = .returned v' ∧ Qrmk2 Z pa a b z h0 n0 v' W'.heap L' ∧ FrameEnd U' o' W' L' ({ frames := 4, cells := 3, slots := 8, locals := 66 } : Room).cells ({ frames := 4, cells := 3, slots := 8, locals := 66 } : Room).slots) := by
  refine MetFree.of_bodySF (plainFor_of_name pn_0) hisR ?_
  intro p e s m args below meth c s₁ Bd hml0 hP hK
  obtain ⟨rfl, hZ, hh⟩ := hP
  have hx := Bd.exec
  have hby := Bd.bytes
  have hml : c.maxLocals = 3 := hml0
  have hown : s.vm.findClass "com/example/lokahi/lokahi/UnitEqualsPinLaw" = some m.cls := findClass_of_methodNamed Bd.named
  have hnm := (name_of_methodNamed Bd.named Bd.method).1
  have X0 : Stand p l e ({ frames := 4, cells := 3, slots := 8, locals := 66 } : Room) s m #[(.int pa), (.int a), (.int b)] below meth c s₁ [] 0 0 := Stand.of_body Bd
  have e0 : s₁.heap = h0 := by rw [← hh, Bd.state]; rfl
  have N0 := Fr.nil n0
  have K0 := Keep.refl h0 []
  refine own_start (ef_rmk2 m pa a b) (Q := fun o' t' => ∃ v' L', o' = .returned v' ∧ Qrmk2 Z pa a b z h0 n0 v' t'.heap L' ∧ FrameEnd s o' t' L' ({ frames := 4, cells := 3, slots := 8, locals := 66 } : Room).cells ({ frames := 4, cells := 3, slots := 8, locals := 66 } : Room).slots) ?_
  show own_Fin p e below (s₁.setTop (mkF m 0 #[.val (.int pa), .val (.int a), .val (.int b)] [])) _
  refine own_go (fun _ k => XS.iloadN X0.here hx rfl (hb hby d1_0) rfl (XS.iconst X0.here hx rfl (hb hby d1_1) (XS.icmpYes X0.here hx rfl (pc0 := 2) (pc' := 20) rfl (hb hby d1_2) rfl (feq hp).2 (by decide) (by decide) k))) ?_
  show own_Fin p e below (s₁.setTop (mkF m 20 #[.val (.int pa), .val (.int a), .val (.int b)] [])) _
  obtain ⟨T14, h14, X14, e14, E14, A14, D14, -, st14⟩ := newO X0 hx hZ hown (ow hw 5) (ow hw 6) (ow hw 7) e0 (g := (mkF m 20 #[.val (.int pa), .val (.int a), .val (.int b)] [])) rfl (hb hby d1_20) (by decide) (by decide)
  obtain ⟨b14, g14⟩ : ∃ z, z = h0.size := ⟨_, rfl⟩
  rw [← g14] at A14 D14 st14
  refine own_go (fun _ k => st14 _ k) ?_
  have g_b14 : n0 ≤ b14 := Nat.le_trans (own_osz O) (Nat.le_of_eq g14.symm)
  have sz_b14 : h0.size ≤ b14 := Nat.le_trans K0.1 (Nat.le_of_eq g14.symm)
  have O := O.ext E14
  have K15 := K0.ext E14
  have E_b14 := A14
  have F_b14_String_coder : Fld Z h14 b14 "java/lang/String" "coder" "B" (.int 0) := D14 (Or.inr (ow hw 32)) (ty := .byte) (by decide)
  have F_b14_String_value : Fld Z h14 b14 "java/lang/String" "value" "[B" .null := D14 (Or.inr (ow hw 34)) (ty := (.array .byte)) (by decide)
  show own_Fin p e below (T14.setTop (mkF m 23 #[.val (.int pa), .val (.int a), .val (.int b)] [(.ref b14)])) _
  refine own_go (fun _ k => XS.dup X14.here hx rfl (hb hby d1_23) rfl rfl (XS.iconst X14.here hx rfl (hb hby d1_24) k)) ?_
  show own_Fin p e below (T14.setTop (mkF m 25 #[.val (.int pa), .val (.int a), .val (.int b)] [(.int 2), (.ref b14), (.ref b14)])) _
  obtain ⟨T16, h16, k16, X16, e16, E16, A16, st16⟩ := newP X14 hx hZ (ow hw 8) e14 (g := (mkF m 25 #[.val (.int pa), .val (.int a), .val (.int b)] [(.int 2), (.ref b14), (.ref b14)])) rfl (hb hby d1_25) rfl (by decide) (cap := 2) (by decide) (by decide) (by decide) (by decide)
  obtain ⟨b16, g16⟩ : ∃ z, z = h14.size := ⟨_, rfl⟩
  rw [← g16] at A16 st16
  refine own_go (fun _ k => st16 _ k) ?_
  have ne_b14_b16 : b14 ≠ b16 := Nat.ne_of_lt (Nat.lt_of_lt_of_le E_b14.lt (Nat.le_of_eq g16.symm))
  have g_b16 : n0 ≤ b16 := Nat.le_trans (own_osz O) (Nat.le_of_eq g16.symm)
  have sz_b16 : h0.size ≤ b16 := Nat.le_trans K15.1 (Nat.le_of_eq g16.symm)
  have E_b14 := E_b14.ext E16
  have F_b14_String_coder := F_b14_String_coder.ext E16
  have F_b14_String_value := F_b14_String_value.ext E16
  have O := O.ext E16
  have K17 := K15.ext E16
  have V_b16 : Arv Z h16 b16 k16 .char (2 : Int32) [(.int 0), (.int 0)] (.int 0) := (Arv.new A16 (by decide)).pad (pad_rep [] (.int 0) 2)
  show own_Fin p e below (T16.setTop (mkF m 27 #[.val (.int pa), .val (.int a), .val (.int b)] [(.ref b16), (.ref b14), (.ref b14)])) _
  refine own_go (fun _ k => XS.dup X16.here hx rfl (hb hby d1_27) rfl rfl (XS.iconst X16.here hx rfl (hb hby d1_28) (XS.iloadN X16.here hx rfl (hb hby d1_29) rfl k))) ?_
  show own_Fin p e below (T16.setTop (mkF m 30 #[.val (.int pa), .val (.int a), .val (.int b)] [(.int a), (.int 0), (.ref b16), (.ref b16), (.ref b14), (.ref b14)])) _
  obtain ⟨cl18, A18, q18, S18, M18, H18, G18⟩ := id V_b16
  have hin18 : ¬ ((0 : Int32) < 0 ∨ cl18.slots.size ≤ ((0 : Int32)).toNatClampNeg) := inb_of S18 ⟨by decide, by decide⟩
  obtain ⟨T18, h18, X18, e18, W18, st18⟩ := stC X16 hx hZ e16 A18 (j := (0 : Int32)) hin18 (g := (mkF m 30 #[.val (.int pa), .val (.int a), .val (.int b)] [(.int a), (.int 0), (.ref b16), (.ref b16), (.ref b14), (.ref b14)])) rfl rfl (hb hby d1_30)
  refine own_go (fun _ k => st18 _ k) ?_
  have E_b14 := E_b14.wr W18
  have F_b14_String_coder := F_b14_String_coder.other W18 (Or.inl ne_b14_b16)
  have F_b14_String_value := F_b14_String_value.other W18 (Or.inl ne_b14_b16)
  have O := O.wr W18 g_b16
  have K19 := K17.wr W18 (Or.inr sz_b16)
  have V_b16 : Arv Z h18 b16 k16 .char (2 : Int32) [(.int (nar .char a)), (.int 0)] (.int 0) := Arv.set A18 q18 S18 M18 H18 G18 (fits_nar_char _) W18 0 rfl (Nat.le_of_ble_eq_true rfl)
  have N18 := Fr.snoc X18 N0 g_b16
  show own_Fin p e below (T18.setTop (mkF m 31 #[.val (.int pa), .val (.int a), .val (.int b)] [(.ref b16), (.ref b14), (.ref b14)])) _
  refine own_go (fun _ k => XS.dup X18.here hx rfl (hb hby d1_31) rfl rfl (XS.iconst X18.here hx rfl (hb hby d1_32) (XS.iloadN X18.here hx rfl (hb hby d1_33) rfl k))) ?_
  show own_Fin p e below (T18.setTop (mkF m 34 #[.val (.int pa), .val (.int a), .val (.int b)] [(.int b), (.int 1), (.ref b16), (.ref b16), (.ref b14), (.ref b14)])) _
  obtain ⟨cl20, A20, q20, S20, M20, H20, G20⟩ := id V_b16
  have hin20 : ¬ ((1 : Int32) < 0 ∨ cl20.slots.size ≤ ((1 : Int32)).toNatClampNeg) := inb_of S20 ⟨by decide, by decide⟩
  obtain ⟨T20, h20, X20, e20, W20, st20⟩ := stC X18 hx hZ e18 A20 (j := (1 : Int32)) hin20 (g := (mkF m 34 #[.val (.int pa), .val (.int a), .val (.int b)] [(.int b), (.int 1), (.ref b16), (.ref b16), (.ref b14), (.ref b14)])) rfl rfl (hb hby d1_34)
  refine own_go (fun _ k => st20 _ k) ?_
  have E_b14 := E_b14.wr W20
  have F_b14_String_coder := F_b14_String_coder.other W20 (Or.inl ne_b14_b16)
  have F_b14_String_value := F_b14_String_value.other W20 (Or.inl ne_b14_b16)
  have O := O.wr W20 g_b16
  have K21 := K19.wr W20 (Or.inr sz_b16)
  have V_b16 : Arv Z h20 b16 k16 .char (2 : Int32) [(.int (nar .char a)), (.int (nar .char b))] (.int 0) := Arv.set A20 q20 S20 M20 H20 G20 (fits_nar_char _) W20 1 rfl (Nat.le_of_ble_eq_true rfl)
  have N20 := Fr.snoc X20 N18 g_b16
  show own_Fin p e below (T20.setTop (mkF m 35 #[.val (.int pa), .val (.int a), .val (.int b)] [(.ref b16), (.ref b14), (.ref b14)])) _
  obtain ⟨_, _, ⟨T22, L22, k22, n22⟩, -, X22, ⟨Lc22, hQ22, l22, y22, z22⟩, st22⟩ := X20.specialBack hx (y := (⟨"java/lang/String", "<init>", "([C)V"⟩ : MethodName)) rfl hown (mvT hZ (ow hw 9)) (mvT hZ (ow hw 10)) (mvT hZ (ow hw 11)) (by decide) (StrChars.Road.backV (W := 1) hZ (own_wI hw) (kI := 4) (ow hw 6) (cs := ([(nar .char a), (nar .char b)] : List Int32)) (bs := (([(nar .char a), (nar .char b)] : List Int32)).map (fun c => c.toInt8.toInt32)) (n := 2) g_b14 (own_osz O) E_b14 F_b14_String_value F_b14_String_coder V_b16 (S_String_COMPACT_STRINGS.ext O.2) hz rfl rfl (by decide) (by decide) (own_hp2 ha hb_) rfl (by decide) (by decide)) (g := (mkF m 35 #[.val (.int pa), .val (.int a), .val (.int b)] [(.ref b16), (.ref b14), (.ref b14)])) rfl (by rw [hml]; rfl) (Steps.refl _) (a := b14) (argsL := [(.ref b16)]) (rest := [(.ref b14)]) (lenOf pd_0 rfl) rfl (by show 2 * 0 + _ ≤ _; exact Nat.le_of_eq rfl) (hb hby d1_35) (fun _ _ => ⟨rfl, e20, (by decide : 2 + 1 ≤ _), (by decide : 6 + 2 ≤ _)⟩)
  dsimp only [Pt.U, Pt.locs, Pt.cells, Pt.slots] at X22 l22 y22 z22 st22 hQ22
  subst l22 y22 z22
  refine own_go (fun _ k => st22.trans k) ?_
  obtain ⟨rfl, N22q, Kq22, P22_0, P22_1, b23, kb22, g_b23, P22_2, P22_3, P22_4, P22_5⟩ := hQ22
  have N22 := Fr.app N20 N22q
  have ne_b14_b23 : b14 ≠ b23 := Nat.ne_of_lt (Nat.lt_of_lt_of_le E_b14.lt P22_2)
  have ne_b16_b23 : b16 ≠ b23 := Nat.ne_of_lt (Nat.lt_of_lt_of_le V_b16.lt P22_2)
  have sz_b23 : h0.size ≤ b23 := Nat.le_trans K21.1 P22_2
  have E_b14 := E_b14.keep Kq22
  clear F_b14_String_coder
  clear F_b14_String_value
  have V_b16 := V_b16.keep Kq22 (ninS (Ne.symm ne_b14_b16) nin0)
  have O := O.keep Kq22 (allS g_b14 all0)
  have K24 := K21.trans Kq22 (allS (Or.inr sz_b14) all0)
  have E_b14 := P22_0
  have F_b14_String_coder := P22_1
  have F_b14_String_value := P22_4
  have V_b23 := P22_5
  show own_Fin p e below (T22.setTop (mkF m 38 #[.val (.int pa), .val (.int a), .val (.int b)] [(.ref b14)])) _
  obtain ⟨fs, hr, hrun, hended, hW, hsame⟩ := X22.leave (v := some (.ref b14)) (fun h => by rw [Bd.returns] at h; cases h)
  refine ⟨_, _, ?_, hrun, hended, _, _, rfl, ?_, ⟨_, rfl⟩, hW, hsame.mono (by decide) (by decide)⟩
  ·exact X22.areturnOut hx rfl Bd.returns rfl (hb hby d1_38) hr
  ·show Qrmk2 Z pa a b z h0 n0 _ T22.heap _
   exact ⟨b14, b23, kb22, rfl, N22, K24, sz_b14, sz_b23, ne_b14_b23, E_b14, F_b14_String_coder, F_b14_String_value, V_b23⟩
theorem ef_rmem2 (m : MethodId) (x0 : Addr) : entryFrame m #[(.ref x0)] 1 = mkF m 0 #[.val (.ref x0)] [] := by first | (simp [entryFrame, mkF, argsToLocals, Value.category]; done) | rfl
def Qrmem2 (Z : State) (a : Addr) (t : Addr) (kb : ClassId) (vs : List Value) (h0 : Heap) (n0 : Nat) (v : Option Value) (h : Heap) (L : List Loc) : Prop := v = some (.int 0) ∧ Fr n0 L ∧ h = h0
set_option maxRecDepth 65536 in
set_option maxHeartbeats 40000000 in
theorem rmem2 (l : Launch) (Z : State) (a0 : Array Value) (hw : ∀ d ∈ tables_1, d.before a0 Z = true) (ws : List Jvm.Cond) (a : Addr) (t : Addr) (kb : ClassId) (vs : List Value) (h0 : Heap) (n0 : Nat) (O : Old Z n0 h0) (F_a_String_value : Fld Z h0 a "java/lang/String" "value" "[B" (.ref t)) (V_t : Arv Z h0 t kb .byte (2 : Int32) vs (.int 0)) :
    MetFree l (⟨"java/lang/String", "isEmpty", "()Z"⟩ : MethodName) (head1 (Jvm.Cond.code (⟨"java/lang/String", "isEmpty", "()Z"⟩ : MethodName) jdk_42_method_55_code 1 (some .boolean) :: ws) ({ frames := 0, cells := 0, slots := 0, locals := 0 } : Room)) (fun a' U' => a' = #[(.ref a)] ∧ Z.Warmed39 U'.vm ∧ U'.heap = h0) (fun _ _ _ _ _ => True) (fun _ U' o' W' => ∃ v' L', o' = .returned v' ∧ Qrmem2 Z a t kb vs h0 n0 v' W'.heap L' ∧ FrameEnd U' o' W' L' ({ frames := 0, cells := 0, slots := 0, locals := 0 } : Room).cells ({ frames := 0, cells := 0, slots := 0, locals := 0 } : Room).slots) := by
  refine MetFree.of_bodySF (plainFor_of_name pn_1) hisR ?_
  intro p e s m args below meth c s₁ Bd hml0 hP hK
  obtain ⟨rfl, hZ, hh⟩ := hP
  have hx := Bd.exec
  have hby := Bd.bytes
  have hml : c.maxLocals = 1 := hml0
  have hown : s.vm.findClass "java/lang/String" = some m.cls := findClass_of_methodNamed Bd.named
  have hnm := (name_of_methodNamed Bd.named Bd.method).1
  have X0 : Stand p l e ({ frames := 0, cells := 0, slots := 0, locals := 0 } : Room) s m #[(.ref a)] below meth c s₁ [] 0 0 := Stand.of_body Bd
  have e0 : s₁.heap = h0 := by rw [← hh, Bd.state]; rfl
  have N0 := Fr.nil n0
  refine own_start (ef_rmem2 m a) (Q := fun o' t' => ∃ v' L', o' = .returned v' ∧ Qrmem2 Z a t kb vs h0 n0 v' t'.heap L' ∧ FrameEnd s o' t' L' ({ frames := 0, cells := 0, slots := 0, locals := 0 } : Room).cells ({ frames := 0, cells := 0, slots := 0, locals := 0 } : Room).slots) ?_
  show own_Fin p e below (s₁.setTop (mkF m 0 #[.val (.ref a)] [])) _
  refine own_go (fun _ k => XS.aloadN X0.here hx rfl (hb hby d10_0) rfl rfl k) ?_
  show own_Fin p e below (s₁.setTop (mkF m 1 #[.val (.ref a)] [(.ref a)])) _
  obtain ⟨T26, X26, e26, st26⟩ := getF X0 hx hZ hown (host := "") (Or.inl (ow hw 33)) Via.refl e0 F_a_String_value (g := (mkF m 1 #[.val (.ref a)] [(.ref a)])) rfl rfl (hb hby d10_1)
  refine own_go (fun _ k => st26 _ k) ?_
  show own_Fin p e below (T26.setTop (mkF m 4 #[.val (.ref a)] [(.ref t)])) _
  obtain ⟨cl27, A27, -, S27, M27, -, -⟩ := id V_t
  refine own_go (fun _ k => X26.arraylength hx (own_eqE e26 A27.1) (State.isArrayOf_alike hZ.alike A27.2.1) (g := (mkF m 4 #[.val (.ref a)] [(.ref t)])) rfl rfl (hb hby d10_4) _ (by rw [len_of S27 M27]; exact k)) ?_
  show own_Fin p e below (T26.setTop (mkF m 5 #[.val (.ref a)] [(.int 2)])) _
  refine own_go (fun _ k => XS.ifYes X26.here hx rfl (pc0 := 5) (pc' := 12) rfl (hb hby d10_5) rfl ((if0 _ _).trans (feq (by decide : ¬ ((2 : Int32) = (0 : Int32)))).2) (by decide) (by decide) (XS.iconst X26.here hx rfl (hb hby d10_12) k)) ?_
  show own_Fin p e below (T26.setTop (mkF m 13 #[.val (.ref a)] [(.int 0)])) _
  obtain ⟨fs, hr, hrun, hended, hW, hsame⟩ := X26.leave (v := some (.int 0)) (fun h => by rw [Bd.returns] at h; cases h)
  refine ⟨_, _, ?_, hrun, hended, _, _, rfl, ?_, ⟨_, rfl⟩, hW, hsame.mono (by decide) (by decide)⟩
  ·exact retN X26 hx (t := .boolean) Bd.returns (by simp) (hb hby d10_13) hr
  ·show Qrmem2 Z a t kb vs h0 n0 _ T26.heap _
   rw [e26]
   exact ⟨rfl, N0, rfl⟩
theorem d9_0 : decode jdk_31_method_11_code 0 = .ok (.aload_n 0, 1) := by decide +kernel
theorem d9_1 : decode jdk_31_method_11_code 1 = .ok (.ifnonnull 12, 3) := by decide +kernel
theorem d9_13 : decode jdk_31_method_11_code 13 = .ok (.aload_n 0, 1) := by decide +kernel
theorem d9_14 : decode jdk_31_method_11_code 14 = .ok (.areturn, 1) := by decide +kernel
theorem pn_2 : plainName "java/util/Objects" = true := by first | (simp [plainName, overriddenIn]; done) | decide +kernel
theorem ef_rm9 (m : MethodId) (x0 : Addr) (x1 : Addr) : entryFrame m #[(.ref x0), (.ref x1)] 2 = mkF m 0 #[.val (.ref x0), .val (.ref x1)] [] := by first | (simp [entryFrame, mkF, argsToLocals, Value.category]; done) | rfl
def Qrm9 (Z : State) (a : Addr) (m_ : Addr) (h0 : Heap) (n0 : Nat) (v : Option Value) (h : Heap) (L : List Loc) : Prop := v = some (.ref a) ∧ Fr n0 L ∧ h = h0
set_option maxRecDepth 65536 in
set_option maxHeartbeats 40000000 in
theorem rm9 (l : Launch) (Z : State) (a0 : Array Value) (hw : ∀ d ∈ tables_1, d.before a0 Z = true) (ws : List Jvm.Cond) (a : Addr) (m_ : Addr) (h0 : Heap) (n0 : Nat) :
    MetFree l (⟨"java/util/Objects", "requireNonNull", "(Ljava/lang/Object;Ljava/lang/String;)Ljava/lang/Object;"⟩ : MethodName) (head1 (Jvm.Cond.code (⟨"java/util/Objects", "requireNonNull", "(Ljava/lang/Object;Ljava/lang/String;)Ljava/lang/Object;"⟩ : MethodName) jdk_31_method_11_code 2 (some (.object "java/lang/Object")) :: ws) ({ frames := 0, cells := 0, slots := 0, locals := 0 } : Room)) (fun a' U' => a' = #[(.ref a), (.ref m_)] ∧ Z.Warmed39 U'.vm ∧ U'.heap = h0) (fun _ _ _ _ _ => True) (fun _ U' o' W' => ∃ v' L', o' = .returned v' ∧ Qrm9 Z a m_ h0 n0 v' W'.heap L' ∧ FrameEnd U' o' W' L' ({ frames := 0, cells := 0, slots := 0, locals := 0 } : Room).cells ({ frames := 0, cells := 0, slots := 0, locals := 0 } : Room).slots) := by
  refine MetFree.of_bodySF (plainFor_of_name pn_2) hisR ?_
  intro p e s m args below meth c s₁ Bd hml0 hP hK
  obtain ⟨rfl, hZ, hh⟩ := hP
  have hx := Bd.exec
  have hby := Bd.bytes
  have hml : c.maxLocals = 2 := hml0
  have hown : s.vm.findClass "java/util/Objects" = some m.cls := findClass_of_methodNamed Bd.named
  have hnm := (name_of_methodNamed Bd.named Bd.method).1
  have X0 : Stand p l e ({ frames := 0, cells := 0, slots := 0, locals := 0 } : Room) s m #[(.ref a), (.ref m_)] below meth c s₁ [] 0 0 := Stand.of_body Bd
  have e0 : s₁.heap = h0 := by rw [← hh, Bd.state]; rfl
  have N0 := Fr.nil n0
  refine own_start (ef_rm9 m a m_) (Q := fun o' t' => ∃ v' L', o' = .returned v' ∧ Qrm9 Z a m_ h0 n0 v' t'.heap L' ∧ FrameEnd s o' t' L' ({ frames := 0, cells := 0, slots := 0, locals := 0 } : Room).cells ({ frames := 0, cells := 0, slots := 0, locals := 0 } : Room).slots) ?_
  show own_Fin p e below (s₁.setTop (mkF m 0 #[.val (.ref a), .val (.ref m_)] [])) _
  refine own_go (fun _ k => XS.aloadN X0.here hx rfl (hb hby d9_0) rfl rfl (XS.ifnonnullYes X0.here hx rfl (pc0 := 1) (pc' := 13) rfl (hb hby d9_1) rfl (by decide) (by decide) (XS.aloadN X0.here hx rfl (hb hby d9_13) rfl rfl k))) ?_
  show own_Fin p e below (s₁.setTop (mkF m 14 #[.val (.ref a), .val (.ref m_)] [(.ref a)])) _
  obtain ⟨fs, hr, hrun, hended, hW, hsame⟩ := X0.leave (v := some (.ref a)) (fun h => by rw [Bd.returns] at h; cases h)
  refine ⟨_, _, ?_, hrun, hended, _, _, rfl, ?_, ⟨_, rfl⟩, hW, hsame.mono (by decide) (by decide)⟩
  ·exact X0.areturnOut hx rfl Bd.returns rfl (hb hby d9_14) hr
  ·show Qrm9 Z a m_ h0 n0 _ s₁.heap _
   rw [e0]
   exact ⟨rfl, N0, rfl⟩
theorem d8_0 : decode prog_2_method_1_code 0 = .ok (.aload_n 0, 1) := by decide +kernel
theorem d8_1 : decode prog_2_method_1_code 1 = .ok (.invokespecial 1, 3) := by decide +kernel
theorem d8_4 : decode prog_2_method_1_code 4 = .ok (.aload_n 1, 1) := by decide +kernel
theorem d8_5 : decode prog_2_method_1_code 5 = .ok (.ldc 7, 2) := by decide +kernel
theorem d8_7 : decode prog_2_method_1_code 7 = .ok (.invokestatic 9, 3) := by decide +kernel
theorem pd_1 : parseMethodDescriptor "(Ljava/lang/Object;Ljava/lang/String;)Ljava/lang/Object;" = some ⟨[(.object "java/lang/Object"), (.object "java/lang/String")], some (.object "java/lang/Object")⟩ := by decide +kernel
theorem d8_10 : decode prog_2_method_1_code 10 = .ok (.pop, 1) := by decide +kernel
theorem d8_11 : decode prog_2_method_1_code 11 = .ok (.aload_n 1, 1) := by decide +kernel
theorem d8_12 : decode prog_2_method_1_code 12 = .ok (.invokevirtual 15, 3) := by decide +kernel
theorem pd_2 : parseMethodDescriptor "()Z" = some ⟨[], some .boolean⟩ := by decide +kernel
theorem d8_15 : decode prog_2_method_1_code 15 = .ok (.ifCond .eq 13, 3) := by decide +kernel
theorem d8_28 : decode prog_2_method_1_code 28 = .ok (.iload_n 2, 1) := by decide +kernel
theorem d8_29 : decode prog_2_method_1_code 29 = .ok (.ifCond .ge 17, 3) := by decide +kernel
theorem d8_46 : decode prog_2_method_1_code 46 = .ok (.aload_n 0, 1) := by decide +kernel
theorem d8_47 : decode prog_2_method_1_code 47 = .ok (.aload_n 1, 1) := by decide +kernel
theorem d8_48 : decode prog_2_method_1_code 48 = .ok (.putfield 32, 3) := by decide +kernel
theorem d8_51 : decode prog_2_method_1_code 51 = .ok (.aload_n 0, 1) := by decide +kernel
theorem d8_52 : decode prog_2_method_1_code 52 = .ok (.iload_n 2, 1) := by decide +kernel
theorem d8_53 : decode prog_2_method_1_code 53 = .ok (.putfield 37, 3) := by decide +kernel
theorem d8_56 : decode prog_2_method_1_code 56 = .ok (.return_, 1) := by decide +kernel
theorem pn_3 : plainName "com/example/lokahi/lokahi/Unit" = true := by first | (simp [plainName, overriddenIn]; done) | decide +kernel
theorem ef_rmu1 (m : MethodId) (x0 : Addr) (x1 : Addr) (x2 : Int32) : entryFrame m #[(.ref x0), (.ref x1), (.int x2)] 3 = mkF m 0 #[.val (.ref x0), .val (.ref x1), .val (.int x2)] [] := by first | (simp [entryFrame, mkF, argsToLocals, Value.category]; done) | rfl
def Qrmu1 (Z : State) (b : Addr) (s_ : Addr) (i : Int32) (t : Addr) (kb : ClassId) (vs : List Value) (h0 : Heap) (n0 : Nat) (v : Option Value) (h : Heap) (L : List Loc) : Prop := v = none ∧ Fr n0 L ∧ Keep h0 h [b] ∧ Exa Z h b "com/example/lokahi/lokahi/Unit" ∧ Fld Z h b "com/example/lokahi/lokahi/Unit" "set" "Ljava/lang/String;" (.ref s_) ∧ Fld Z h b "com/example/lokahi/lokahi/Unit" "index" "I" (.int i)
set_option maxRecDepth 65536 in
set_option maxHeartbeats 40000000 in
theorem rmu1 (l : Launch) (Z : State) (a0 : Array Value) (hw : ∀ d ∈ tables_1, d.before a0 Z = true) (ws : List Jvm.Cond) (b : Addr) (s_ : Addr) (i : Int32) (t : Addr) (kb : ClassId) (vs : List Value) (h0 : Heap) (n0 : Nat) (O : Old Z n0 h0) (E_b : Exa Z h0 b "com/example/lokahi/lokahi/Unit") (F_b_Unit_set : Fld Z h0 b "com/example/lokahi/lokahi/Unit" "set" "Ljava/lang/String;" .null) (F_b_Unit_index : Fld Z h0 b "com/example/lokahi/lokahi/Unit" "index" "I" (.int 0)) (g_b : n0 ≤ b) (hi : ¬ (i < (0 : Int32))) (E_s_ : Exa Z h0 s_ "java/lang/String") (F_s__String_value : Fld Z h0 s_ "java/lang/String" "value" "[B" (.ref t)) (V_t : Arv Z h0 t kb .byte (1 : Int32) vs (.int 0)) (nsb : s_ ≠ b) (ntb : t ≠ b) :
    MetFree l (⟨"com/example/lokahi/lokahi/Unit", "<init>", "(Ljava/lang/String;I)V"⟩ : MethodName) (head1 (Jvm.Cond.code (⟨"com/example/lokahi/lokahi/Unit", "<init>", "(Ljava/lang/String;I)V"⟩ : MethodName) prog_2_method_1_code 3 none :: ws) ({ frames := 1, cells := 2, slots := 16, locals := 13 } : Room)) (fun a' U' => a' = #[(.ref b), (.ref s_), (.int i)] ∧ Z.Warmed39 U'.vm ∧ U'.heap = h0) (fun _ _ _ _ _ => True) (fun _ U' o' W' => ∃ v' L', o' = .returned v' ∧ Qrmu1 Z b s_ i t kb vs h0 n0 v' W'.heap L' ∧ ReturnedEndW U' o' W' L' ({ frames := 1, cells := 2, slots := 16, locals := 13 } : Room).cells ({ frames := 1, cells := 2, slots := 16, locals := 13 } : Room).slots) := by
  refine MetFree.of_bodySF (plainFor_of_name pn_3) hisR ?_
  intro p e s m args below meth c s₁ Bd hml0 hP hK
  obtain ⟨rfl, hZ, hh⟩ := hP
  have hx := Bd.exec
  have hby := Bd.bytes
  have hml : c.maxLocals = 3 := hml0
  have hown : s.vm.findClass "com/example/lokahi/lokahi/Unit" = some m.cls := findClass_of_methodNamed Bd.named
  have hnm := (name_of_methodNamed Bd.named Bd.method).1
  have X0 : Stand p l e ({ frames := 1, cells := 2, slots := 16, locals := 13 } : Room) (s.setVm s.vm) m #[(.ref b), (.ref s_), (.int i)] below meth c s₁ [] 0 0 := Stand.of_body Bd
  have e0 : s₁.heap = h0 := by rw [← hh, Bd.state]; rfl
  have N0 := Fr.nil n0
  have K0 := Keep.refl h0 [b]
  have hS : s.Since s.vm h0.size := (State.WarmedH.refl s).since _
  have hk : h0.size ≤ h0.size := Nat.le_refl _
  refine own_start (ef_rmu1 m b s_ i) (Q := fun o' t' => ∃ v' L', o' = .returned v' ∧ Qrmu1 Z b s_ i t kb vs h0 n0 v' t'.heap L' ∧ ReturnedEndW s o' t' L' ({ frames := 1, cells := 2, slots := 16, locals := 13 } : Room).cells ({ frames := 1, cells := 2, slots := 16, locals := 13 } : Room).slots) ?_
  show own_Fin p e below (s₁.setTop (mkF m 0 #[.val (.ref b), .val (.ref s_), .val (.int i)] [])) _
  refine own_go (fun _ k => XS.aloadN X0.here hx rfl (hb hby d8_0) rfl rfl k) ?_
  show own_Fin p e below (s₁.setTop (mkF m 1 #[.val (.ref b), .val (.ref s_), .val (.int i)] [(.ref b)])) _
  obtain ⟨T30, X30, e30, st30⟩ := initO X0 hx hZ hown (ow hw 41) (ow hw 17) (ow hw 18) e0 (g := (mkF m 1 #[.val (.ref b), .val (.ref s_), .val (.int i)] [(.ref b)])) rfl (by rw [hml]; rfl) rfl (hb hby d8_1) (by decide) (W := 0) (by show 2 * 0 + _ ≤ _; exact Nat.le_of_eq rfl) (by decide)
  refine own_go (fun _ k => st30 _ k) ?_
  show own_Fin p e below (T30.setTop (mkF m 4 #[.val (.ref b), .val (.ref s_), .val (.int i)] [])) _
  refine own_go (fun _ k => XS.aloadN X30.here hx rfl (hb hby d8_4) rfl rfl k) ?_
  show own_Fin p e below (T30.setTop (mkF m 5 #[.val (.ref b), .val (.ref s_), .val (.int i)] [(.ref s_)])) _
  obtain ⟨b31, T31, h31, k31, X31, e31, E31, hS, hk, hZ, hown, st31⟩ := ldcS X30 hx hZ hown (ow hw 42) (own_wS hw) e30 hS hk (g := (mkF m 5 #[.val (.ref b), .val (.ref s_), .val (.int i)] [(.ref s_)])) rfl (hb hby d8_5) (n := 12) (by decide) (by decide) (by decide) (by decide)
  refine own_go (fun _ k => st31 _ k) ?_
  have E_b := E_b.ext E31
  have F_b_Unit_set := F_b_Unit_set.ext E31
  have F_b_Unit_index := F_b_Unit_index.ext E31
  have E_s_ := E_s_.ext E31
  have F_s__String_value := F_s__String_value.ext E31
  have V_t := V_t.ext E31
  have O := O.ext E31
  have K32 := K0.ext E31
  show own_Fin p e below (T31.setTop (mkF m 7 #[.val (.ref b), .val (.ref s_), .val (.int i)] [(.ref b31), (.ref s_)])) _
  obtain ⟨_, _, ⟨T33, L33, k33, n33⟩, -, X33, ⟨Lc33, hQ33, l33, y33, z33⟩, st33⟩ := Jvm.LawKit.callS X31 hx (y := (⟨"java/util/Objects", "requireNonNull", "(Ljava/lang/Object;Ljava/lang/String;)Ljava/lang/Object;"⟩ : MethodName)) hown (mvT hZ (ow hw 45)) (mvT hZ (ow hw 46)) (mvT hZ (ow hw 47)) (mvT hZ (ow hw 48)) (by decide) (backOf (W := 0) (rm9 l Z a0 hw [] s_ b31 h31 n0 ) hZ (ow hw 48) (ow hw 47) (by decide) (by decide)) (g := (mkF m 7 #[.val (.ref b), .val (.ref s_), .val (.int i)] [(.ref b31), (.ref s_)])) rfl (by rw [hml]; rfl) (argsL := [(.ref s_), (.ref b31)]) (rest := []) (lenOf pd_1 rfl) rfl (by show 2 * 0 + _ ≤ _; exact Nat.le_of_eq rfl) (hb hby d8_7) (fun _ _ => ⟨rfl, e31, (by decide : 2 + 0 ≤ _), (by decide : 16 + 0 ≤ _)⟩)
  dsimp only [Pt.U, Pt.locs, Pt.cells, Pt.slots] at X33 l33 y33 z33 st33 hQ33
  subst l33 y33 z33
  obtain ⟨rfl, N33q, e33⟩ := hQ33
  refine own_go (fun _ k => st33 _ k) ?_
  have N33 := Fr.app N0 N33q
  show own_Fin p e below (T33.setTop (mkF m 10 #[.val (.ref b), .val (.ref s_), .val (.int i)] [(.ref s_)])) _
  refine own_go (fun _ k => XS.pop X33.here hx rfl (hb hby d8_10) rfl rfl (XS.aloadN X33.here hx rfl (hb hby d8_11) rfl rfl k)) ?_
  show own_Fin p e below (T33.setTop (mkF m 12 #[.val (.ref b), .val (.ref s_), .val (.int i)] [(.ref s_)])) _
  obtain ⟨cq34, kq34, q34a, q34b, q34c⟩ := isOf hZ e33 E_s_
  obtain ⟨_, _, ⟨T34, L34, k34, n34⟩, -, X34, ⟨Lc34, hQ34, l34, y34, z34⟩, st34⟩ := X33.virtualBack hx (y := (⟨"java/lang/String", "isEmpty", "()Z"⟩ : MethodName)) (z := (⟨"java/lang/String", "isEmpty", "()Z"⟩ : MethodName)) hown (mvT hZ (ow hw 49)) (mvT hZ (ow hw 50)) (notFace_of_selects (args := #[]) (mvT hZ (ow hw 52))) (mvT hZ (ow hw 52)) (mvT hZ (ow hw 51)) (by decide) (backOf (W := 0) (rmem1 l Z a0 hw [] s_ t kb vs h31 n0 O F_s__String_value V_t) hZ (ow hw 53) (ow hw 7) (by decide) (by decide)) q34a q34c (g := (mkF m 12 #[.val (.ref b), .val (.ref s_), .val (.int i)] [(.ref s_)])) rfl (by rw [hml]; rfl) (Steps.refl _) (argsL := []) (rest := []) (lenOf pd_2 rfl) rfl (by show 2 * 0 + _ ≤ _; exact Nat.le_of_eq rfl) (hb hby d8_12) (fun _ _ => ⟨rfl, e33, (by decide : 2 + 0 ≤ _), (by decide : 16 + 0 ≤ _)⟩)
  dsimp only [Pt.U, Pt.locs, Pt.cells, Pt.slots] at X34 l34 y34 z34 st34 hQ34
  subst l34 y34 z34
  obtain ⟨rfl, N34q, e34⟩ := hQ34
  refine own_go (fun _ k => st34.trans k) ?_
  have N34 := Fr.app N33 N34q
  show own_Fin p e below (T34.setTop (mkF m 15 #[.val (.ref b), .val (.ref s_), .val (.int i)] [(.int 0)])) _
  refine own_go (fun _ k => XS.ifYes X34.here hx rfl (pc0 := 15) (pc' := 28) rfl (hb hby d8_15) rfl ((if0 _ _).trans (teq (by decide : (0 : Int32) = (0 : Int32))).1) (by decide) (by decide) (XS.iloadN X34.here hx rfl (hb hby d8_28) rfl (XS.ifYes X34.here hx rfl (pc0 := 29) (pc' := 46) rfl (hb hby d8_29) rfl ((if0 _ _).trans (flt hi).2.1) (by decide) (by decide) (XS.aloadN X34.here hx rfl (hb hby d8_46) rfl rfl (XS.aloadN X34.here hx rfl (hb hby d8_47) rfl rfl k))))) ?_
  show own_Fin p e below (T34.setTop (mkF m 48 #[.val (.ref b), .val (.ref s_), .val (.int i)] [(.ref s_), (.ref b)])) _
  obtain ⟨T35, h35, X35, e35, W35, st35⟩ := putF X34 hx hZ hown (host := "") (Or.inl (ow hw 54)) Via.refl e34 F_b_Unit_set E_b (Or.inr ⟨(ow hw 55), rfl, hnm⟩) (ow hw 36) (ty := (.object "java/lang/String")) (by decide) rfl rfl (g := (mkF m 48 #[.val (.ref b), .val (.ref s_), .val (.int i)] [(.ref s_), (.ref b)])) rfl rfl (hb hby d8_48)
  refine own_go (fun _ k => st35 _ k) ?_
  have E_b := E_b.wr W35
  have F_b_Unit_index := F_b_Unit_index.other W35 (Or.inr (slot_ne (Or.inr (ow hw 57)) (Or.inr (ow hw 55)) (by decide) (t := .int) (t' := (.object "java/lang/String")) (by decide) (by decide)))
  have E_s_ := E_s_.wr W35
  have F_s__String_value := F_s__String_value.other W35 (Or.inl nsb)
  have V_t := V_t.other W35 ntb
  have O := O.wr W35 g_b
  have K36 := K32.wr W35 (Or.inl (List.mem_of_getElem? (i := 0) rfl))
  have hk := Nat.le_trans hk (Nat.le_of_eq (Wr.size W35).symm)
  have F_b_Unit_set := F_b_Unit_set.same W35
  have N35 := Fr.snoc X35 N34 g_b
  show own_Fin p e below (T35.setTop (mkF m 51 #[.val (.ref b), .val (.ref s_), .val (.int i)] [])) _
  refine own_go (fun _ k => XS.aloadN X35.here hx rfl (hb hby d8_51) rfl rfl (XS.iloadN X35.here hx rfl (hb hby d8_52) rfl k)) ?_
  show own_Fin p e below (T35.setTop (mkF m 53 #[.val (.ref b), .val (.ref s_), .val (.int i)] [(.int i), (.ref b)])) _
  obtain ⟨T37, h37, X37, e37, W37, st37⟩ := putF X35 hx hZ hown (host := "") (Or.inl (ow hw 56)) Via.refl e35 F_b_Unit_index E_b (Or.inr ⟨(ow hw 57), rfl, hnm⟩) (ow hw 36) (ty := .int) (by decide) rfl rfl (g := (mkF m 53 #[.val (.ref b), .val (.ref s_), .val (.int i)] [(.int i), (.ref b)])) rfl rfl (hb hby d8_53)
  refine own_go (fun _ k => st37 _ k) ?_
  have E_b := E_b.wr W37
  have F_b_Unit_set := F_b_Unit_set.other W37 (Or.inr (slot_ne (Or.inr (ow hw 55)) (Or.inr (ow hw 57)) (by decide) (t := (.object "java/lang/String")) (t' := .int) (by decide) (by decide)))
  have E_s_ := E_s_.wr W37
  have F_s__String_value := F_s__String_value.other W37 (Or.inl nsb)
  have V_t := V_t.other W37 ntb
  have O := O.wr W37 g_b
  have K38 := K36.wr W37 (Or.inl (List.mem_of_getElem? (i := 0) rfl))
  have hk := Nat.le_trans hk (Nat.le_of_eq (Wr.size W37).symm)
  have F_b_Unit_index := F_b_Unit_index.same W37
  have N37 := Fr.snoc X37 N35 g_b
  show own_Fin p e below (T37.setTop (mkF m 56 #[.val (.ref b), .val (.ref s_), .val (.int i)] [])) _
  obtain ⟨fs, hr, hrun, hended, hE⟩ := X37.leaveW hS (Nat.le_trans hk (Nat.le_of_eq (congrArg Array.size e37).symm)) (v := none) (fun _ => rfl)
  refine ⟨_, _, ?_, hrun, hended, _, _, rfl, ?_, ⟨_, rfl⟩, hE.2.1, hE.2.2.1, hE.2.2.2.mono (by decide) (by decide)⟩
  ·exact X37.returnOut hx Bd.returns (hb hby d8_56) hr
  ·show Qrmu1 Z b s_ i t kb vs h0 n0 _ T37.heap _
   rw [e37]
   exact ⟨rfl, N37, K38, E_b, F_b_Unit_set, F_b_Unit_index⟩
theorem ef_rmu2 (m : MethodId) (x0 : Addr) (x1 : Addr) (x2 : Int32) : entryFrame m #[(.ref x0), (.ref x1), (.int x2)] 3 = mkF m 0 #[.val (.ref x0), .val (.ref x1), .val (.int x2)] [] := by first | (simp [entryFrame, mkF, argsToLocals, Value.category]; done) | rfl
def Qrmu2 (Z : State) (b : Addr) (s_ : Addr) (i : Int32) (t : Addr) (kb : ClassId) (vs : List Value) (h0 : Heap) (n0 : Nat) (v : Option Value) (h : Heap) (L : List Loc) : Prop := v = none ∧ Fr n0 L ∧ Keep h0 h [b] ∧ Exa Z h b "com/example/lokahi/lokahi/Unit" ∧ Fld Z h b "com/example/lokahi/lokahi/Unit" "set" "Ljava/lang/String;" (.ref s_) ∧ Fld Z h b "com/example/lokahi/lokahi/Unit" "index" "I" (.int i)
set_option maxRecDepth 65536 in
set_option maxHeartbeats 40000000 in
theorem rmu2 (l : Launch) (Z : State) (a0 : Array Value) (hw : ∀ d ∈ tables_1, d.before a0 Z = true) (ws : List Jvm.Cond) (b : Addr) (s_ : Addr) (i : Int32) (t : Addr) (kb : ClassId) (vs : List Value) (h0 : Heap) (n0 : Nat) (O : Old Z n0 h0) (E_b : Exa Z h0 b "com/example/lokahi/lokahi/Unit") (F_b_Unit_set : Fld Z h0 b "com/example/lokahi/lokahi/Unit" "set" "Ljava/lang/String;" .null) (F_b_Unit_index : Fld Z h0 b "com/example/lokahi/lokahi/Unit" "index" "I" (.int 0)) (g_b : n0 ≤ b) (hi : ¬ (i < (0 : Int32))) (E_s_ : Exa Z h0 s_ "java/lang/String") (F_s__String_value : Fld Z h0 s_ "java/lang/String" "value" "[B" (.ref t)) (V_t : Arv Z h0 t kb .byte (2 : Int32) vs (.int 0)) (nsb : s_ ≠ b) (ntb : t ≠ b) :
    MetFree l (⟨"com/example/lokahi/lokahi/Unit", "<init>", "(Ljava/lang/String;I)V"⟩ : MethodName) (head1 (Jvm.Cond.code (⟨"com/example/lokahi/lokahi/Unit", "<init>", "(Ljava/lang/String;I)V"⟩ : MethodName) prog_2_method_1_code 3 none :: ws) ({ frames := 1, cells := 2, slots := 16, locals := 13 } : Room)) (fun a' U' => a' = #[(.ref b), (.ref s_), (.int i)] ∧ Z.Warmed39 U'.vm ∧ U'.heap = h0) (fun _ _ _ _ _ => True) (fun _ U' o' W' => ∃ v' L', o' = .returned v' ∧ Qrmu2 Z b s_ i t kb vs h0 n0 v' W'.heap L' ∧ ReturnedEndW U' o' W' L' ({ frames := 1, cells := 2, slots := 16, locals := 13 } : Room).cells ({ frames := 1, cells := 2, slots := 16, locals := 13 } : Room).slots) := by
  refine MetFree.of_bodySF (plainFor_of_name pn_3) hisR ?_
  intro p e s m args below meth c s₁ Bd hml0 hP hK
  obtain ⟨rfl, hZ, hh⟩ := hP
  have hx := Bd.exec
  have hby := Bd.bytes
  have hml : c.maxLocals = 3 := hml0
  have hown : s.vm.findClass "com/example/lokahi/lokahi/Unit" = some m.cls := findClass_of_methodNamed Bd.named
  have hnm := (name_of_methodNamed Bd.named Bd.method).1
  have X0 : Stand p l e ({ frames := 1, cells := 2, slots := 16, locals := 13 } : Room) (s.setVm s.vm) m #[(.ref b), (.ref s_), (.int i)] below meth c s₁ [] 0 0 := Stand.of_body Bd
  have e0 : s₁.heap = h0 := by rw [← hh, Bd.state]; rfl
  have N0 := Fr.nil n0
  have K0 := Keep.refl h0 [b]
  have hS : s.Since s.vm h0.size := (State.WarmedH.refl s).since _
  have hk : h0.size ≤ h0.size := Nat.le_refl _
  refine own_start (ef_rmu2 m b s_ i) (Q := fun o' t' => ∃ v' L', o' = .returned v' ∧ Qrmu2 Z b s_ i t kb vs h0 n0 v' t'.heap L' ∧ ReturnedEndW s o' t' L' ({ frames := 1, cells := 2, slots := 16, locals := 13 } : Room).cells ({ frames := 1, cells := 2, slots := 16, locals := 13 } : Room).slots) ?_
  show own_Fin p e below (s₁.setTop (mkF m 0 #[.val (.ref b), .val (.ref s_), .val (.int i)] [])) _
  refine own_go (fun _ k => XS.aloadN X0.here hx rfl (hb hby d8_0) rfl rfl k) ?_
  show own_Fin p e below (s₁.setTop (mkF m 1 #[.val (.ref b), .val (.ref s_), .val (.int i)] [(.ref b)])) _
  obtain ⟨T40, X40, e40, st40⟩ := initO X0 hx hZ hown (ow hw 41) (ow hw 17) (ow hw 18) e0 (g := (mkF m 1 #[.val (.ref b), .val (.ref s_), .val (.int i)] [(.ref b)])) rfl (by rw [hml]; rfl) rfl (hb hby d8_1) (by decide) (W := 0) (by show 2 * 0 + _ ≤ _; exact Nat.le_of_eq rfl) (by decide)
  refine own_go (fun _ k => st40 _ k) ?_
  show own_Fin p e below (T40.setTop (mkF m 4 #[.val (.ref b), .val (.ref s_), .val (.int i)] [])) _
  refine own_go (fun _ k => XS.aloadN X40.here hx rfl (hb hby d8_4) rfl rfl k) ?_
  show own_Fin p e below (T40.setTop (mkF m 5 #[.val (.ref b), .val (.ref s_), .val (.int i)] [(.ref s_)])) _
  obtain ⟨b41, T41, h41, k41, X41, e41, E41, hS, hk, hZ, hown, st41⟩ := ldcS X40 hx hZ hown (ow hw 42) (own_wS hw) e40 hS hk (g := (mkF m 5 #[.val (.ref b), .val (.ref s_), .val (.int i)] [(.ref s_)])) rfl (hb hby d8_5) (n := 12) (by decide) (by decide) (by decide) (by decide)
  refine own_go (fun _ k => st41 _ k) ?_
  have E_b := E_b.ext E41
  have F_b_Unit_set := F_b_Unit_set.ext E41
  have F_b_Unit_index := F_b_Unit_index.ext E41
  have E_s_ := E_s_.ext E41
  have F_s__String_value := F_s__String_value.ext E41
  have V_t := V_t.ext E41
  have O := O.ext E41
  have K42 := K0.ext E41
  show own_Fin p e below (T41.setTop (mkF m 7 #[.val (.ref b), .val (.ref s_), .val (.int i)] [(.ref b41), (.ref s_)])) _
  obtain ⟨_, _, ⟨T43, L43, k43, n43⟩, -, X43, ⟨Lc43, hQ43, l43, y43, z43⟩, st43⟩ := Jvm.LawKit.callS X41 hx (y := (⟨"java/util/Objects", "requireNonNull", "(Ljava/lang/Object;Ljava/lang/String;)Ljava/lang/Object;"⟩ : MethodName)) hown (mvT hZ (ow hw 45)) (mvT hZ (ow hw 46)) (mvT hZ (ow hw 47)) (mvT hZ (ow hw 48)) (by decide) (backOf (W := 0) (rm9 l Z a0 hw [] s_ b41 h41 n0 ) hZ (ow hw 48) (ow hw 47) (by decide) (by decide)) (g := (mkF m 7 #[.val (.ref b), .val (.ref s_), .val (.int i)] [(.ref b41), (.ref s_)])) rfl (by rw [hml]; rfl) (argsL := [(.ref s_), (.ref b41)]) (rest := []) (lenOf pd_1 rfl) rfl (by show 2 * 0 + _ ≤ _; exact Nat.le_of_eq rfl) (hb hby d8_7) (fun _ _ => ⟨rfl, e41, (by decide : 2 + 0 ≤ _), (by decide : 16 + 0 ≤ _)⟩)
  dsimp only [Pt.U, Pt.locs, Pt.cells, Pt.slots] at X43 l43 y43 z43 st43 hQ43
  subst l43 y43 z43
  obtain ⟨rfl, N43q, e43⟩ := hQ43
  refine own_go (fun _ k => st43 _ k) ?_
  have N43 := Fr.app N0 N43q
  show own_Fin p e below (T43.setTop (mkF m 10 #[.val (.ref b), .val (.ref s_), .val (.int i)] [(.ref s_)])) _
  refine own_go (fun _ k => XS.pop X43.here hx rfl (hb hby d8_10) rfl rfl (XS.aloadN X43.here hx rfl (hb hby d8_11) rfl rfl k)) ?_
  show own_Fin p e below (T43.setTop (mkF m 12 #[.val (.ref b), .val (.ref s_), .val (.int i)] [(.ref s_)])) _
  obtain ⟨cq44, kq44, q44a, q44b, q44c⟩ := isOf hZ e43 E_s_
  obtain ⟨_, _, ⟨T44, L44, k44, n44⟩, -, X44, ⟨Lc44, hQ44, l44, y44, z44⟩, st44⟩ := X43.virtualBack hx (y := (⟨"java/lang/String", "isEmpty", "()Z"⟩ : MethodName)) (z := (⟨"java/lang/String", "isEmpty", "()Z"⟩ : MethodName)) hown (mvT hZ (ow hw 49)) (mvT hZ (ow hw 50)) (notFace_of_selects (args := #[]) (mvT hZ (ow hw 52))) (mvT hZ (ow hw 52)) (mvT hZ (ow hw 51)) (by decide) (backOf (W := 0) (rmem2 l Z a0 hw [] s_ t kb vs h41 n0 O F_s__String_value V_t) hZ (ow hw 53) (ow hw 7) (by decide) (by decide)) q44a q44c (g := (mkF m 12 #[.val (.ref b), .val (.ref s_), .val (.int i)] [(.ref s_)])) rfl (by rw [hml]; rfl) (Steps.refl _) (argsL := []) (rest := []) (lenOf pd_2 rfl) rfl (by show 2 * 0 + _ ≤ _; exact Nat.le_of_eq rfl) (hb hby d8_12) (fun _ _ => ⟨rfl, e43, (by decide : 2 + 0 ≤ _), (by decide : 16 + 0 ≤ _)⟩)
  dsimp only [Pt.U, Pt.locs, Pt.cells, Pt.slots] at X44 l44 y44 z44 st44 hQ44
  subst l44 y44 z44
  obtain ⟨rfl, N44q, e44⟩ := hQ44
  refine own_go (fun _ k => st44.trans k) ?_
  have N44 := Fr.app N43 N44q
  show own_Fin p e below (T44.setTop (mkF m 15 #[.val (.ref b), .val (.ref s_), .val (.int i)] [(.int 0)])) _
  refine own_go (fun _ k => XS.ifYes X44.here hx rfl (pc0 := 15) (pc' := 28) rfl (hb hby d8_15) rfl ((if0 _ _).trans (teq (by decide : (0 : Int32) = (0 : Int32))).1) (by decide) (by decide) (XS.iloadN X44.here hx rfl (hb hby d8_28) rfl (XS.ifYes X44.here hx rfl (pc0 := 29) (pc' := 46) rfl (hb hby d8_29) rfl ((if0 _ _).trans (flt hi).2.1) (by decide) (by decide) (XS.aloadN X44.here hx rfl (hb hby d8_46) rfl rfl (XS.aloadN X44.here hx rfl (hb hby d8_47) rfl rfl k))))) ?_
  show own_Fin p e below (T44.setTop (mkF m 48 #[.val (.ref b), .val (.ref s_), .val (.int i)] [(.ref s_), (.ref b)])) _
  obtain ⟨T45, h45, X45, e45, W45, st45⟩ := putF X44 hx hZ hown (host := "") (Or.inl (ow hw 54)) Via.refl e44 F_b_Unit_set E_b (Or.inr ⟨(ow hw 55), rfl, hnm⟩) (ow hw 36) (ty := (.object "java/lang/String")) (by decide) rfl rfl (g := (mkF m 48 #[.val (.ref b), .val (.ref s_), .val (.int i)] [(.ref s_), (.ref b)])) rfl rfl (hb hby d8_48)
  refine own_go (fun _ k => st45 _ k) ?_
  have E_b := E_b.wr W45
  have F_b_Unit_index := F_b_Unit_index.other W45 (Or.inr (slot_ne (Or.inr (ow hw 57)) (Or.inr (ow hw 55)) (by decide) (t := .int) (t' := (.object "java/lang/String")) (by decide) (by decide)))
  have E_s_ := E_s_.wr W45
  have F_s__String_value := F_s__String_value.other W45 (Or.inl nsb)
  have V_t := V_t.other W45 ntb
  have O := O.wr W45 g_b
  have K46 := K42.wr W45 (Or.inl (List.mem_of_getElem? (i := 0) rfl))
  have hk := Nat.le_trans hk (Nat.le_of_eq (Wr.size W45).symm)
  have F_b_Unit_set := F_b_Unit_set.same W45
  have N45 := Fr.snoc X45 N44 g_b
  show own_Fin p e below (T45.setTop (mkF m 51 #[.val (.ref b), .val (.ref s_), .val (.int i)] [])) _
  refine own_go (fun _ k => XS.aloadN X45.here hx rfl (hb hby d8_51) rfl rfl (XS.iloadN X45.here hx rfl (hb hby d8_52) rfl k)) ?_
  show own_Fin p e below (T45.setTop (mkF m 53 #[.val (.ref b), .val (.ref s_), .val (.int i)] [(.int i), (.ref b)])) _
  obtain ⟨T47, h47, X47, e47, W47, st47⟩ := putF X45 hx hZ hown (host := "") (Or.inl (ow hw 56)) Via.refl e45 F_b_Unit_index E_b (Or.inr ⟨(ow hw 57), rfl, hnm⟩) (ow hw 36) (ty := .int) (by decide) rfl rfl (g := (mkF m 53 #[.val (.ref b), .val (.ref s_), .val (.int i)] [(.int i), (.ref b)])) rfl rfl (hb hby d8_53)
  refine own_go (fun _ k => st47 _ k) ?_
  have E_b := E_b.wr W47
  have F_b_Unit_set := F_b_Unit_set.other W47 (Or.inr (slot_ne (Or.inr (ow hw 55)) (Or.inr (ow hw 57)) (by decide) (t := (.object "java/lang/String")) (t' := .int) (by decide) (by decide)))
  have E_s_ := E_s_.wr W47
  have F_s__String_value := F_s__String_value.other W47 (Or.inl nsb)
  have V_t := V_t.other W47 ntb
  have O := O.wr W47 g_b
  have K48 := K46.wr W47 (Or.inl (List.mem_of_getElem? (i := 0) rfl))
  have hk := Nat.le_trans hk (Nat.le_of_eq (Wr.size W47).symm)
  have F_b_Unit_index := F_b_Unit_index.same W47
  have N47 := Fr.snoc X47 N45 g_b
  show own_Fin p e below (T47.setTop (mkF m 56 #[.val (.ref b), .val (.ref s_), .val (.int i)] [])) _
  obtain ⟨fs, hr, hrun, hended, hE⟩ := X47.leaveW hS (Nat.le_trans hk (Nat.le_of_eq (congrArg Array.size e47).symm)) (v := none) (fun _ => rfl)
  refine ⟨_, _, ?_, hrun, hended, _, _, rfl, ?_, ⟨_, rfl⟩, hE.2.1, hE.2.2.1, hE.2.2.2.mono (by decide) (by decide)⟩
  ·exact X47.returnOut hx Bd.returns (hb hby d8_56) hr
  ·show Qrmu2 Z b s_ i t kb vs h0 n0 _ T47.heap _
   rw [e47]
   exact ⟨rfl, N47, K48, E_b, F_b_Unit_set, F_b_Unit_index⟩
theorem d11_0 : decode prog_2_method_9_code 0 = .ok (.aload_n 0, 1) := by decide +kernel
theorem d11_1 : decode prog_2_method_9_code 1 = .ok (.aload_n 1, 1) := by decide +kernel
theorem d11_2 : decode prog_2_method_9_code 2 = .ok (.if_acmp .ne 5, 3) := by decide +kernel
theorem d11_5 : decode prog_2_method_9_code 5 = .ok (.iconst 1, 1) := by decide +kernel
theorem d11_6 : decode prog_2_method_9_code 6 = .ok (.ireturn, 1) := by decide +kernel
theorem ef_rmeS (m : MethodId) (x0 : Addr) (x1 : Addr) : entryFrame m #[(.ref x0), (.ref x1)] 3 = mkF m 0 #[.val (.ref x0), .val (.ref x1), .unset] [] := by first | (simp [entryFrame, mkF, argsToLocals, Value.category]; done) | rfl
def QrmeS (Z : State) (a : Addr) (h0 : Heap) (n0 : Nat) (v : Option Value) (h : Heap) (L : List Loc) : Prop := v = some (.int 1) ∧ Fr n0 L ∧ h = h0
set_option maxRecDepth 65536 in
set_option maxHeartbeats 40000000 in
theorem rmeS (l : Launch) (Z : State) (a0 : Array Value) (hw : ∀ d ∈ tables_1, d.before a0 Z = true) (ws : List Jvm.Cond) (a : Addr) (h0 : Heap) (n0 : Nat) (O : Old Z n0 h0) :
    MetFree l (⟨"com/example/lokahi/lokahi/Unit", "equals", "(Ljava/lang/Object;)Z"⟩ : MethodName) (head1 (Jvm.Cond.code (⟨"com/example/lokahi/lokahi/Unit", "equals", "(Ljava/lang/Object;)Z"⟩ : MethodName) prog_2_method_9_code 3 (some .boolean) :: ws) ({ frames := 0, cells := 0, slots := 0, locals := 0 } : Room)) (fun a' U' => a' = #[(.ref a), (.ref a)] ∧ Z.Warmed39 U'.vm ∧ U'.heap = h0) (fun _ _ _ _ _ => True) (fun _ U' o' W' => ∃ v' L', o' = .returned v' ∧ QrmeS Z a h0 n0 v' W'.heap L' ∧ FrameEnd U' o' W' L' ({ frames := 0, cells := 0, slots := 0, locals := 0 } : Room).cells ({ frames := 0, cells := 0, slots := 0, locals := 0 } : Room).slots) := by
  refine MetFree.of_bodySF (plainFor_of_name pn_3) hisR ?_
  intro p e s m args below meth c s₁ Bd hml0 hP hK
  obtain ⟨rfl, hZ, hh⟩ := hP
  have hx := Bd.exec
  have hby := Bd.bytes
  have hml : c.maxLocals = 3 := hml0
  have hown : s.vm.findClass "com/example/lokahi/lokahi/Unit" = some m.cls := findClass_of_methodNamed Bd.named
  have hnm := (name_of_methodNamed Bd.named Bd.method).1
  have X0 : Stand p l e ({ frames := 0, cells := 0, slots := 0, locals := 0 } : Room) s m #[(.ref a), (.ref a)] below meth c s₁ [] 0 0 := Stand.of_body Bd
  have e0 : s₁.heap = h0 := by rw [← hh, Bd.state]; rfl
  have N0 := Fr.nil n0
  refine own_start (ef_rmeS m a a) (Q := fun o' t' => ∃ v' L', o' = .returned v' ∧ QrmeS Z a h0 n0 v' t'.heap L' ∧ FrameEnd s o' t' L' ({ frames := 0, cells := 0, slots := 0, locals := 0 } : Room).cells ({ frames := 0, cells := 0, slots := 0, locals := 0 } : Room).slots) ?_
  show own_Fin p e below (s₁.setTop (mkF m 0 #[.val (.ref a), .val (.ref a), .unset] [])) _
  refine own_go (fun _ k => XS.aloadN X0.here hx rfl (hb hby d11_0) rfl rfl (XS.aloadN X0.here hx rfl (hb hby d11_1) rfl rfl k)) ?_
  show own_Fin p e below (s₁.setTop (mkF m 2 #[.val (.ref a), .val (.ref a), .unset] [(.ref a), (.ref a)])) _
  refine own_go (fun _ k => Jvm.RoadKit.acmp (g := (mkF m 2 #[.val (.ref a), .val (.ref a), .unset] [(.ref a), (.ref a)])) X0 hx rfl rfl rfl (pc0 := 2) (pc' := 5) (same := true) rfl (hb hby d11_2) rfl (decide_eq_true rfl) (by decide) (by decide) k) ?_
  show own_Fin p e below (s₁.setTop (mkF m 5 #[.val (.ref a), .val (.ref a), .unset] [])) _
  refine own_go (fun _ k => XS.iconst X0.here hx rfl (hb hby d11_5) k) ?_
  show own_Fin p e below (s₁.setTop (mkF m 6 #[.val (.ref a), .val (.ref a), .unset] [(.int 1)])) _
  obtain ⟨fs, hr, hrun, hended, hW, hsame⟩ := X0.leave (v := some (.int 1)) (fun h => by rw [Bd.returns] at h; cases h)
  refine ⟨_, _, ?_, hrun, hended, _, _, rfl, ?_, ⟨_, rfl⟩, hW, hsame.mono (by decide) (by decide)⟩
  ·exact retN X0 hx (t := .boolean) Bd.returns (by simp) (hb hby d11_6) hr
  ·show QrmeS Z a h0 n0 _ s₁.heap _
   rw [e0]
   exact ⟨rfl, N0, rfl⟩
theorem d11_7 : decode prog_2_method_9_code 7 = .ok (.aload_n 1, 1) := by decide +kernel
theorem d11_8 : decode prog_2_method_9_code 8 = .ok (.instanceof 33, 3) := by decide +kernel
theorem d11_11 : decode prog_2_method_9_code 11 = .ok (.ifCond .eq 11, 3) := by decide +kernel
theorem d11_22 : decode prog_2_method_9_code 22 = .ok (.iconst 0, 1) := by decide +kernel
theorem d11_23 : decode prog_2_method_9_code 23 = .ok (.ireturn, 1) := by decide +kernel
theorem ef_rmeN (m : MethodId) (x0 : Addr) : entryFrame m #[(.ref x0), .null] 3 = mkF m 0 #[.val (.ref x0), .val .null, .unset] [] := by first | (simp [entryFrame, mkF, argsToLocals, Value.category]; done) | rfl
def QrmeN (Z : State) (a : Addr) (h0 : Heap) (n0 : Nat) (v : Option Value) (h : Heap) (L : List Loc) : Prop := v = some (.int 0) ∧ Fr n0 L ∧ h = h0
set_option maxRecDepth 65536 in
set_option maxHeartbeats 40000000 in
theorem rmeN (l : Launch) (Z : State) (a0 : Array Value) (hw : ∀ d ∈ tables_1, d.before a0 Z = true) (ws : List Jvm.Cond) (a : Addr) (h0 : Heap) (n0 : Nat) (O : Old Z n0 h0) :
    MetFree l (⟨"com/example/lokahi/lokahi/Unit", "equals", "(Ljava/lang/Object;)Z"⟩ : MethodName) (head1 (Jvm.Cond.code (⟨"com/example/lokahi/lokahi/Unit", "equals", "(Ljava/lang/Object;)Z"⟩ : MethodName) prog_2_method_9_code 3 (some .boolean) :: ws) ({ frames := 0, cells := 0, slots := 0, locals := 0 } : Room)) (fun a' U' => a' = #[(.ref a), .null] ∧ Z.Warmed39 U'.vm ∧ U'.heap = h0) (fun _ _ _ _ _ => True) (fun _ U' o' W' => ∃ v' L', o' = .returned v' ∧ QrmeN Z a h0 n0 v' W'.heap L' ∧ FrameEnd U' o' W' L' ({ frames := 0, cells := 0, slots := 0, locals := 0 } : Room).cells ({ frames := 0, cells := 0, slots := 0, locals := 0 } : Room).slots) := by
  refine MetFree.of_bodySF (plainFor_of_name pn_3) hisR ?_
  intro p e s m args below meth c s₁ Bd hml0 hP hK
  obtain ⟨rfl, hZ, hh⟩ := hP
  have hx := Bd.exec
  have hby := Bd.bytes
  have hml : c.maxLocals = 3 := hml0
  have hown : s.vm.findClass "com/example/lokahi/lokahi/Unit" = some m.cls := findClass_of_methodNamed Bd.named
  have hnm := (name_of_methodNamed Bd.named Bd.method).1
  have X0 : Stand p l e ({ frames := 0, cells := 0, slots := 0, locals := 0 } : Room) s m #[(.ref a), .null] below meth c s₁ [] 0 0 := Stand.of_body Bd
  have e0 : s₁.heap = h0 := by rw [← hh, Bd.state]; rfl
  have N0 := Fr.nil n0
  refine own_start (ef_rmeN m a) (Q := fun o' t' => ∃ v' L', o' = .returned v' ∧ QrmeN Z a h0 n0 v' t'.heap L' ∧ FrameEnd s o' t' L' ({ frames := 0, cells := 0, slots := 0, locals := 0 } : Room).cells ({ frames := 0, cells := 0, slots := 0, locals := 0 } : Room).slots) ?_
  show own_Fin p e below (s₁.setTop (mkF m 0 #[.val (.ref a), .val .null, .unset] [])) _
  refine own_go (fun _ k => XS.aloadN X0.here hx rfl (hb hby d11_0) rfl rfl (XS.aloadN X0.here hx rfl (hb hby d11_1) rfl rfl k)) ?_
  show own_Fin p e below (s₁.setTop (mkF m 2 #[.val (.ref a), .val .null, .unset] [.null, (.ref a)])) _
  refine own_go (fun _ k => Jvm.RoadKit.acmp (g := (mkF m 2 #[.val (.ref a), .val .null, .unset] [.null, (.ref a)])) X0 hx rfl rfl rfl (pc0 := 2) (pc' := 7) (same := false) rfl (hb hby d11_2) rfl (decide_eq_false nofun) (by decide) (by decide) k) ?_
  show own_Fin p e below (s₁.setTop (mkF m 7 #[.val (.ref a), .val .null, .unset] [])) _
  refine own_go (fun _ k => XS.aloadN X0.here hx rfl (hb hby d11_7) rfl rfl k) ?_
  show own_Fin p e below (s₁.setTop (mkF m 8 #[.val (.ref a), .val .null, .unset] [.null])) _
  refine own_go (fun _ k => X0.instanceofNull hx (g := (mkF m 8 #[.val (.ref a), .val .null, .unset] [.null])) rfl rfl (hb hby d11_8) _ k) ?_
  show own_Fin p e below (s₁.setTop (mkF m 11 #[.val (.ref a), .val .null, .unset] [(.int 0)])) _
  refine own_go (fun _ k => XS.ifYes X0.here hx rfl (pc0 := 11) (pc' := 22) rfl (hb hby d11_11) rfl ((if0 _ _).trans (teq (by decide : (0 : Int32) = (0 : Int32))).1) (by decide) (by decide) (XS.iconst X0.here hx rfl (hb hby d11_22) k)) ?_
  show own_Fin p e below (s₁.setTop (mkF m 23 #[.val (.ref a), .val .null, .unset] [(.int 0)])) _
  obtain ⟨fs, hr, hrun, hended, hW, hsame⟩ := X0.leave (v := some (.int 0)) (fun h => by rw [Bd.returns] at h; cases h)
  refine ⟨_, _, ?_, hrun, hended, _, _, rfl, ?_, ⟨_, rfl⟩, hW, hsame.mono (by decide) (by decide)⟩
  ·exact retN X0 hx (t := .boolean) Bd.returns (by simp) (hb hby d11_23) hr
  ·show QrmeN Z a h0 n0 _ s₁.heap _
   rw [e0]
   exact ⟨rfl, N0, rfl⟩
theorem ef_rmeT (m : MethodId) (x0 : Addr) (x1 : Addr) : entryFrame m #[(.ref x0), (.ref x1)] 3 = mkF m 0 #[.val (.ref x0), .val (.ref x1), .unset] [] := by first | (simp [entryFrame, mkF, argsToLocals, Value.category]; done) | rfl
def QrmeT (Z : State) (a : Addr) (s_ : Addr) (h0 : Heap) (n0 : Nat) (v : Option Value) (h : Heap) (L : List Loc) : Prop := v = some (.int 0) ∧ Fr n0 L ∧ h = h0
set_option maxRecDepth 65536 in
set_option maxHeartbeats 40000000 in
theorem rmeT (l : Launch) (Z : State) (a0 : Array Value) (hw : ∀ d ∈ tables_1, d.before a0 Z = true) (ws : List Jvm.Cond) (a : Addr) (s_ : Addr) (h0 : Heap) (n0 : Nat) (O : Old Z n0 h0) (E_s_ : Exa Z h0 s_ "java/lang/String") (nas : a ≠ s_) :
    MetFree l (⟨"com/example/lokahi/lokahi/Unit", "equals", "(Ljava/lang/Object;)Z"⟩ : MethodName) (head1 (Jvm.Cond.code (⟨"com/example/lokahi/lokahi/Unit", "equals", "(Ljava/lang/Object;)Z"⟩ : MethodName) prog_2_method_9_code 3 (some .boolean) :: ws) ({ frames := 0, cells := 0, slots := 0, locals := 0 } : Room)) (fun a' U' => a' = #[(.ref a), (.ref s_)] ∧ Z.Warmed39 U'.vm ∧ U'.heap = h0) (fun _ _ _ _ _ => True) (fun _ U' o' W' => ∃ v' L', o' = .returned v' ∧ QrmeT Z a s_ h0 n0 v' W'.heap L' ∧ FrameEnd U' o' W' L' ({ frames := 0, cells := 0, slots := 0, locals := 0 } : Room).cells ({ frames := 0, cells := 0, slots := 0, locals := 0 } : Room).slots) := by
  refine MetFree.of_bodySF (plainFor_of_name pn_3) hisR ?_
  intro p e s m args below meth c s₁ Bd hml0 hP hK
  obtain ⟨rfl, hZ, hh⟩ := hP
  have hx := Bd.exec
  have hby := Bd.bytes
  have hml : c.maxLocals = 3 := hml0
  have hown : s.vm.findClass "com/example/lokahi/lokahi/Unit" = some m.cls := findClass_of_methodNamed Bd.named
  have hnm := (name_of_methodNamed Bd.named Bd.method).1
  have X0 : Stand p l e ({ frames := 0, cells := 0, slots := 0, locals := 0 } : Room) s m #[(.ref a), (.ref s_)] below meth c s₁ [] 0 0 := Stand.of_body Bd
  have e0 : s₁.heap = h0 := by rw [← hh, Bd.state]; rfl
  have N0 := Fr.nil n0
  refine own_start (ef_rmeT m a s_) (Q := fun o' t' => ∃ v' L', o' = .returned v' ∧ QrmeT Z a s_ h0 n0 v' t'.heap L' ∧ FrameEnd s o' t' L' ({ frames := 0, cells := 0, slots := 0, locals := 0 } : Room).cells ({ frames := 0, cells := 0, slots := 0, locals := 0 } : Room).slots) ?_
  show own_Fin p e below (s₁.setTop (mkF m 0 #[.val (.ref a), .val (.ref s_), .unset] [])) _
  refine own_go (fun _ k => XS.aloadN X0.here hx rfl (hb hby d11_0) rfl rfl (XS.aloadN X0.here hx rfl (hb hby d11_1) rfl rfl k)) ?_
  show own_Fin p e below (s₁.setTop (mkF m 2 #[.val (.ref a), .val (.ref s_), .unset] [(.ref s_), (.ref a)])) _
  refine own_go (fun _ k => Jvm.RoadKit.acmp (g := (mkF m 2 #[.val (.ref a), .val (.ref s_), .unset] [(.ref s_), (.ref a)])) X0 hx rfl rfl rfl (pc0 := 2) (pc' := 7) (same := false) rfl (hb hby d11_2) rfl (decide_eq_false fun q => nas (Value.ref.inj q)) (by decide) (by decide) k) ?_
  show own_Fin p e below (s₁.setTop (mkF m 7 #[.val (.ref a), .val (.ref s_), .unset] [])) _
  refine own_go (fun _ k => XS.aloadN X0.here hx rfl (hb hby d11_7) rfl rfl k) ?_
  show own_Fin p e below (s₁.setTop (mkF m 8 #[.val (.ref a), .val (.ref s_), .unset] [(.ref s_)])) _
  obtain ⟨T53, X53, e53, st53⟩ := instNo X0 hx hZ hown (ow hw 63) e0 E_s_ (own_notOf (ow hw 65) (ow hw 66) (ow hw 36) (by decide) (by decide)) (g := (mkF m 8 #[.val (.ref a), .val (.ref s_), .unset] [(.ref s_)])) rfl rfl (hb hby d11_8)
  refine own_go (fun _ k => st53 _ k) ?_
  show own_Fin p e below (T53.setTop (mkF m 11 #[.val (.ref a), .val (.ref s_), .unset] [(.int 0)])) _
  refine own_go (fun _ k => XS.ifYes X53.here hx rfl (pc0 := 11) (pc' := 22) rfl (hb hby d11_11) rfl ((if0 _ _).trans (teq (by decide : (0 : Int32) = (0 : Int32))).1) (by decide) (by decide) (XS.iconst X53.here hx rfl (hb hby d11_22) k)) ?_
  show own_Fin p e below (T53.setTop (mkF m 23 #[.val (.ref a), .val (.ref s_), .unset] [(.int 0)])) _
  obtain ⟨fs, hr, hrun, hended, hW, hsame⟩ := X53.leave (v := some (.int 0)) (fun h => by rw [Bd.returns] at h; cases h)
  refine ⟨_, _, ?_, hrun, hended, _, _, rfl, ?_, ⟨_, rfl⟩, hW, hsame.mono (by decide) (by decide)⟩
  ·exact retN X53 hx (t := .boolean) Bd.returns (by simp) (hb hby d11_23) hr
  ·show QrmeT Z a s_ h0 n0 _ T53.heap _
   rw [e53]
   exact ⟨rfl, N0, rfl⟩
theorem d11_14 : decode prog_2_method_9_code 14 = .ok (.aload_n 1, 1) := by decide +kernel
theorem d11_15 : decode prog_2_method_9_code 15 = .ok (.checkcast 33, 3) := by decide +kernel
theorem d11_18 : decode prog_2_method_9_code 18 = .ok (.astore_n 2, 1) := by decide +kernel
theorem d11_19 : decode prog_2_method_9_code 19 = .ok (.goto 5, 3) := by decide +kernel
theorem d11_24 : decode prog_2_method_9_code 24 = .ok (.aload_n 0, 1) := by decide +kernel
theorem d11_25 : decode prog_2_method_9_code 25 = .ok (.getfield 37, 3) := by decide +kernel
theorem d11_28 : decode prog_2_method_9_code 28 = .ok (.aload_n 2, 1) := by decide +kernel
theorem d11_29 : decode prog_2_method_9_code 29 = .ok (.getfield 37, 3) := by decide +kernel
theorem d11_32 : decode prog_2_method_9_code 32 = .ok (.if_icmp .ne 21, 3) := by decide +kernel
theorem d11_35 : decode prog_2_method_9_code 35 = .ok (.aload_n 0, 1) := by decide +kernel
theorem d11_36 : decode prog_2_method_9_code 36 = .ok (.getfield 32, 3) := by decide +kernel
theorem d11_39 : decode prog_2_method_9_code 39 = .ok (.aload_n 2, 1) := by decide +kernel
theorem d11_40 : decode prog_2_method_9_code 40 = .ok (.getfield 32, 3) := by decide +kernel
theorem d11_43 : decode prog_2_method_9_code 43 = .ok (.invokevirtual 91, 3) := by decide +kernel
theorem pd_3 : parseMethodDescriptor "(Ljava/lang/Object;)Z" = some ⟨[(.object "java/lang/Object")], some .boolean⟩ := by decide +kernel
theorem d11_46 : decode prog_2_method_9_code 46 = .ok (.ifCond .eq 7, 3) := by decide +kernel
theorem d11_49 : decode prog_2_method_9_code 49 = .ok (.iconst 1, 1) := by decide +kernel
theorem d11_50 : decode prog_2_method_9_code 50 = .ok (.goto 4, 3) := by decide +kernel
theorem d11_54 : decode prog_2_method_9_code 54 = .ok (.ireturn, 1) := by decide +kernel
theorem d11_53 : decode prog_2_method_9_code 53 = .ok (.iconst 0, 1) := by decide +kernel
theorem ef_rmeU (m : MethodId) (x0 : Addr) (x1 : Addr) : entryFrame m #[(.ref x0), (.ref x1)] 3 = mkF m 0 #[.val (.ref x0), .val (.ref x1), .unset] [] := by first | (simp [entryFrame, mkF, argsToLocals, Value.category]; done) | rfl
def QrmeU (Z : State) (a : Addr) (b : Addr) (i : Int32) (j : Int32) (s1 : Addr) (t1 : Addr) (kb1 : ClassId) (cs : List Int32) (s2 : Addr) (t2 : Addr) (kb2 : ClassId) (ds : List Int32) (z : Int32) (h0 : Heap) (n0 : Nat) (v : Option Value) (h : Heap) (L : List Loc) : Prop := v = some (.int (own_bi (i = j ∧ cs = ds))) ∧ Fr n0 L ∧ h = h0
set_option maxRecDepth 65536 in
set_option maxHeartbeats 40000000 in
theorem rmeU (l : Launch) (Z : State) (a0 : Array Value) (hw : ∀ d ∈ tables_1, d.before a0 Z = true) (ws : List Jvm.Cond) (a : Addr) (b : Addr) (i : Int32) (j : Int32) (s1 : Addr) (t1 : Addr) (kb1 : ClassId) (cs : List Int32) (s2 : Addr) (t2 : Addr) (kb2 : ClassId) (ds : List Int32) (z : Int32) (h0 : Heap) (n0 : Nat) (O : Old Z n0 h0) (S_String_COMPACT_STRINGS : Sta Z Z.heap "java/lang/String" "COMPACT_STRINGS" "Z" (.int z)) (hz : ¬ z = 0) (E_a : Exa Z h0 a "com/example/lokahi/lokahi/Unit") (E_b : Exa Z h0 b "com/example/lokahi/lokahi/Unit") (F_a_Unit_set : Fld Z h0 a "com/example/lokahi/lokahi/Unit" "set" "Ljava/lang/String;" (.ref s1)) (F_a_Unit_index : Fld Z h0 a "com/example/lokahi/lokahi/Unit" "index" "I" (.int i)) (F_b_Unit_set : Fld Z h0 b "com/example/lokahi/lokahi/Unit" "set" "Ljava/lang/String;" (.ref s2)) (F_b_Unit_index : Fld Z h0 b "com/example/lokahi/lokahi/Unit" "index" "I" (.int j)) (E_s1 : Exa Z h0 s1 "java/lang/String") (F_s1_String_coder : Fld Z h0 s1 "java/lang/String" "coder" "B" (.int 0)) (F_s1_String_value : Fld Z h0 s1 "java/lang/String" "value" "[B" (.ref t1)) (V_t1 : Arv Z h0 t1 kb1 .byte (Int32.ofNat cs.length) (((cs).map (fun c => c.toInt8.toInt32)).map Value.int) (.int 0)) (E_s2 : Exa Z h0 s2 "java/lang/String") (F_s2_String_coder : Fld Z h0 s2 "java/lang/String" "coder" "B" (.int 0)) (F_s2_String_value : Fld Z h0 s2 "java/lang/String" "value" "[B" (.ref t2)) (V_t2 : Arv Z h0 t2 kb2 .byte (Int32.ofNat ds.length) (((ds).map (fun c => c.toInt8.toInt32)).map Value.int) (.int 0)) (nab : a ≠ b) (hp : ∀ c ∈ cs, ¬ c < 0 ∧ ¬ (255 : Int32) < c) (hq : ∀ c ∈ ds, ¬ c < 0 ∧ ¬ (255 : Int32) < c) (l1 : cs.length ≤ 4000) (l2 : ds.length ≤ 4000) :
    MetFree l (⟨"com/example/lokahi/lokahi/Unit", "equals", "(Ljava/lang/Object;)Z"⟩ : MethodName) (head1 (Jvm.Cond.code (⟨"com/example/lokahi/lokahi/Unit", "equals", "(Ljava/lang/Object;)Z"⟩ : MethodName) prog_2_method_9_code 3 (some .boolean) :: ws) ({ frames := 2, cells := 0, slots := 0, locals := 28 } : Room)) (fun a' U' => a' = #[(.ref a), (.ref b)] ∧ Z.Warmed39 U'.vm ∧ U'.heap = h0) (fun _ _ _ _ _ => True) (fun _ U' o' W' => ∃ v' L', o' = .returned v' ∧ QrmeU Z a b i j s1 t1 kb1 cs s2 t2 kb2 ds z h0 n0 v' W'.heap L' ∧ FrameEnd U' o' W' L' ({ frames := 2, cells := 0, slots := 0, locals := 28 } : Room).cells ({ frames := 2, cells := 0, slots := 0, locals := 28 } : Room).slots) := by
  refine MetFree.of_bodySF (plainFor_of_name pn_3) hisR ?_
  intro p e s m args below meth c s₁ Bd hml0 hP hK
  obtain ⟨rfl, hZ, hh⟩ := hP
  have hx := Bd.exec
  have hby := Bd.bytes
  have hml : c.maxLocals = 3 := hml0
  have hown : s.vm.findClass "com/example/lokahi/lokahi/Unit" = some m.cls := findClass_of_methodNamed Bd.named
  have hnm := (name_of_methodNamed Bd.named Bd.method).1
  have X0 : Stand p l e ({ frames := 2, cells := 0, slots := 0, locals := 28 } : Room) s m #[(.ref a), (.ref b)] below meth c s₁ [] 0 0 := Stand.of_body Bd
  have e0 : s₁.heap = h0 := by rw [← hh, Bd.state]; rfl
  have N0 := Fr.nil n0
  refine own_start (ef_rmeU m a b) (Q := fun o' t' => ∃ v' L', o' = .returned v' ∧ QrmeU Z a b i j s1 t1 kb1 cs s2 t2 kb2 ds z h0 n0 v' t'.heap L' ∧ FrameEnd s o' t' L' ({ frames := 2, cells := 0, slots := 0, locals := 28 } : Room).cells ({ frames := 2, cells := 0, slots := 0, locals := 28 } : Room).slots) ?_
  show own_Fin p e below (s₁.setTop (mkF m 0 #[.val (.ref a), .val (.ref b), .unset] [])) _
  refine own_go (fun _ k => XS.aloadN X0.here hx rfl (hb hby d11_0) rfl rfl (XS.aloadN X0.here hx rfl (hb hby d11_1) rfl rfl k)) ?_
  show own_Fin p e below (s₁.setTop (mkF m 2 #[.val (.ref a), .val (.ref b), .unset] [(.ref b), (.ref a)])) _
  refine own_go (fun _ k => Jvm.RoadKit.acmp (g := (mkF m 2 #[.val (.ref a), .val (.ref b), .unset] [(.ref b), (.ref a)])) X0 hx rfl rfl rfl (pc0 := 2) (pc' := 7) (same := false) rfl (hb hby d11_2) rfl (decide_eq_false fun q => nab (Value.ref.inj q)) (by decide) (by decide) k) ?_
  show own_Fin p e below (s₁.setTop (mkF m 7 #[.val (.ref a), .val (.ref b), .unset] [])) _
  refine own_go (fun _ k => XS.aloadN X0.here hx rfl (hb hby d11_7) rfl rfl k) ?_
  show own_Fin p e below (s₁.setTop (mkF m 8 #[.val (.ref a), .val (.ref b), .unset] [(.ref b)])) _
  obtain ⟨T55, X55, e55, st55⟩ := instY X0 hx hZ hown (ow hw 63) e0 (Ins.self E_b) (g := (mkF m 8 #[.val (.ref a), .val (.ref b), .unset] [(.ref b)])) rfl rfl (hb hby d11_8)
  refine own_go (fun _ k => st55 _ k) ?_
  show own_Fin p e below (T55.setTop (mkF m 11 #[.val (.ref a), .val (.ref b), .unset] [(.int 1)])) _
  refine own_go (fun _ k => XS.ifNo X55.here hx rfl (hb hby d11_11) rfl ((if0 _ _).trans (feq (by decide : ¬ ((1 : Int32) = (0 : Int32)))).1) (XS.aloadN X55.here hx rfl (hb hby d11_14) rfl rfl k)) ?_
  show own_Fin p e below (T55.setTop (mkF m 15 #[.val (.ref a), .val (.ref b), .unset] [(.ref b)])) _
  obtain ⟨T56, X56, e56, st56⟩ := castY X55 hx hZ hown (ow hw 63) e55 (Ins.self E_b) (g := (mkF m 15 #[.val (.ref a), .val (.ref b), .unset] [(.ref b)])) rfl rfl (hb hby d11_15)
  refine own_go (fun _ k => st56 _ k) ?_
  show own_Fin p e below (T56.setTop (mkF m 18 #[.val (.ref a), .val (.ref b), .unset] [(.ref b)])) _
  refine own_go (fun _ k => XS.astoreN X56.here hx rfl (hb hby d11_18) rfl rfl (l' := #[.val (.ref a), .val (.ref b), .val (.ref b)]) rfl (XS.goto X56.here hx rfl (pc0 := 19) (pc' := 24) rfl (hb hby d11_19) (by decide) (by decide) (XS.aloadN X56.here hx rfl (hb hby d11_24) rfl rfl k))) ?_
  show own_Fin p e below (T56.setTop (mkF m 25 #[.val (.ref a), .val (.ref b), .val (.ref b)] [(.ref a)])) _
  obtain ⟨T57, X57, e57, st57⟩ := getF X56 hx hZ hown (host := "") (Or.inl (ow hw 56)) Via.refl e56 F_a_Unit_index (g := (mkF m 25 #[.val (.ref a), .val (.ref b), .val (.ref b)] [(.ref a)])) rfl rfl (hb hby d11_25)
  refine own_go (fun _ k => st57 _ k) ?_
  show own_Fin p e below (T57.setTop (mkF m 28 #[.val (.ref a), .val (.ref b), .val (.ref b)] [(.int i)])) _
  refine own_go (fun _ k => XS.aloadN X57.here hx rfl (hb hby d11_28) rfl rfl k) ?_
  show own_Fin p e below (T57.setTop (mkF m 29 #[.val (.ref a), .val (.ref b), .val (.ref b)] [(.ref b), (.int i)])) _
  obtain ⟨T58, X58, e58, st58⟩ := getF X57 hx hZ hown (host := "") (Or.inl (ow hw 56)) Via.refl e57 F_b_Unit_index (g := (mkF m 29 #[.val (.ref a), .val (.ref b), .val (.ref b)] [(.ref b), (.int i)])) rfl rfl (hb hby d11_29)
  refine own_go (fun _ k => st58 _ k) ?_
  show own_Fin p e below (T58.setTop (mkF m 32 #[.val (.ref a), .val (.ref b), .val (.ref b)] [(.int j), (.int i)])) _
  by_cases hc32_59 : i = j
  ·refine own_go (fun _ k => XS.icmpNo X58.here hx rfl (hb hby d11_32) rfl (teq hc32_59).2 (XS.aloadN X58.here hx rfl (hb hby d11_35) rfl rfl k)) ?_
   show own_Fin p e below (T58.setTop (mkF m 36 #[.val (.ref a), .val (.ref b), .val (.ref b)] [(.ref a)])) _
   obtain ⟨T60, X60, e60, st60⟩ := getF X58 hx hZ hown (host := "") (Or.inl (ow hw 54)) Via.refl e58 F_a_Unit_set (g := (mkF m 36 #[.val (.ref a), .val (.ref b), .val (.ref b)] [(.ref a)])) rfl rfl (hb hby d11_36)
   refine own_go (fun _ k => st60 _ k) ?_
   show own_Fin p e below (T60.setTop (mkF m 39 #[.val (.ref a), .val (.ref b), .val (.ref b)] [(.ref s1)])) _
   refine own_go (fun _ k => XS.aloadN X60.here hx rfl (hb hby d11_39) rfl rfl k) ?_
   show own_Fin p e below (T60.setTop (mkF m 40 #[.val (.ref a), .val (.ref b), .val (.ref b)] [(.ref b), (.ref s1)])) _
   obtain ⟨T61, X61, e61, st61⟩ := getF X60 hx hZ hown (host := "") (Or.inl (ow hw 54)) Via.refl e60 F_b_Unit_set (g := (mkF m 40 #[.val (.ref a), .val (.ref b), .val (.ref b)] [(.ref b), (.ref s1)])) rfl rfl (hb hby d11_40)
   refine own_go (fun _ k => st61 _ k) ?_
   show own_Fin p e below (T61.setTop (mkF m 43 #[.val (.ref a), .val (.ref b), .val (.ref b)] [(.ref s2), (.ref s1)])) _
   obtain ⟨cq62, kq62, q62a, q62b, q62c⟩ := isOf hZ e61 E_s1
   obtain ⟨_, _, ⟨T62, L62, k62, n62⟩, -, X62, ⟨Lc62, hQ62, l62, y62, z62⟩, st62⟩ := X61.virtualBack hx (y := (⟨"java/lang/String", "equals", "(Ljava/lang/Object;)Z"⟩ : MethodName)) (z := (⟨"java/lang/String", "equals", "(Ljava/lang/Object;)Z"⟩ : MethodName)) hown (mvT hZ (ow hw 67)) (mvT hZ (ow hw 68)) (notFace_of_selects (args := #[]) (mvT hZ (ow hw 70))) (mvT hZ (ow hw 70)) (mvT hZ (ow hw 69)) (by decide) (StrChars.Road.eqW (W := 0) hZ (own_wE hw) (kI := 4) (ow hw 6) (cs := cs) E_s1 F_s1_String_value F_s1_String_coder V_t1 (StrChars.Road.codOf (n := (cs).length) rfl (fun c hc => (hp c hc).2)) (own_up hp) l1 (ds := ds) E_s2 F_s2_String_value F_s2_String_coder V_t2 (StrChars.Road.codOf (n := (ds).length) rfl (fun c hc => (hq c hc).2)) (own_up hq) l2 (S_String_COMPACT_STRINGS.ext O.2) hz (Nat.le_of_ble_eq_true rfl) (Nat.le_of_ble_eq_true rfl)) q62a q62c (g := (mkF m 43 #[.val (.ref a), .val (.ref b), .val (.ref b)] [(.ref s2), (.ref s1)])) rfl (by rw [hml]; rfl) (Steps.refl _) (argsL := [(.ref s2)]) (rest := []) (lenOf pd_3 rfl) rfl (by show 2 * 0 + _ ≤ _; exact Nat.le_of_eq rfl) (hb hby d11_43) (fun _ _ => ⟨rfl, e61, (by decide : 0 + 0 ≤ _), (by decide : 0 + 0 ≤ _)⟩)
   dsimp only [Pt.U, Pt.locs, Pt.cells, Pt.slots] at X62 l62 y62 z62 st62 hQ62
   subst l62 y62 z62
   refine own_go (fun _ k => st62.trans k) ?_
   obtain ⟨hv62, rfl, e62⟩ := hQ62
   obtain rfl := own_eqBi hv62
   have N62 := Fr.app N0 (Fr.nil n0)
   show own_Fin p e below (T62.setTop (mkF m 46 #[.val (.ref a), .val (.ref b), .val (.ref b)] [(.int (own_bi (cs = ds)))])) _
   by_cases hc46_63 : cs = ds
   ·refine own_go (fun _ k => XS.ifNo X62.here hx rfl (hb hby d11_46) rfl ((if0 _ _).trans (feq (own_bn hc46_63)).1) (XS.iconst X62.here hx rfl (hb hby d11_49) (XS.goto X62.here hx rfl (pc0 := 50) (pc' := 54) rfl (hb hby d11_50) (by decide) (by decide) k))) ?_
    show own_Fin p e below (T62.setTop (mkF m 54 #[.val (.ref a), .val (.ref b), .val (.ref b)] [(.int 1)])) _
    obtain ⟨fs, hr, hrun, hended, hW, hsame⟩ := X62.leave (v := some (.int 1)) (fun h => by rw [Bd.returns] at h; cases h)
    refine ⟨_, _, ?_, hrun, hended, _, _, rfl, ?_, ⟨_, rfl⟩, hW, hsame.mono (by decide) (by decide)⟩
    ·exact retN X62 hx (t := .boolean) Bd.returns (by simp) (hb hby d11_54) hr
    ·show QrmeU Z a b i j s1 t1 kb1 cs s2 t2 kb2 ds z h0 n0 _ T62.heap _
     rw [e62]
     exact ⟨(by simp [own_bi, hc32_59, hc46_63]), N62, rfl⟩
   ·refine own_go (fun _ k => XS.ifYes X62.here hx rfl (pc0 := 46) (pc' := 53) rfl (hb hby d11_46) rfl ((if0 _ _).trans (teq (own_bz hc46_63)).1) (by decide) (by decide) (XS.iconst X62.here hx rfl (hb hby d11_53) k)) ?_
    show own_Fin p e below (T62.setTop (mkF m 54 #[.val (.ref a), .val (.ref b), .val (.ref b)] [(.int 0)])) _
    obtain ⟨fs, hr, hrun, hended, hW, hsame⟩ := X62.leave (v := some (.int 0)) (fun h => by rw [Bd.returns] at h; cases h)
    refine ⟨_, _, ?_, hrun, hended, _, _, rfl, ?_, ⟨_, rfl⟩, hW, hsame.mono (by decide) (by decide)⟩
    ·exact retN X62 hx (t := .boolean) Bd.returns (by simp) (hb hby d11_54) hr
    ·show QrmeU Z a b i j s1 t1 kb1 cs s2 t2 kb2 ds z h0 n0 _ T62.heap _
     rw [e62]
     exact ⟨(by simp [own_bi, hc32_59, hc46_63]), N62, rfl⟩
  ·refine own_go (fun _ k => XS.icmpYes X58.here hx rfl (pc0 := 32) (pc' := 53) rfl (hb hby d11_32) rfl (feq hc32_59).2 (by decide) (by decide) (XS.iconst X58.here hx rfl (hb hby d11_53) k)) ?_
   show own_Fin p e below (T58.setTop (mkF m 54 #[.val (.ref a), .val (.ref b), .val (.ref b)] [(.int 0)])) _
   obtain ⟨fs, hr, hrun, hended, hW, hsame⟩ := X58.leave (v := some (.int 0)) (fun h => by rw [Bd.returns] at h; cases h)
   refine ⟨_, _, ?_, hrun, hended, _, _, rfl, ?_, ⟨_, rfl⟩, hW, hsame.mono (by decide) (by decide)⟩
   ·exact retN X58 hx (t := .boolean) Bd.returns (by simp) (hb hby d11_54) hr
   ·show QrmeU Z a b i j s1 t1 kb1 cs s2 t2 kb2 ds z h0 n0 _ T58.heap _
    rw [e58]
    exact ⟨(by simp [own_bi, hc32_59]), N0, rfl⟩
theorem own_two (m : Int32) : (1 : Int32) + (m &&& (1 : Int32)) = 1 ∨ (1 : Int32) + (m &&& (1 : Int32)) = 2 := by
  rcases and_one m with h | h <;> rw [h]
  · exact Or.inl (by decide)
  · exact Or.inr (by decide)
theorem own_255 (x : Int32) : ¬ ((x &&& (255 : Int32)).toUInt32.toUInt16.toUInt32.toInt32) < 0 ∧ ¬ (255 : Int32) < ((x &&& (255 : Int32)).toUInt32.toUInt16.toUInt32.toInt32) := by
  have h1 := c_mask x 255 8 (by decide) (by decide)
  rw [i2c_mask x, Int32.lt_iff_toInt_lt, Int32.lt_iff_toInt_lt]
  have e0 : (0 : Int32).toInt = 0 := by decide
  have e1 : (255 : Int32).toInt = 255 := by decide
  omega
theorem own_pos (x : Int32) : ¬ ((x &&& (2147483647 : Int32)) < (0 : Int32)) := by
  have h1 := c_mask x 2147483647 31 (by decide) (by decide)
  rw [Int32.lt_iff_toInt_lt]
  have e0 : (0 : Int32).toInt = 0 := by decide
  omega
theorem pd_4 : parseMethodDescriptor "(ICC)Ljava/lang/String;" = some ⟨[.int, .char, .char], some (.object "java/lang/String")⟩ := by decide +kernel
theorem pd_5 : parseMethodDescriptor "(Ljava/lang/String;I)V" = some ⟨[(.object "java/lang/String"), .int], none⟩ := by decide +kernel
theorem ef_rm0 (m : MethodId) (x0 : Int32) (x1 : Int32) (x2 : Int32) (x3 : Int32) (x4 : Int32) : entryFrame m #[(.int x0), (.int x1), (.int x2), (.int x3), (.int x4)] maxLocals = mkF m 0 #[.val (.int x0), .val (.int x1), .val (.int x2), .val (.int x3), .val (.int x4), .unset, .unset, .unset, .unset, .unset, .unset, .unset, .unset, .unset, .unset, .unset, .unset, .unset, .unset, .unset, .unset, .unset, .unset, .unset] [] := by first | (simp [entryFrame, mkF, argsToLocals, Value.category, maxLocals]; done) | rfl
def Qrm0 (Z : State) (p0 : Int32) (p1 : Int32) (p2 : Int32) (p3 : Int32) (p4 : Int32) (z : Int32) (h0 : Heap) (n0 : Nat) (v : Option Value) (h : Heap) (L : List Loc) : Prop := v = some (.int 1) ∧ Fr n0 L ∧ Keep h0 h []
set_option maxRecDepth 65536 in
set_option maxHeartbeats 40000000 in
theorem rm0 (l : Launch) (Z : State) (a0 : Array Value) (hw : ∀ d ∈ tables_1, d.before a0 Z = true) (ws : List Jvm.Cond) (p0 : Int32) (p1 : Int32) (p2 : Int32) (p3 : Int32) (p4 : Int32) (z : Int32) (h0 : Heap) (n0 : Nat) (O : Old Z n0 h0) (S_String_COMPACT_STRINGS : Sta Z Z.heap "java/lang/String" "COMPACT_STRINGS" "Z" (.int z)) (hz : ¬ z = 0) :
    MetFree l x (head1 (Jvm.Cond.code x code maxLocals ret :: ws) room_1) (fun a' U' => a' = #[(.int p0), (.int p1), (.int p2), (.int p3), (.int p4)] ∧ Z.Warmed39 U'.vm ∧ U'.heap = h0) (fun _ _ _ _ _ => True) (fun _ U' o' W' => ∃ v' L', o' = .returned v' ∧ Qrm0 Z p0 p1 p2 p3 p4 z h0 n0 v' W'.heap L' ∧ ReturnedEndW U' o' W' L' 12 52) := by
  refine MetFree.of_bodySF (plainFor_of_name pn_0) hisR ?_
  intro p e s m args below meth c s₁ Bd hml0 hP hK
  obtain ⟨rfl, hZ, hh⟩ := hP
  have hx := Bd.exec
  have hby := Bd.bytes
  have hml : c.maxLocals = 24 := hml0
  have hown : s.vm.findClass "com/example/lokahi/lokahi/UnitEqualsPinLaw" = some m.cls := findClass_of_methodNamed Bd.named
  have hnm := (name_of_methodNamed Bd.named Bd.method).1
  have X0 : Stand p l e room_1 (s.setVm s.vm) m #[(.int p0), (.int p1), (.int p2), (.int p3), (.int p4)] below meth c s₁ [] 0 0 := Stand.of_body Bd
  have e0 : s₁.heap = h0 := by rw [← hh, Bd.state]; rfl
  have N0 := Fr.nil n0
  have K0 := Keep.refl h0 []
  have hS : s.Since s.vm h0.size := (State.WarmedH.refl s).since _
  have hk : h0.size ≤ h0.size := Nat.le_refl _
  refine own_start (ef_rm0 m p0 p1 p2 p3 p4) (Q := fun o' t' => ∃ v' L', o' = .returned v' ∧ Qrm0 Z p0 p1 p2 p3 p4 z h0 n0 v' t'.heap L' ∧ ReturnedEndW s o' t' L' 12 52) ?_
  show own_Fin p e below (s₁.setTop (mkF m 0 #[.val (.int p0), .val (.int p1), .val (.int p2), .val (.int p3), .val (.int p4), .unset, .unset, .unset, .unset, .unset, .unset, .unset, .unset, .unset, .unset, .unset, .unset, .unset, .unset, .unset, .unset, .unset, .unset, .unset] [])) _
  refine own_go (fun _ k => XS.iconst X0.here hx rfl (hb hby at_0) (XS.iload X0.here hx rfl (hb hby at_1) rfl (XS.iconst X0.here hx rfl (hb hby at_3) (XS.iand X0.here hx rfl (hb hby at_4) rfl (XS.iadd X0.here hx rfl (hb hby at_5) rfl (XS.istore X0.here hx rfl (hb hby at_6) rfl (l' := #[.val (.int p0), .val (.int p1), .val (.int p2), .val (.int p3), .val (.int p4), .val (.int ((1 : Int32) + (p4 &&& (1 : Int32)))), .unset, .unset, .unset, .unset, .unset, .unset, .unset, .unset, .unset, .unset, .unset, .unset, .unset, .unset, .unset, .unset, .unset, .unset]) rfl (XS.iconst X0.here hx rfl (hb hby at_8) (XS.iload X0.here hx rfl (hb hby at_9) rfl (XS.iconst X0.here hx rfl (hb hby at_11) (XS.ishr X0.here hx rfl (hb hby at_12) rfl k)))))))))) ?_
  show own_Fin p e below (s₁.setTop (mkF m 13 #[.val (.int p0), .val (.int p1), .val (.int p2), .val (.int p3), .val (.int p4), .val (.int ((1 : Int32) + (p4 &&& (1 : Int32)))), .unset, .unset, .unset, .unset, .unset, .unset, .unset, .unset, .unset, .unset, .unset, .unset, .unset, .unset, .unset, .unset, .unset, .unset] [(.int (p4 >>> ((1 : Int32) &&& 31))), (.int 1)])) _
  refine own_go (fun _ k => XS.iconst X0.here hx rfl (hb hby at_13) (XS.iand X0.here hx rfl (hb hby at_14) rfl (XS.iadd X0.here hx rfl (hb hby at_15) rfl (XS.istore X0.here hx rfl (hb hby at_16) rfl (l' := #[.val (.int p0), .val (.int p1), .val (.int p2), .val (.int p3), .val (.int p4), .val (.int ((1 : Int32) + (p4 &&& (1 : Int32)))), .val (.int ((1 : Int32) + ((p4 >>> ((1 : Int32) &&& 31)) &&& (1 : Int32)))), .unset, .unset, .unset, .unset, .unset, .unset, .unset, .unset, .unset, .unset, .unset, .unset, .unset, .unset, .unset, .unset, .unset]) rfl (XS.iloadN X0.here hx rfl (hb hby at_18) rfl (XS.sipush X0.here hx rfl (hb hby at_19) (XS.iand X0.here hx rfl (hb hby at_22) rfl (XS.i2c X0.here hx rfl (hb hby at_23) rfl (XS.istore X0.here hx rfl (hb hby at_24) rfl (l' := #[.val (.int p0), .val (.int p1), .val (.int p2), .val (.int p3), .val (.int p4), .val (.int ((1 : Int32) + (p4 &&& (1 : Int32)))), .val (.int ((1 : Int32) + ((p4 >>> ((1 : Int32) &&& 31)) &&& (1 : Int32)))), .val (.int ((p0 &&& (255 : Int32)).toUInt32.toUInt16.toUInt32.toInt32)), .unset, .unset, .unset, .unset, .unset, .unset, .unset, .unset, .unset, .unset, .unset, .unset, .unset, .unset, .unset, .unset]) rfl (XS.iloadN X0.here hx rfl (hb hby at_26) rfl k)))))))))) ?_
  show own_Fin p e below (s₁.setTop (mkF m 27 #[.val (.int p0), .val (.int p1), .val (.int p2), .val (.int p3), .val (.int p4), .val (.int ((1 : Int32) + (p4 &&& (1 : Int32)))), .val (.int ((1 : Int32) + ((p4 >>> ((1 : Int32) &&& 31)) &&& (1 : Int32)))), .val (.int ((p0 &&& (255 : Int32)).toUInt32.toUInt16.toUInt32.toInt32)), .unset, .unset, .unset, .unset, .unset, .unset, .unset, .unset, .unset, .unset, .unset, .unset, .unset, .unset, .unset, .unset] [(.int p0)])) _
  refine own_go (fun _ k => XS.bipush X0.here hx rfl (hb hby at_27) (XS.iushr X0.here hx rfl (hb hby at_29) rfl (XS.sipush X0.here hx rfl (hb hby at_30) (XS.iand X0.here hx rfl (hb hby at_33) rfl (XS.i2c X0.here hx rfl (hb hby at_34) rfl (XS.istore X0.here hx rfl (hb hby at_35) rfl (l' := #[.val (.int p0), .val (.int p1), .val (.int p2), .val (.int p3), .val (.int p4), .val (.int ((1 : Int32) + (p4 &&& (1 : Int32)))), .val (.int ((1 : Int32) + ((p4 >>> ((1 : Int32) &&& 31)) &&& (1 : Int32)))), .val (.int ((p0 &&& (255 : Int32)).toUInt32.toUInt16.toUInt32.toInt32)), .val (.int ((((p0.toUInt32 >>> ((8 : Int32) &&& 31).toUInt32).toInt32) &&& (255 : Int32)).toUInt32.toUInt16.toUInt32.toInt32)), .unset, .unset, .unset, .unset, .unset, .unset, .unset, .unset, .unset, .unset, .unset, .unset, .unset, .unset, .unset]) rfl (XS.iloadN X0.here hx rfl (hb hby at_37) rfl (XS.sipush X0.here hx rfl (hb hby at_38) (XS.iand X0.here hx rfl (hb hby at_41) rfl (XS.i2c X0.here hx rfl (hb hby at_42) rfl k)))))))))) ?_
  show own_Fin p e below (s₁.setTop (mkF m 43 #[.val (.int p0), .val (.int p1), .val (.int p2), .val (.int p3), .val (.int p4), .val (.int ((1 : Int32) + (p4 &&& (1 : Int32)))), .val (.int ((1 : Int32) + ((p4 >>> ((1 : Int32) &&& 31)) &&& (1 : Int32)))), .val (.int ((p0 &&& (255 : Int32)).toUInt32.toUInt16.toUInt32.toInt32)), .val (.int ((((p0.toUInt32 >>> ((8 : Int32) &&& 31).toUInt32).toInt32) &&& (255 : Int32)).toUInt32.toUInt16.toUInt32.toInt32)), .unset, .unset, .unset, .unset, .unset, .unset, .unset, .unset, .unset, .unset, .unset, .unset, .unset, .unset, .unset] [(.int ((p1 &&& (255 : Int32)).toUInt32.toUInt16.toUInt32.toInt32))])) _
  refine own_go (fun _ k => XS.istore X0.here hx rfl (hb hby at_43) rfl (l' := #[.val (.int p0), .val (.int p1), .val (.int p2), .val (.int p3), .val (.int p4), .val (.int ((1 : Int32) + (p4 &&& (1 : Int32)))), .val (.int ((1 : Int32) + ((p4 >>> ((1 : Int32) &&& 31)) &&& (1 : Int32)))), .val (.int ((p0 &&& (255 : Int32)).toUInt32.toUInt16.toUInt32.toInt32)), .val (.int ((((p0.toUInt32 >>> ((8 : Int32) &&& 31).toUInt32).toInt32) &&& (255 : Int32)).toUInt32.toUInt16.toUInt32.toInt32)), .val (.int ((p1 &&& (255 : Int32)).toUInt32.toUInt16.toUInt32.toInt32)), .unset, .unset, .unset, .unset, .unset, .unset, .unset, .unset, .unset, .unset, .unset, .unset, .unset, .unset]) rfl (XS.iloadN X0.here hx rfl (hb hby at_45) rfl (XS.bipush X0.here hx rfl (hb hby at_46) (XS.iushr X0.here hx rfl (hb hby at_48) rfl (XS.sipush X0.here hx rfl (hb hby at_49) (XS.iand X0.here hx rfl (hb hby at_52) rfl (XS.i2c X0.here hx rfl (hb hby at_53) rfl (XS.istore X0.here hx rfl (hb hby at_54) rfl (l' := #[.val (.int p0), .val (.int p1), .val (.int p2), .val (.int p3), .val (.int p4), .val (.int ((1 : Int32) + (p4 &&& (1 : Int32)))), .val (.int ((1 : Int32) + ((p4 >>> ((1 : Int32) &&& 31)) &&& (1 : Int32)))), .val (.int ((p0 &&& (255 : Int32)).toUInt32.toUInt16.toUInt32.toInt32)), .val (.int ((((p0.toUInt32 >>> ((8 : Int32) &&& 31).toUInt32).toInt32) &&& (255 : Int32)).toUInt32.toUInt16.toUInt32.toInt32)), .val (.int ((p1 &&& (255 : Int32)).toUInt32.toUInt16.toUInt32.toInt32)), .val (.int ((((p1.toUInt32 >>> ((8 : Int32) &&& 31).toUInt32).toInt32) &&& (255 : Int32)).toUInt32.toUInt16.toUInt32.toInt32)), .unset, .unset, .unset, .unset, .unset, .unset, .unset, .unset, .unset, .unset, .unset, .unset, .unset]) rfl k)))))))) ?_
  show own_Fin p e below (s₁.setTop (mkF m 56 #[.val (.int p0), .val (.int p1), .val (.int p2), .val (.int p3), .val (.int p4), .val (.int ((1 : Int32) + (p4 &&& (1 : Int32)))), .val (.int ((1 : Int32) + ((p4 >>> ((1 : Int32) &&& 31)) &&& (1 : Int32)))), .val (.int ((p0 &&& (255 : Int32)).toUInt32.toUInt16.toUInt32.toInt32)), .val (.int ((((p0.toUInt32 >>> ((8 : Int32) &&& 31).toUInt32).toInt32) &&& (255 : Int32)).toUInt32.toUInt16.toUInt32.toInt32)), .val (.int ((p1 &&& (255 : Int32)).toUInt32.toUInt16.toUInt32.toInt32)), .val (.int ((((p1.toUInt32 >>> ((8 : Int32) &&& 31).toUInt32).toInt32) &&& (255 : Int32)).toUInt32.toUInt16.toUInt32.toInt32)), .unset, .unset, .unset, .unset, .unset, .unset, .unset, .unset, .unset, .unset, .unset, .unset, .unset] [])) _
  have j1 : ∀ (d0 : Int32) (d1 : Int32) (i1 : Int32) (i2 : Int32), ¬ d0 < 0 ∧ ¬ (255 : Int32) < d0 → ¬ d1 < 0 ∧ ¬ (255 : Int32) < d1 → ¬ (i1 < (0 : Int32)) → ¬ (i2 < (0 : Int32)) → own_Fin p e below (s₁.setTop (mkF m 95 #[.val (.int p0), .val (.int p1), .val (.int p2), .val (.int p3), .val (.int p4), .val (.int ((1 : Int32) + (p4 &&& (1 : Int32)))), .val (.int ((1 : Int32) + ((p4 >>> ((1 : Int32) &&& 31)) &&& (1 : Int32)))), .val (.int ((p0 &&& (255 : Int32)).toUInt32.toUInt16.toUInt32.toInt32)), .val (.int ((((p0.toUInt32 >>> ((8 : Int32) &&& 31).toUInt32).toInt32) &&& (255 : Int32)).toUInt32.toUInt16.toUInt32.toInt32)), .val (.int d0), .val (.int d1), .val (.int i1), .val (.int i2), .unset, .unset, .unset, .unset, .unset, .unset, .unset, .unset, .unset, .unset, .unset] [])) (fun o' t' => ∃ v' L', o' = .returned v' ∧ Qrm0 Z p0 p1 p2 p3 p4 z h0 n0 v' t'.heap L' ∧ ReturnedEndW s o' t' L' 12 52) := by
   intro d0 d1 i1 i2 hd0 hd1 hi1 hi2
   show own_Fin p e below (s₁.setTop (mkF m 95 #[.val (.int p0), .val (.int p1), .val (.int p2), .val (.int p3), .val (.int p4), .val (.int ((1 : Int32) + (p4 &&& (1 : Int32)))), .val (.int ((1 : Int32) + ((p4 >>> ((1 : Int32) &&& 31)) &&& (1 : Int32)))), .val (.int ((p0 &&& (255 : Int32)).toUInt32.toUInt16.toUInt32.toInt32)), .val (.int ((((p0.toUInt32 >>> ((8 : Int32) &&& 31).toUInt32).toInt32) &&& (255 : Int32)).toUInt32.toUInt16.toUInt32.toInt32)), .val (.int d0), .val (.int d1), .val (.int i1), .val (.int i2), .unset, .unset, .unset, .unset, .unset, .unset, .unset, .unset, .unset, .unset, .unset] [])) _
   refine own_go (fun _ k => XS.iload X0.here hx rfl (hb hby at_95) rfl k) ?_
   show own_Fin p e below (s₁.setTop (mkF m 97 #[.val (.int p0), .val (.int p1), .val (.int p2), .val (.int p3), .val (.int p4), .val (.int ((1 : Int32) + (p4 &&& (1 : Int32)))), .val (.int ((1 : Int32) + ((p4 >>> ((1 : Int32) &&& 31)) &&& (1 : Int32)))), .val (.int ((p0 &&& (255 : Int32)).toUInt32.toUInt16.toUInt32.toInt32)), .val (.int ((((p0.toUInt32 >>> ((8 : Int32) &&& 31).toUInt32).toInt32) &&& (255 : Int32)).toUInt32.toUInt16.toUInt32.toInt32)), .val (.int d0), .val (.int d1), .val (.int i1), .val (.int i2), .unset, .unset, .unset, .unset, .unset, .unset, .unset, .unset, .unset, .unset, .unset] [(.int ((1 : Int32) + (p4 &&& (1 : Int32))))])) _
   rcases own_two p4 with hn1 | hn1 <;> rcases own_two (p4 >>> ((1 : Int32) &&& 31)) with hn2 | hn2 <;> rw [hn1, hn2]
   ·show own_Fin p e below (s₁.setTop (mkF m 97 #[.val (.int p0), .val (.int p1), .val (.int p2), .val (.int p3), .val (.int p4), .val (.int 1), .val (.int 1), .val (.int ((p0 &&& (255 : Int32)).toUInt32.toUInt16.toUInt32.toInt32)), .val (.int ((((p0.toUInt32 >>> ((8 : Int32) &&& 31).toUInt32).toInt32) &&& (255 : Int32)).toUInt32.toUInt16.toUInt32.toInt32)), .val (.int d0), .val (.int d1), .val (.int i1), .val (.int i2), .unset, .unset, .unset, .unset, .unset, .unset, .unset, .unset, .unset, .unset, .unset] [(.int 1)])) _
    refine own_go (fun _ k => XS.iload X0.here hx rfl (hb hby at_97) rfl (XS.iload X0.here hx rfl (hb hby at_99) rfl k)) ?_
    show own_Fin p e below (s₁.setTop (mkF m 101 #[.val (.int p0), .val (.int p1), .val (.int p2), .val (.int p3), .val (.int p4), .val (.int 1), .val (.int 1), .val (.int ((p0 &&& (255 : Int32)).toUInt32.toUInt16.toUInt32.toInt32)), .val (.int ((((p0.toUInt32 >>> ((8 : Int32) &&& 31).toUInt32).toInt32) &&& (255 : Int32)).toUInt32.toUInt16.toUInt32.toInt32)), .val (.int d0), .val (.int d1), .val (.int i1), .val (.int i2), .unset, .unset, .unset, .unset, .unset, .unset, .unset, .unset, .unset, .unset, .unset] [(.int ((((p0.toUInt32 >>> ((8 : Int32) &&& 31).toUInt32).toInt32) &&& (255 : Int32)).toUInt32.toUInt16.toUInt32.toInt32)), (.int ((p0 &&& (255 : Int32)).toUInt32.toUInt16.toUInt32.toInt32)), (.int 1)])) _
    obtain ⟨_, _, ⟨T67, L67, k67, n67⟩, -, X67, ⟨Lc67, hQ67, l67, y67, z67⟩, st67⟩ := Jvm.LawKit.callS X0 hx (y := (⟨"com/example/lokahi/lokahi/UnitEqualsPinLaw", "mk", "(ICC)Ljava/lang/String;"⟩ : MethodName)) hown (mvT hZ (ow hw 1)) (mvT hZ (ow hw 2)) (mvT hZ (ow hw 3)) (mvT hZ (ow hw 4)) (by decide) (backOf (W := 0) (rmk1 l Z a0 hw [] (1 : Int32) ((p0 &&& (255 : Int32)).toUInt32.toUInt16.toUInt32.toInt32) ((((p0.toUInt32 >>> ((8 : Int32) &&& 31).toUInt32).toInt32) &&& (255 : Int32)).toUInt32.toUInt16.toUInt32.toInt32) z h0 n0 O S_String_COMPACT_STRINGS hz (by decide) (own_255 _) (own_255 _)) hZ (ow hw 4) (ow hw 3) (by decide) (by decide)) (g := (mkF m 101 #[.val (.int p0), .val (.int p1), .val (.int p2), .val (.int p3), .val (.int p4), .val (.int 1), .val (.int 1), .val (.int ((p0 &&& (255 : Int32)).toUInt32.toUInt16.toUInt32.toInt32)), .val (.int ((((p0.toUInt32 >>> ((8 : Int32) &&& 31).toUInt32).toInt32) &&& (255 : Int32)).toUInt32.toUInt16.toUInt32.toInt32)), .val (.int d0), .val (.int d1), .val (.int i1), .val (.int i2), .unset, .unset, .unset, .unset, .unset, .unset, .unset, .unset, .unset, .unset, .unset] [(.int ((((p0.toUInt32 >>> ((8 : Int32) &&& 31).toUInt32).toInt32) &&& (255 : Int32)).toUInt32.toUInt16.toUInt32.toInt32)), (.int ((p0 &&& (255 : Int32)).toUInt32.toUInt16.toUInt32.toInt32)), (.int 1)])) rfl (by rw [hml]; rfl) (argsL := [(.int 1), (.int ((p0 &&& (255 : Int32)).toUInt32.toUInt16.toUInt32.toInt32)), (.int ((((p0.toUInt32 >>> ((8 : Int32) &&& 31).toUInt32).toInt32) &&& (255 : Int32)).toUInt32.toUInt16.toUInt32.toInt32))]) (rest := []) (lenOf pd_4 rfl) rfl (by show 2 * 0 + _ ≤ _; exact Nat.le_of_eq rfl) (hb hby at_101) (fun _ _ => ⟨rfl, e0, (by decide : 0 + 3 ≤ _), (by decide : 0 + 6 ≤ _)⟩)
    dsimp only [Pt.U, Pt.locs, Pt.cells, Pt.slots] at X67 l67 y67 z67 st67 hQ67
    subst l67 y67 z67
    obtain ⟨s_68, t_69, kb_70, rfl, N67q, Kq67, P67_0, P67_1, P67_2, P67_3, P67_4, P67_5, P67_6⟩ := hQ67
    refine own_go (fun _ k => st67 _ k) ?_
    have N67 := Fr.app N0 N67q
    have g_s_68 : n0 ≤ s_68 := Nat.le_trans (own_osz O) P67_0
    have sz_s_68 : h0.size ≤ s_68 := Nat.le_trans K0.1 P67_0
    have g_t_69 : n0 ≤ t_69 := Nat.le_trans (own_osz O) P67_1
    have sz_t_69 : h0.size ≤ t_69 := Nat.le_trans K0.1 P67_1
    have O := O.keep Kq67 all0
    have K71 := K0.trans Kq67 all0
    have hk := Nat.le_trans hk Kq67.1
    have E_s_68 := P67_3
    have F_s_68_String_coder := P67_4
    have F_s_68_String_value := P67_5
    have V_t_69 := P67_6
    show own_Fin p e below (T67.setTop (mkF m 104 #[.val (.int p0), .val (.int p1), .val (.int p2), .val (.int p3), .val (.int p4), .val (.int 1), .val (.int 1), .val (.int ((p0 &&& (255 : Int32)).toUInt32.toUInt16.toUInt32.toInt32)), .val (.int ((((p0.toUInt32 >>> ((8 : Int32) &&& 31).toUInt32).toInt32) &&& (255 : Int32)).toUInt32.toUInt16.toUInt32.toInt32)), .val (.int d0), .val (.int d1), .val (.int i1), .val (.int i2), .unset, .unset, .unset, .unset, .unset, .unset, .unset, .unset, .unset, .unset, .unset] [(.ref s_68)])) _
    refine own_go (fun _ k => XS.astore X67.here hx rfl (hb hby at_104) rfl rfl (l' := #[.val (.int p0), .val (.int p1), .val (.int p2), .val (.int p3), .val (.int p4), .val (.int 1), .val (.int 1), .val (.int ((p0 &&& (255 : Int32)).toUInt32.toUInt16.toUInt32.toInt32)), .val (.int ((((p0.toUInt32 >>> ((8 : Int32) &&& 31).toUInt32).toInt32) &&& (255 : Int32)).toUInt32.toUInt16.toUInt32.toInt32)), .val (.int d0), .val (.int d1), .val (.int i1), .val (.int i2), .val (.ref s_68), .unset, .unset, .unset, .unset, .unset, .unset, .unset, .unset, .unset, .unset]) rfl (XS.iload X67.here hx rfl (hb hby at_106) rfl (XS.iload X67.here hx rfl (hb hby at_108) rfl (XS.iload X67.here hx rfl (hb hby at_110) rfl k)))) ?_
    show own_Fin p e below (T67.setTop (mkF m 112 #[.val (.int p0), .val (.int p1), .val (.int p2), .val (.int p3), .val (.int p4), .val (.int 1), .val (.int 1), .val (.int ((p0 &&& (255 : Int32)).toUInt32.toUInt16.toUInt32.toInt32)), .val (.int ((((p0.toUInt32 >>> ((8 : Int32) &&& 31).toUInt32).toInt32) &&& (255 : Int32)).toUInt32.toUInt16.toUInt32.toInt32)), .val (.int d0), .val (.int d1), .val (.int i1), .val (.int i2), .val (.ref s_68), .unset, .unset, .unset, .unset, .unset, .unset, .unset, .unset, .unset, .unset] [(.int d1), (.int d0), (.int 1)])) _
    obtain ⟨_, _, ⟨T72, L72, k72, n72⟩, -, X72, ⟨Lc72, hQ72, l72, y72, z72⟩, st72⟩ := Jvm.LawKit.callS X67 hx (y := (⟨"com/example/lokahi/lokahi/UnitEqualsPinLaw", "mk", "(ICC)Ljava/lang/String;"⟩ : MethodName)) hown (mvT hZ (ow hw 1)) (mvT hZ (ow hw 2)) (mvT hZ (ow hw 3)) (mvT hZ (ow hw 4)) (by decide) (backOf (W := 0) (rmk1 l Z a0 hw [] (1 : Int32) d0 d1 z (T67.heap) n0 O S_String_COMPACT_STRINGS hz (by decide) hd0 hd1) hZ (ow hw 4) (ow hw 3) (by decide) (by decide)) (g := (mkF m 112 #[.val (.int p0), .val (.int p1), .val (.int p2), .val (.int p3), .val (.int p4), .val (.int 1), .val (.int 1), .val (.int ((p0 &&& (255 : Int32)).toUInt32.toUInt16.toUInt32.toInt32)), .val (.int ((((p0.toUInt32 >>> ((8 : Int32) &&& 31).toUInt32).toInt32) &&& (255 : Int32)).toUInt32.toUInt16.toUInt32.toInt32)), .val (.int d0), .val (.int d1), .val (.int i1), .val (.int i2), .val (.ref s_68), .unset, .unset, .unset, .unset, .unset, .unset, .unset, .unset, .unset, .unset] [(.int d1), (.int d0), (.int 1)])) rfl (by rw [hml]; rfl) (argsL := [(.int 1), (.int d0), (.int d1)]) (rest := []) (lenOf pd_4 rfl) rfl (by show 2 * 0 + _ ≤ _; exact Nat.le_of_eq rfl) (hb hby at_112) (fun _ _ => ⟨rfl, rfl, (by decide : 3 + 3 ≤ _), (by decide : 6 + 6 ≤ _)⟩)
    dsimp only [Pt.U, Pt.locs, Pt.cells, Pt.slots] at X72 l72 y72 z72 st72 hQ72
    subst l72 y72 z72
    obtain ⟨s_73, t_74, kb_75, rfl, N72q, Kq72, P72_0, P72_1, P72_2, P72_3, P72_4, P72_5, P72_6⟩ := hQ72
    refine own_go (fun _ k => st72 _ k) ?_
    have N72 := Fr.app N67 N72q
    have ne_s_68_s_73 : s_68 ≠ s_73 := Nat.ne_of_lt (Nat.lt_of_lt_of_le E_s_68.lt P72_0)
    have ne_t_69_s_73 : t_69 ≠ s_73 := Nat.ne_of_lt (Nat.lt_of_lt_of_le V_t_69.lt P72_0)
    have g_s_73 : n0 ≤ s_73 := Nat.le_trans (own_osz O) P72_0
    have sz_s_73 : h0.size ≤ s_73 := Nat.le_trans K71.1 P72_0
    have ne_s_68_t_74 : s_68 ≠ t_74 := Nat.ne_of_lt (Nat.lt_of_lt_of_le E_s_68.lt P72_1)
    have ne_t_69_t_74 : t_69 ≠ t_74 := Nat.ne_of_lt (Nat.lt_of_lt_of_le V_t_69.lt P72_1)
    have g_t_74 : n0 ≤ t_74 := Nat.le_trans (own_osz O) P72_1
    have sz_t_74 : h0.size ≤ t_74 := Nat.le_trans K71.1 P72_1
    have E_s_68 := E_s_68.keep Kq72
    have F_s_68_String_coder := F_s_68_String_coder.keep Kq72 nin0
    have F_s_68_String_value := F_s_68_String_value.keep Kq72 nin0
    have V_t_69 := V_t_69.keep Kq72 nin0
    have O := O.keep Kq72 all0
    have K76 := K71.trans Kq72 all0
    have hk := Nat.le_trans hk Kq72.1
    have E_s_73 := P72_3
    have F_s_73_String_coder := P72_4
    have F_s_73_String_value := P72_5
    have V_t_74 := P72_6
    show own_Fin p e below (T72.setTop (mkF m 115 #[.val (.int p0), .val (.int p1), .val (.int p2), .val (.int p3), .val (.int p4), .val (.int 1), .val (.int 1), .val (.int ((p0 &&& (255 : Int32)).toUInt32.toUInt16.toUInt32.toInt32)), .val (.int ((((p0.toUInt32 >>> ((8 : Int32) &&& 31).toUInt32).toInt32) &&& (255 : Int32)).toUInt32.toUInt16.toUInt32.toInt32)), .val (.int d0), .val (.int d1), .val (.int i1), .val (.int i2), .val (.ref s_68), .unset, .unset, .unset, .unset, .unset, .unset, .unset, .unset, .unset, .unset] [(.ref s_73)])) _
    refine own_go (fun _ k => XS.astore X72.here hx rfl (hb hby at_115) rfl rfl (l' := #[.val (.int p0), .val (.int p1), .val (.int p2), .val (.int p3), .val (.int p4), .val (.int 1), .val (.int 1), .val (.int ((p0 &&& (255 : Int32)).toUInt32.toUInt16.toUInt32.toInt32)), .val (.int ((((p0.toUInt32 >>> ((8 : Int32) &&& 31).toUInt32).toInt32) &&& (255 : Int32)).toUInt32.toUInt16.toUInt32.toInt32)), .val (.int d0), .val (.int d1), .val (.int i1), .val (.int i2), .val (.ref s_68), .val (.ref s_73), .unset, .unset, .unset, .unset, .unset, .unset, .unset, .unset, .unset]) rfl k) ?_
    show own_Fin p e below (T72.setTop (mkF m 117 #[.val (.int p0), .val (.int p1), .val (.int p2), .val (.int p3), .val (.int p4), .val (.int 1), .val (.int 1), .val (.int ((p0 &&& (255 : Int32)).toUInt32.toUInt16.toUInt32.toInt32)), .val (.int ((((p0.toUInt32 >>> ((8 : Int32) &&& 31).toUInt32).toInt32) &&& (255 : Int32)).toUInt32.toUInt16.toUInt32.toInt32)), .val (.int d0), .val (.int d1), .val (.int i1), .val (.int i2), .val (.ref s_68), .val (.ref s_73), .unset, .unset, .unset, .unset, .unset, .unset, .unset, .unset, .unset] [])) _
    obtain ⟨T77, h77, X77, e77, E77, A77, D77, -, st77⟩ := newO X72 hx hZ hown (ow hw 35) (ow hw 36) (ow hw 37) rfl (g := (mkF m 117 #[.val (.int p0), .val (.int p1), .val (.int p2), .val (.int p3), .val (.int p4), .val (.int 1), .val (.int 1), .val (.int ((p0 &&& (255 : Int32)).toUInt32.toUInt16.toUInt32.toInt32)), .val (.int ((((p0.toUInt32 >>> ((8 : Int32) &&& 31).toUInt32).toInt32) &&& (255 : Int32)).toUInt32.toUInt16.toUInt32.toInt32)), .val (.int d0), .val (.int d1), .val (.int i1), .val (.int i2), .val (.ref s_68), .val (.ref s_73), .unset, .unset, .unset, .unset, .unset, .unset, .unset, .unset, .unset] [])) rfl (hb hby at_117) (by decide) (by decide)
    obtain ⟨b77, g77⟩ : ∃ z, z = T72.heap.size := ⟨_, rfl⟩
    rw [← g77] at A77 D77 st77
    refine own_go (fun _ k => st77 _ k) ?_
    have ne_s_68_b77 : s_68 ≠ b77 := Nat.ne_of_lt (Nat.lt_of_lt_of_le E_s_68.lt (Nat.le_of_eq g77.symm))
    have ne_t_69_b77 : t_69 ≠ b77 := Nat.ne_of_lt (Nat.lt_of_lt_of_le V_t_69.lt (Nat.le_of_eq g77.symm))
    have ne_s_73_b77 : s_73 ≠ b77 := Nat.ne_of_lt (Nat.lt_of_lt_of_le E_s_73.lt (Nat.le_of_eq g77.symm))
    have ne_t_74_b77 : t_74 ≠ b77 := Nat.ne_of_lt (Nat.lt_of_lt_of_le V_t_74.lt (Nat.le_of_eq g77.symm))
    have g_b77 : n0 ≤ b77 := Nat.le_trans (own_osz O) (Nat.le_of_eq g77.symm)
    have sz_b77 : h0.size ≤ b77 := Nat.le_trans K76.1 (Nat.le_of_eq g77.symm)
    have E_s_68 := E_s_68.ext E77
    have F_s_68_String_coder := F_s_68_String_coder.ext E77
    have F_s_68_String_value := F_s_68_String_value.ext E77
    have V_t_69 := V_t_69.ext E77
    have E_s_73 := E_s_73.ext E77
    have F_s_73_String_coder := F_s_73_String_coder.ext E77
    have F_s_73_String_value := F_s_73_String_value.ext E77
    have V_t_74 := V_t_74.ext E77
    have O := O.ext E77
    have K78 := K76.ext E77
    have hk := Nat.le_trans hk E77.1
    have E_b77 := A77
    have F_b77_Unit_set : Fld Z h77 b77 "com/example/lokahi/lokahi/Unit" "set" "Ljava/lang/String;" .null := D77 (Or.inr (ow hw 55)) (ty := (.object "java/lang/String")) (by decide)
    have F_b77_Unit_index : Fld Z h77 b77 "com/example/lokahi/lokahi/Unit" "index" "I" (.int 0) := D77 (Or.inr (ow hw 57)) (ty := .int) (by decide)
    show own_Fin p e below (T77.setTop (mkF m 120 #[.val (.int p0), .val (.int p1), .val (.int p2), .val (.int p3), .val (.int p4), .val (.int 1), .val (.int 1), .val (.int ((p0 &&& (255 : Int32)).toUInt32.toUInt16.toUInt32.toInt32)), .val (.int ((((p0.toUInt32 >>> ((8 : Int32) &&& 31).toUInt32).toInt32) &&& (255 : Int32)).toUInt32.toUInt16.toUInt32.toInt32)), .val (.int d0), .val (.int d1), .val (.int i1), .val (.int i2), .val (.ref s_68), .val (.ref s_73), .unset, .unset, .unset, .unset, .unset, .unset, .unset, .unset, .unset] [(.ref b77)])) _
    refine own_go (fun _ k => XS.dup X77.here hx rfl (hb hby at_120) rfl rfl (XS.aload X77.here hx rfl (hb hby at_121) rfl rfl (XS.iload X77.here hx rfl (hb hby at_123) rfl k))) ?_
    show own_Fin p e below (T77.setTop (mkF m 125 #[.val (.int p0), .val (.int p1), .val (.int p2), .val (.int p3), .val (.int p4), .val (.int 1), .val (.int 1), .val (.int ((p0 &&& (255 : Int32)).toUInt32.toUInt16.toUInt32.toInt32)), .val (.int ((((p0.toUInt32 >>> ((8 : Int32) &&& 31).toUInt32).toInt32) &&& (255 : Int32)).toUInt32.toUInt16.toUInt32.toInt32)), .val (.int d0), .val (.int d1), .val (.int i1), .val (.int i2), .val (.ref s_68), .val (.ref s_73), .unset, .unset, .unset, .unset, .unset, .unset, .unset, .unset, .unset] [(.int i1), (.ref s_68), (.ref b77), (.ref b77)])) _
    obtain ⟨_, _, ⟨T79, L79, k79, n79⟩, -, X79, hS79, hg79, ⟨Lc79, hQ79, l79, y79, z79⟩, st79⟩ := X77.specialBackS hx (y := (⟨"com/example/lokahi/lokahi/Unit", "<init>", "(Ljava/lang/String;I)V"⟩ : MethodName)) rfl hown (mvT hZ (ow hw 38)) (mvT hZ (ow hw 39)) (mvT hZ (ow hw 40)) (by decide) (backOfS (W := 1) (rmu1 l Z a0 hw [] b77 s_68 i1 t_69 kb_70 (((([(nar .char ((p0 &&& (255 : Int32)).toUInt32.toUInt16.toUInt32.toInt32))] : List Int32)).map (fun c => c.toInt8.toInt32)).map Value.int) h77 n0 O E_b77 F_b77_Unit_set F_b77_Unit_index g_b77 hi1 E_s_68 F_s_68_String_value V_t_69 ne_s_68_b77 ne_t_69_b77) hZ (ow hw 40) (ow hw 37) (by decide) (by decide)) (g := (mkF m 125 #[.val (.int p0), .val (.int p1), .val (.int p2), .val (.int p3), .val (.int p4), .val (.int 1), .val (.int 1), .val (.int ((p0 &&& (255 : Int32)).toUInt32.toUInt16.toUInt32.toInt32)), .val (.int ((((p0.toUInt32 >>> ((8 : Int32) &&& 31).toUInt32).toInt32) &&& (255 : Int32)).toUInt32.toUInt16.toUInt32.toInt32)), .val (.int d0), .val (.int d1), .val (.int i1), .val (.int i2), .val (.ref s_68), .val (.ref s_73), .unset, .unset, .unset, .unset, .unset, .unset, .unset, .unset, .unset] [(.int i1), (.ref s_68), (.ref b77), (.ref b77)])) rfl (by rw [hml]; rfl) (Steps.refl _) (a := b77) (argsL := [(.ref s_68), (.int i1)]) (rest := [(.ref b77)]) (lenOf pd_5 rfl) rfl (by show 2 * 0 + _ ≤ _; exact Nat.le_of_eq rfl) (hb hby at_125) (fun _ _ => ⟨rfl, e77, (by decide : 7 + 2 ≤ _), (by decide : 14 + 16 ≤ _)⟩)
    dsimp only [Pt.U, Pt.locs, Pt.cells, Pt.slots] at X79 l79 y79 z79 st79 hQ79
    subst l79 y79 z79
    obtain ⟨X79, hS, hZ, hown⟩ := rebS hS (Nat.le_trans hk (Nat.le_of_eq (congrArg Array.size e77).symm)) X79 hS79 hg79 hZ hown
    obtain ⟨rfl, N79q, Kq79, P79_0, P79_1, P79_2⟩ := hQ79
    refine own_go (fun _ k => st79.trans k) ?_
    have N79 := Fr.app N72 N79q
    have E_s_68 := E_s_68.keep Kq79
    have F_s_68_String_coder := F_s_68_String_coder.keep Kq79 (ninS ne_s_68_b77 nin0)
    have F_s_68_String_value := F_s_68_String_value.keep Kq79 (ninS ne_s_68_b77 nin0)
    have V_t_69 := V_t_69.keep Kq79 (ninS ne_t_69_b77 nin0)
    have E_s_73 := E_s_73.keep Kq79
    have F_s_73_String_coder := F_s_73_String_coder.keep Kq79 (ninS ne_s_73_b77 nin0)
    have F_s_73_String_value := F_s_73_String_value.keep Kq79 (ninS ne_s_73_b77 nin0)
    have V_t_74 := V_t_74.keep Kq79 (ninS ne_t_74_b77 nin0)
    have E_b77 := E_b77.keep Kq79
    clear F_b77_Unit_set
    clear F_b77_Unit_index
    have O := O.keep Kq79 (allS g_b77 all0)
    have K80 := K78.trans Kq79 (allS (Or.inr sz_b77) all0)
    have hk := Nat.le_refl T79.heap.size
    have E_b77 := P79_0
    have F_b77_Unit_set := P79_1
    have F_b77_Unit_index := P79_2
    show own_Fin p e below (T79.setTop (mkF m 128 #[.val (.int p0), .val (.int p1), .val (.int p2), .val (.int p3), .val (.int p4), .val (.int 1), .val (.int 1), .val (.int ((p0 &&& (255 : Int32)).toUInt32.toUInt16.toUInt32.toInt32)), .val (.int ((((p0.toUInt32 >>> ((8 : Int32) &&& 31).toUInt32).toInt32) &&& (255 : Int32)).toUInt32.toUInt16.toUInt32.toInt32)), .val (.int d0), .val (.int d1), .val (.int i1), .val (.int i2), .val (.ref s_68), .val (.ref s_73), .unset, .unset, .unset, .unset, .unset, .unset, .unset, .unset, .unset] [(.ref b77)])) _
    refine own_go (fun _ k => XS.astore X79.here hx rfl (hb hby at_128) rfl rfl (l' := #[.val (.int p0), .val (.int p1), .val (.int p2), .val (.int p3), .val (.int p4), .val (.int 1), .val (.int 1), .val (.int ((p0 &&& (255 : Int32)).toUInt32.toUInt16.toUInt32.toInt32)), .val (.int ((((p0.toUInt32 >>> ((8 : Int32) &&& 31).toUInt32).toInt32) &&& (255 : Int32)).toUInt32.toUInt16.toUInt32.toInt32)), .val (.int d0), .val (.int d1), .val (.int i1), .val (.int i2), .val (.ref s_68), .val (.ref s_73), .val (.ref b77), .unset, .unset, .unset, .unset, .unset, .unset, .unset, .unset]) rfl k) ?_
    show own_Fin p e below (T79.setTop (mkF m 130 #[.val (.int p0), .val (.int p1), .val (.int p2), .val (.int p3), .val (.int p4), .val (.int 1), .val (.int 1), .val (.int ((p0 &&& (255 : Int32)).toUInt32.toUInt16.toUInt32.toInt32)), .val (.int ((((p0.toUInt32 >>> ((8 : Int32) &&& 31).toUInt32).toInt32) &&& (255 : Int32)).toUInt32.toUInt16.toUInt32.toInt32)), .val (.int d0), .val (.int d1), .val (.int i1), .val (.int i2), .val (.ref s_68), .val (.ref s_73), .val (.ref b77), .unset, .unset, .unset, .unset, .unset, .unset, .unset, .unset] [])) _
    obtain ⟨T81, h81, X81, e81, E81, A81, D81, -, st81⟩ := newO X79 hx hZ hown (ow hw 35) (ow hw 36) (ow hw 37) rfl (g := (mkF m 130 #[.val (.int p0), .val (.int p1), .val (.int p2), .val (.int p3), .val (.int p4), .val (.int 1), .val (.int 1), .val (.int ((p0 &&& (255 : Int32)).toUInt32.toUInt16.toUInt32.toInt32)), .val (.int ((((p0.toUInt32 >>> ((8 : Int32) &&& 31).toUInt32).toInt32) &&& (255 : Int32)).toUInt32.toUInt16.toUInt32.toInt32)), .val (.int d0), .val (.int d1), .val (.int i1), .val (.int i2), .val (.ref s_68), .val (.ref s_73), .val (.ref b77), .unset, .unset, .unset, .unset, .unset, .unset, .unset, .unset] [])) rfl (hb hby at_130) (by decide) (by decide)
    obtain ⟨b81, g81⟩ : ∃ z, z = T79.heap.size := ⟨_, rfl⟩
    rw [← g81] at A81 D81 st81
    refine own_go (fun _ k => st81 _ k) ?_
    have ne_s_68_b81 : s_68 ≠ b81 := Nat.ne_of_lt (Nat.lt_of_lt_of_le E_s_68.lt (Nat.le_of_eq g81.symm))
    have ne_t_69_b81 : t_69 ≠ b81 := Nat.ne_of_lt (Nat.lt_of_lt_of_le V_t_69.lt (Nat.le_of_eq g81.symm))
    have ne_s_73_b81 : s_73 ≠ b81 := Nat.ne_of_lt (Nat.lt_of_lt_of_le E_s_73.lt (Nat.le_of_eq g81.symm))
    have ne_t_74_b81 : t_74 ≠ b81 := Nat.ne_of_lt (Nat.lt_of_lt_of_le V_t_74.lt (Nat.le_of_eq g81.symm))
    have ne_b77_b81 : b77 ≠ b81 := Nat.ne_of_lt (Nat.lt_of_lt_of_le E_b77.lt (Nat.le_of_eq g81.symm))
    have g_b81 : n0 ≤ b81 := Nat.le_trans (own_osz O) (Nat.le_of_eq g81.symm)
    have sz_b81 : h0.size ≤ b81 := Nat.le_trans K80.1 (Nat.le_of_eq g81.symm)
    have E_s_68 := E_s_68.ext E81
    have F_s_68_String_coder := F_s_68_String_coder.ext E81
    have F_s_68_String_value := F_s_68_String_value.ext E81
    have V_t_69 := V_t_69.ext E81
    have E_s_73 := E_s_73.ext E81
    have F_s_73_String_coder := F_s_73_String_coder.ext E81
    have F_s_73_String_value := F_s_73_String_value.ext E81
    have V_t_74 := V_t_74.ext E81
    have E_b77 := E_b77.ext E81
    have F_b77_Unit_set := F_b77_Unit_set.ext E81
    have F_b77_Unit_index := F_b77_Unit_index.ext E81
    have O := O.ext E81
    have K82 := K80.ext E81
    have hk := Nat.le_trans hk E81.1
    have E_b81 := A81
    have F_b81_Unit_set : Fld Z h81 b81 "com/example/lokahi/lokahi/Unit" "set" "Ljava/lang/String;" .null := D81 (Or.inr (ow hw 55)) (ty := (.object "java/lang/String")) (by decide)
    have F_b81_Unit_index : Fld Z h81 b81 "com/example/lokahi/lokahi/Unit" "index" "I" (.int 0) := D81 (Or.inr (ow hw 57)) (ty := .int) (by decide)
    show own_Fin p e below (T81.setTop (mkF m 133 #[.val (.int p0), .val (.int p1), .val (.int p2), .val (.int p3), .val (.int p4), .val (.int 1), .val (.int 1), .val (.int ((p0 &&& (255 : Int32)).toUInt32.toUInt16.toUInt32.toInt32)), .val (.int ((((p0.toUInt32 >>> ((8 : Int32) &&& 31).toUInt32).toInt32) &&& (255 : Int32)).toUInt32.toUInt16.toUInt32.toInt32)), .val (.int d0), .val (.int d1), .val (.int i1), .val (.int i2), .val (.ref s_68), .val (.ref s_73), .val (.ref b77), .unset, .unset, .unset, .unset, .unset, .unset, .unset, .unset] [(.ref b81)])) _
    refine own_go (fun _ k => XS.dup X81.here hx rfl (hb hby at_133) rfl rfl (XS.aload X81.here hx rfl (hb hby at_134) rfl rfl (XS.iload X81.here hx rfl (hb hby at_136) rfl k))) ?_
    show own_Fin p e below (T81.setTop (mkF m 138 #[.val (.int p0), .val (.int p1), .val (.int p2), .val (.int p3), .val (.int p4), .val (.int 1), .val (.int 1), .val (.int ((p0 &&& (255 : Int32)).toUInt32.toUInt16.toUInt32.toInt32)), .val (.int ((((p0.toUInt32 >>> ((8 : Int32) &&& 31).toUInt32).toInt32) &&& (255 : Int32)).toUInt32.toUInt16.toUInt32.toInt32)), .val (.int d0), .val (.int d1), .val (.int i1), .val (.int i2), .val (.ref s_68), .val (.ref s_73), .val (.ref b77), .unset, .unset, .unset, .unset, .unset, .unset, .unset, .unset] [(.int i2), (.ref s_73), (.ref b81), (.ref b81)])) _
    obtain ⟨_, _, ⟨T83, L83, k83, n83⟩, -, X83, hS83, hg83, ⟨Lc83, hQ83, l83, y83, z83⟩, st83⟩ := X81.specialBackS hx (y := (⟨"com/example/lokahi/lokahi/Unit", "<init>", "(Ljava/lang/String;I)V"⟩ : MethodName)) rfl hown (mvT hZ (ow hw 38)) (mvT hZ (ow hw 39)) (mvT hZ (ow hw 40)) (by decide) (backOfS (W := 1) (rmu1 l Z a0 hw [] b81 s_73 i2 t_74 kb_75 (((([(nar .char d0)] : List Int32)).map (fun c => c.toInt8.toInt32)).map Value.int) h81 n0 O E_b81 F_b81_Unit_set F_b81_Unit_index g_b81 hi2 E_s_73 F_s_73_String_value V_t_74 ne_s_73_b81 ne_t_74_b81) hZ (ow hw 40) (ow hw 37) (by decide) (by decide)) (g := (mkF m 138 #[.val (.int p0), .val (.int p1), .val (.int p2), .val (.int p3), .val (.int p4), .val (.int 1), .val (.int 1), .val (.int ((p0 &&& (255 : Int32)).toUInt32.toUInt16.toUInt32.toInt32)), .val (.int ((((p0.toUInt32 >>> ((8 : Int32) &&& 31).toUInt32).toInt32) &&& (255 : Int32)).toUInt32.toUInt16.toUInt32.toInt32)), .val (.int d0), .val (.int d1), .val (.int i1), .val (.int i2), .val (.ref s_68), .val (.ref s_73), .val (.ref b77), .unset, .unset, .unset, .unset, .unset, .unset, .unset, .unset] [(.int i2), (.ref s_73), (.ref b81), (.ref b81)])) rfl (by rw [hml]; rfl) (Steps.refl _) (a := b81) (argsL := [(.ref s_73), (.int i2)]) (rest := [(.ref b81)]) (lenOf pd_5 rfl) rfl (by show 2 * 0 + _ ≤ _; exact Nat.le_of_eq rfl) (hb hby at_138) (fun _ _ => ⟨rfl, e81, (by decide : 10 + 2 ≤ _), (by decide : 32 + 16 ≤ _)⟩)
    dsimp only [Pt.U, Pt.locs, Pt.cells, Pt.slots] at X83 l83 y83 z83 st83 hQ83
    subst l83 y83 z83
    obtain ⟨X83, hS, hZ, hown⟩ := rebS hS (Nat.le_trans hk (Nat.le_of_eq (congrArg Array.size e81).symm)) X83 hS83 hg83 hZ hown
    obtain ⟨rfl, N83q, Kq83, P83_0, P83_1, P83_2⟩ := hQ83
    refine own_go (fun _ k => st83.trans k) ?_
    have N83 := Fr.app N79 N83q
    have E_s_68 := E_s_68.keep Kq83
    have F_s_68_String_coder := F_s_68_String_coder.keep Kq83 (ninS ne_s_68_b81 nin0)
    have F_s_68_String_value := F_s_68_String_value.keep Kq83 (ninS ne_s_68_b81 nin0)
    have V_t_69 := V_t_69.keep Kq83 (ninS ne_t_69_b81 nin0)
    have E_s_73 := E_s_73.keep Kq83
    have F_s_73_String_coder := F_s_73_String_coder.keep Kq83 (ninS ne_s_73_b81 nin0)
    have F_s_73_String_value := F_s_73_String_value.keep Kq83 (ninS ne_s_73_b81 nin0)
    have V_t_74 := V_t_74.keep Kq83 (ninS ne_t_74_b81 nin0)
    have E_b77 := E_b77.keep Kq83
    have F_b77_Unit_set := F_b77_Unit_set.keep Kq83 (ninS ne_b77_b81 nin0)
    have F_b77_Unit_index := F_b77_Unit_index.keep Kq83 (ninS ne_b77_b81 nin0)
    have E_b81 := E_b81.keep Kq83
    clear F_b81_Unit_set
    clear F_b81_Unit_index
    have O := O.keep Kq83 (allS g_b81 all0)
    have K84 := K82.trans Kq83 (allS (Or.inr sz_b81) all0)
    have hk := Nat.le_refl T83.heap.size
    have E_b81 := P83_0
    have F_b81_Unit_set := P83_1
    have F_b81_Unit_index := P83_2
    show own_Fin p e below (T83.setTop (mkF m 141 #[.val (.int p0), .val (.int p1), .val (.int p2), .val (.int p3), .val (.int p4), .val (.int 1), .val (.int 1), .val (.int ((p0 &&& (255 : Int32)).toUInt32.toUInt16.toUInt32.toInt32)), .val (.int ((((p0.toUInt32 >>> ((8 : Int32) &&& 31).toUInt32).toInt32) &&& (255 : Int32)).toUInt32.toUInt16.toUInt32.toInt32)), .val (.int d0), .val (.int d1), .val (.int i1), .val (.int i2), .val (.ref s_68), .val (.ref s_73), .val (.ref b77), .unset, .unset, .unset, .unset, .unset, .unset, .unset, .unset] [(.ref b81)])) _
    refine own_go (fun _ k => XS.astore X83.here hx rfl (hb hby at_141) rfl rfl (l' := #[.val (.int p0), .val (.int p1), .val (.int p2), .val (.int p3), .val (.int p4), .val (.int 1), .val (.int 1), .val (.int ((p0 &&& (255 : Int32)).toUInt32.toUInt16.toUInt32.toInt32)), .val (.int ((((p0.toUInt32 >>> ((8 : Int32) &&& 31).toUInt32).toInt32) &&& (255 : Int32)).toUInt32.toUInt16.toUInt32.toInt32)), .val (.int d0), .val (.int d1), .val (.int i1), .val (.int i2), .val (.ref s_68), .val (.ref s_73), .val (.ref b77), .val (.ref b81), .unset, .unset, .unset, .unset, .unset, .unset, .unset]) rfl k) ?_
    show own_Fin p e below (T83.setTop (mkF m 143 #[.val (.int p0), .val (.int p1), .val (.int p2), .val (.int p3), .val (.int p4), .val (.int 1), .val (.int 1), .val (.int ((p0 &&& (255 : Int32)).toUInt32.toUInt16.toUInt32.toInt32)), .val (.int ((((p0.toUInt32 >>> ((8 : Int32) &&& 31).toUInt32).toInt32) &&& (255 : Int32)).toUInt32.toUInt16.toUInt32.toInt32)), .val (.int d0), .val (.int d1), .val (.int i1), .val (.int i2), .val (.ref s_68), .val (.ref s_73), .val (.ref b77), .val (.ref b81), .unset, .unset, .unset, .unset, .unset, .unset, .unset] [])) _
    have j2 : ∀ (f17 : Int32) (ex : Int32), ex = own_bi (i1 = i2 ∧ ([(nar .char ((p0 &&& (255 : Int32)).toUInt32.toUInt16.toUInt32.toInt32))] : List Int32) = ([(nar .char d0)] : List Int32)) → own_Fin p e below (T83.setTop (mkF m 196 #[.val (.int p0), .val (.int p1), .val (.int p2), .val (.int p3), .val (.int p4), .val (.int 1), .val (.int 1), .val (.int ((p0 &&& (255 : Int32)).toUInt32.toUInt16.toUInt32.toInt32)), .val (.int ((((p0.toUInt32 >>> ((8 : Int32) &&& 31).toUInt32).toInt32) &&& (255 : Int32)).toUInt32.toUInt16.toUInt32.toInt32)), .val (.int d0), .val (.int d1), .val (.int i1), .val (.int i2), .val (.ref s_68), .val (.ref s_73), .val (.ref b77), .val (.ref b81), .val (.int f17), .val (.int ex), .unset, .unset, .unset, .unset, .unset] [])) (fun o' t' => ∃ v' L', o' = .returned v' ∧ Qrm0 Z p0 p1 p2 p3 p4 z h0 n0 v' t'.heap L' ∧ ReturnedEndW s o' t' L' 12 52) := by
     intro f17 ex hex
     show own_Fin p e below (T83.setTop (mkF m 196 #[.val (.int p0), .val (.int p1), .val (.int p2), .val (.int p3), .val (.int p4), .val (.int 1), .val (.int 1), .val (.int ((p0 &&& (255 : Int32)).toUInt32.toUInt16.toUInt32.toInt32)), .val (.int ((((p0.toUInt32 >>> ((8 : Int32) &&& 31).toUInt32).toInt32) &&& (255 : Int32)).toUInt32.toUInt16.toUInt32.toInt32)), .val (.int d0), .val (.int d1), .val (.int i1), .val (.int i2), .val (.ref s_68), .val (.ref s_73), .val (.ref b77), .val (.ref b81), .val (.int f17), .val (.int ex), .unset, .unset, .unset, .unset, .unset] [])) _
     refine own_go (fun _ k => XS.aload X83.here hx rfl (hb hby at_196) rfl rfl (XS.aload X83.here hx rfl (hb hby at_198) rfl rfl k)) ?_
     show own_Fin p e below (T83.setTop (mkF m 200 #[.val (.int p0), .val (.int p1), .val (.int p2), .val (.int p3), .val (.int p4), .val (.int 1), .val (.int 1), .val (.int ((p0 &&& (255 : Int32)).toUInt32.toUInt16.toUInt32.toInt32)), .val (.int ((((p0.toUInt32 >>> ((8 : Int32) &&& 31).toUInt32).toInt32) &&& (255 : Int32)).toUInt32.toUInt16.toUInt32.toInt32)), .val (.int d0), .val (.int d1), .val (.int i1), .val (.int i2), .val (.ref s_68), .val (.ref s_73), .val (.ref b77), .val (.ref b81), .val (.int f17), .val (.int ex), .unset, .unset, .unset, .unset, .unset] [(.ref b81), (.ref b77)])) _
     obtain ⟨cq85, kq85, q85a, q85b, q85c⟩ := isOf hZ rfl E_b77
     obtain ⟨_, _, ⟨T85, L85, k85, n85⟩, -, X85, ⟨Lc85, hQ85, l85, y85, z85⟩, st85⟩ := X83.virtualBack hx (y := (⟨"com/example/lokahi/lokahi/Unit", "equals", "(Ljava/lang/Object;)Z"⟩ : MethodName)) (z := (⟨"com/example/lokahi/lokahi/Unit", "equals", "(Ljava/lang/Object;)Z"⟩ : MethodName)) hown (mvT hZ (ow hw 58)) (mvT hZ (ow hw 59)) (notFace_of_selects (args := #[]) (mvT hZ (ow hw 61))) (mvT hZ (ow hw 61)) (mvT hZ (ow hw 60)) (by decide) (backOf (W := 0) (rmeU l Z a0 hw [] b77 b81 i1 i2 s_68 t_69 kb_70 ([(nar .char ((p0 &&& (255 : Int32)).toUInt32.toUInt16.toUInt32.toInt32))] : List Int32) s_73 t_74 kb_75 ([(nar .char d0)] : List Int32) z (T83.heap) n0 O S_String_COMPACT_STRINGS hz E_b77 E_b81 F_b77_Unit_set F_b77_Unit_index F_b81_Unit_set F_b81_Unit_index E_s_68 F_s_68_String_coder F_s_68_String_value V_t_69 E_s_73 F_s_73_String_coder F_s_73_String_value V_t_74 ne_b77_b81 (own_hp1 (own_255 _)) (own_hp1 hd0) (Nat.le_of_ble_eq_true rfl) (Nat.le_of_ble_eq_true rfl)) hZ (ow hw 62) (ow hw 37) (by decide) (by decide)) q85a q85c (g := (mkF m 200 #[.val (.int p0), .val (.int p1), .val (.int p2), .val (.int p3), .val (.int p4), .val (.int 1), .val (.int 1), .val (.int ((p0 &&& (255 : Int32)).toUInt32.toUInt16.toUInt32.toInt32)), .val (.int ((((p0.toUInt32 >>> ((8 : Int32) &&& 31).toUInt32).toInt32) &&& (255 : Int32)).toUInt32.toUInt16.toUInt32.toInt32)), .val (.int d0), .val (.int d1), .val (.int i1), .val (.int i2), .val (.ref s_68), .val (.ref s_73), .val (.ref b77), .val (.ref b81), .val (.int f17), .val (.int ex), .unset, .unset, .unset, .unset, .unset] [(.ref b81), (.ref b77)])) rfl (by rw [hml]; rfl) (Steps.refl _) (argsL := [(.ref b81)]) (rest := []) (lenOf pd_3 rfl) rfl (by show 2 * 0 + _ ≤ _; exact Nat.le_of_eq rfl) (hb hby at_200) (fun _ _ => ⟨rfl, rfl, (by decide : 12 + 0 ≤ _), (by decide : 48 + 0 ≤ _)⟩)
     dsimp only [Pt.U, Pt.locs, Pt.cells, Pt.slots] at X85 l85 y85 z85 st85 hQ85
     subst l85 y85 z85
     obtain ⟨rfl, N85q, e85⟩ := hQ85
     refine own_go (fun _ k => st85.trans k) ?_
     have N85 := Fr.app N83 N85q
     show own_Fin p e below (T85.setTop (mkF m 203 #[.val (.int p0), .val (.int p1), .val (.int p2), .val (.int p3), .val (.int p4), .val (.int 1), .val (.int 1), .val (.int ((p0 &&& (255 : Int32)).toUInt32.toUInt16.toUInt32.toInt32)), .val (.int ((((p0.toUInt32 >>> ((8 : Int32) &&& 31).toUInt32).toInt32) &&& (255 : Int32)).toUInt32.toUInt16.toUInt32.toInt32)), .val (.int d0), .val (.int d1), .val (.int i1), .val (.int i2), .val (.ref s_68), .val (.ref s_73), .val (.ref b77), .val (.ref b81), .val (.int f17), .val (.int ex), .unset, .unset, .unset, .unset, .unset] [(.int (own_bi (i1 = i2 ∧ ([(nar .char ((p0 &&& (255 : Int32)).toUInt32.toUInt16.toUInt32.toInt32))] : List Int32) = ([(nar .char d0)] : List Int32))))])) _
     refine own_go (fun _ k => XS.istore X85.here hx rfl (hb hby at_203) rfl (l' := #[.val (.int p0), .val (.int p1), .val (.int p2), .val (.int p3), .val (.int p4), .val (.int 1), .val (.int 1), .val (.int ((p0 &&& (255 : Int32)).toUInt32.toUInt16.toUInt32.toInt32)), .val (.int ((((p0.toUInt32 >>> ((8 : Int32) &&& 31).toUInt32).toInt32) &&& (255 : Int32)).toUInt32.toUInt16.toUInt32.toInt32)), .val (.int d0), .val (.int d1), .val (.int i1), .val (.int i2), .val (.ref s_68), .val (.ref s_73), .val (.ref b77), .val (.ref b81), .val (.int f17), .val (.int ex), .val (.int (own_bi (i1 = i2 ∧ ([(nar .char ((p0 &&& (255 : Int32)).toUInt32.toUInt16.toUInt32.toInt32))] : List Int32) = ([(nar .char d0)] : List Int32)))), .unset, .unset, .unset, .unset]) rfl (XS.aload X85.here hx rfl (hb hby at_205) rfl rfl (XS.aload X85.here hx rfl (hb hby at_207) rfl rfl k))) ?_
     show own_Fin p e below (T85.setTop (mkF m 209 #[.val (.int p0), .val (.int p1), .val (.int p2), .val (.int p3), .val (.int p4), .val (.int 1), .val (.int 1), .val (.int ((p0 &&& (255 : Int32)).toUInt32.toUInt16.toUInt32.toInt32)), .val (.int ((((p0.toUInt32 >>> ((8 : Int32) &&& 31).toUInt32).toInt32) &&& (255 : Int32)).toUInt32.toUInt16.toUInt32.toInt32)), .val (.int d0), .val (.int d1), .val (.int i1), .val (.int i2), .val (.ref s_68), .val (.ref s_73), .val (.ref b77), .val (.ref b81), .val (.int f17), .val (.int ex), .val (.int (own_bi (i1 = i2 ∧ ([(nar .char ((p0 &&& (255 : Int32)).toUInt32.toUInt16.toUInt32.toInt32))] : List Int32) = ([(nar .char d0)] : List Int32)))), .unset, .unset, .unset, .unset] [(.ref b77), (.ref b81)])) _
     obtain ⟨cq86, kq86, q86a, q86b, q86c⟩ := isOf hZ e85 E_b81
     obtain ⟨_, _, ⟨T86, L86, k86, n86⟩, -, X86, ⟨Lc86, hQ86, l86, y86, z86⟩, st86⟩ := X85.virtualBack hx (y := (⟨"com/example/lokahi/lokahi/Unit", "equals", "(Ljava/lang/Object;)Z"⟩ : MethodName)) (z := (⟨"com/example/lokahi/lokahi/Unit", "equals", "(Ljava/lang/Object;)Z"⟩ : MethodName)) hown (mvT hZ (ow hw 58)) (mvT hZ (ow hw 59)) (notFace_of_selects (args := #[]) (mvT hZ (ow hw 61))) (mvT hZ (ow hw 61)) (mvT hZ (ow hw 60)) (by decide) (backOf (W := 0) (rmeU l Z a0 hw [] b81 b77 i2 i1 s_73 t_74 kb_75 ([(nar .char d0)] : List Int32) s_68 t_69 kb_70 ([(nar .char ((p0 &&& (255 : Int32)).toUInt32.toUInt16.toUInt32.toInt32))] : List Int32) z (T83.heap) n0 O S_String_COMPACT_STRINGS hz E_b81 E_b77 F_b81_Unit_set F_b81_Unit_index F_b77_Unit_set F_b77_Unit_index E_s_73 F_s_73_String_coder F_s_73_String_value V_t_74 E_s_68 F_s_68_String_coder F_s_68_String_value V_t_69 (Ne.symm ne_b77_b81) (own_hp1 hd0) (own_hp1 (own_255 _)) (Nat.le_of_ble_eq_true rfl) (Nat.le_of_ble_eq_true rfl)) hZ (ow hw 62) (ow hw 37) (by decide) (by decide)) q86a q86c (g := (mkF m 209 #[.val (.int p0), .val (.int p1), .val (.int p2), .val (.int p3), .val (.int p4), .val (.int 1), .val (.int 1), .val (.int ((p0 &&& (255 : Int32)).toUInt32.toUInt16.toUInt32.toInt32)), .val (.int ((((p0.toUInt32 >>> ((8 : Int32) &&& 31).toUInt32).toInt32) &&& (255 : Int32)).toUInt32.toUInt16.toUInt32.toInt32)), .val (.int d0), .val (.int d1), .val (.int i1), .val (.int i2), .val (.ref s_68), .val (.ref s_73), .val (.ref b77), .val (.ref b81), .val (.int f17), .val (.int ex), .val (.int (own_bi (i1 = i2 ∧ ([(nar .char ((p0 &&& (255 : Int32)).toUInt32.toUInt16.toUInt32.toInt32))] : List Int32) = ([(nar .char d0)] : List Int32)))), .unset, .unset, .unset, .unset] [(.ref b77), (.ref b81)])) rfl (by rw [hml]; rfl) (Steps.refl _) (argsL := [(.ref b77)]) (rest := []) (lenOf pd_3 rfl) rfl (by show 2 * 0 + _ ≤ _; exact Nat.le_of_eq rfl) (hb hby at_209) (fun _ _ => ⟨rfl, e85, (by decide : 12 + 0 ≤ _), (by decide : 48 + 0 ≤ _)⟩)
     dsimp only [Pt.U, Pt.locs, Pt.cells, Pt.slots] at X86 l86 y86 z86 st86 hQ86
     subst l86 y86 z86
     obtain ⟨rfl, N86q, e86⟩ := hQ86
     refine own_go (fun _ k => st86.trans k) ?_
     have N86 := Fr.app N85 N86q
     show own_Fin p e below (T86.setTop (mkF m 212 #[.val (.int p0), .val (.int p1), .val (.int p2), .val (.int p3), .val (.int p4), .val (.int 1), .val (.int 1), .val (.int ((p0 &&& (255 : Int32)).toUInt32.toUInt16.toUInt32.toInt32)), .val (.int ((((p0.toUInt32 >>> ((8 : Int32) &&& 31).toUInt32).toInt32) &&& (255 : Int32)).toUInt32.toUInt16.toUInt32.toInt32)), .val (.int d0), .val (.int d1), .val (.int i1), .val (.int i2), .val (.ref s_68), .val (.ref s_73), .val (.ref b77), .val (.ref b81), .val (.int f17), .val (.int ex), .val (.int (own_bi (i1 = i2 ∧ ([(nar .char ((p0 &&& (255 : Int32)).toUInt32.toUInt16.toUInt32.toInt32))] : List Int32) = ([(nar .char d0)] : List Int32)))), .unset, .unset, .unset, .unset] [(.int (own_bi (i2 = i1 ∧ ([(nar .char d0)] : List Int32) = ([(nar .char ((p0 &&& (255 : Int32)).toUInt32.toUInt16.toUInt32.toInt32))] : List Int32))))])) _
     refine own_go (fun _ k => XS.istore X86.here hx rfl (hb hby at_212) rfl (l' := #[.val (.int p0), .val (.int p1), .val (.int p2), .val (.int p3), .val (.int p4), .val (.int 1), .val (.int 1), .val (.int ((p0 &&& (255 : Int32)).toUInt32.toUInt16.toUInt32.toInt32)), .val (.int ((((p0.toUInt32 >>> ((8 : Int32) &&& 31).toUInt32).toInt32) &&& (255 : Int32)).toUInt32.toUInt16.toUInt32.toInt32)), .val (.int d0), .val (.int d1), .val (.int i1), .val (.int i2), .val (.ref s_68), .val (.ref s_73), .val (.ref b77), .val (.ref b81), .val (.int f17), .val (.int ex), .val (.int (own_bi (i1 = i2 ∧ ([(nar .char ((p0 &&& (255 : Int32)).toUInt32.toUInt16.toUInt32.toInt32))] : List Int32) = ([(nar .char d0)] : List Int32)))), .val (.int (own_bi (i2 = i1 ∧ ([(nar .char d0)] : List Int32) = ([(nar .char ((p0 &&& (255 : Int32)).toUInt32.toUInt16.toUInt32.toInt32))] : List Int32)))), .unset, .unset, .unset]) rfl (XS.aload X86.here hx rfl (hb hby at_214) rfl rfl (XS.aload X86.here hx rfl (hb hby at_216) rfl rfl k))) ?_
     show own_Fin p e below (T86.setTop (mkF m 218 #[.val (.int p0), .val (.int p1), .val (.int p2), .val (.int p3), .val (.int p4), .val (.int 1), .val (.int 1), .val (.int ((p0 &&& (255 : Int32)).toUInt32.toUInt16.toUInt32.toInt32)), .val (.int ((((p0.toUInt32 >>> ((8 : Int32) &&& 31).toUInt32).toInt32) &&& (255 : Int32)).toUInt32.toUInt16.toUInt32.toInt32)), .val (.int d0), .val (.int d1), .val (.int i1), .val (.int i2), .val (.ref s_68), .val (.ref s_73), .val (.ref b77), .val (.ref b81), .val (.int f17), .val (.int ex), .val (.int (own_bi (i1 = i2 ∧ ([(nar .char ((p0 &&& (255 : Int32)).toUInt32.toUInt16.toUInt32.toInt32))] : List Int32) = ([(nar .char d0)] : List Int32)))), .val (.int (own_bi (i2 = i1 ∧ ([(nar .char d0)] : List Int32) = ([(nar .char ((p0 &&& (255 : Int32)).toUInt32.toUInt16.toUInt32.toInt32))] : List Int32)))), .unset, .unset, .unset] [(.ref b77), (.ref b77)])) _
     obtain ⟨cq87, kq87, q87a, q87b, q87c⟩ := isOf hZ e86 E_b77
     obtain ⟨_, _, ⟨T87, L87, k87, n87⟩, -, X87, ⟨Lc87, hQ87, l87, y87, z87⟩, st87⟩ := X86.virtualBack hx (y := (⟨"com/example/lokahi/lokahi/Unit", "equals", "(Ljava/lang/Object;)Z"⟩ : MethodName)) (z := (⟨"com/example/lokahi/lokahi/Unit", "equals", "(Ljava/lang/Object;)Z"⟩ : MethodName)) hown (mvT hZ (ow hw 58)) (mvT hZ (ow hw 59)) (notFace_of_selects (args := #[]) (mvT hZ (ow hw 61))) (mvT hZ (ow hw 61)) (mvT hZ (ow hw 60)) (by decide) (backOf (W := 0) (rmeS l Z a0 hw [] b77 (T83.heap) n0 O ) hZ (ow hw 62) (ow hw 37) (by decide) (by decide)) q87a q87c (g := (mkF m 218 #[.val (.int p0), .val (.int p1), .val (.int p2), .val (.int p3), .val (.int p4), .val (.int 1), .val (.int 1), .val (.int ((p0 &&& (255 : Int32)).toUInt32.toUInt16.toUInt32.toInt32)), .val (.int ((((p0.toUInt32 >>> ((8 : Int32) &&& 31).toUInt32).toInt32) &&& (255 : Int32)).toUInt32.toUInt16.toUInt32.toInt32)), .val (.int d0), .val (.int d1), .val (.int i1), .val (.int i2), .val (.ref s_68), .val (.ref s_73), .val (.ref b77), .val (.ref b81), .val (.int f17), .val (.int ex), .val (.int (own_bi (i1 = i2 ∧ ([(nar .char ((p0 &&& (255 : Int32)).toUInt32.toUInt16.toUInt32.toInt32))] : List Int32) = ([(nar .char d0)] : List Int32)))), .val (.int (own_bi (i2 = i1 ∧ ([(nar .char d0)] : List Int32) = ([(nar .char ((p0 &&& (255 : Int32)).toUInt32.toUInt16.toUInt32.toInt32))] : List Int32)))), .unset, .unset, .unset] [(.ref b77), (.ref b77)])) rfl (by rw [hml]; rfl) (Steps.refl _) (argsL := [(.ref b77)]) (rest := []) (lenOf pd_3 rfl) rfl (by show 2 * 0 + _ ≤ _; exact Nat.le_of_eq rfl) (hb hby at_218) (fun _ _ => ⟨rfl, e86, (by decide : 12 + 0 ≤ _), (by decide : 48 + 0 ≤ _)⟩)
     dsimp only [Pt.U, Pt.locs, Pt.cells, Pt.slots] at X87 l87 y87 z87 st87 hQ87
     subst l87 y87 z87
     obtain ⟨rfl, N87q, e87⟩ := hQ87
     refine own_go (fun _ k => st87.trans k) ?_
     have N87 := Fr.app N86 N87q
     show own_Fin p e below (T87.setTop (mkF m 221 #[.val (.int p0), .val (.int p1), .val (.int p2), .val (.int p3), .val (.int p4), .val (.int 1), .val (.int 1), .val (.int ((p0 &&& (255 : Int32)).toUInt32.toUInt16.toUInt32.toInt32)), .val (.int ((((p0.toUInt32 >>> ((8 : Int32) &&& 31).toUInt32).toInt32) &&& (255 : Int32)).toUInt32.toUInt16.toUInt32.toInt32)), .val (.int d0), .val (.int d1), .val (.int i1), .val (.int i2), .val (.ref s_68), .val (.ref s_73), .val (.ref b77), .val (.ref b81), .val (.int f17), .val (.int ex), .val (.int (own_bi (i1 = i2 ∧ ([(nar .char ((p0 &&& (255 : Int32)).toUInt32.toUInt16.toUInt32.toInt32))] : List Int32) = ([(nar .char d0)] : List Int32)))), .val (.int (own_bi (i2 = i1 ∧ ([(nar .char d0)] : List Int32) = ([(nar .char ((p0 &&& (255 : Int32)).toUInt32.toUInt16.toUInt32.toInt32))] : List Int32)))), .unset, .unset, .unset] [(.int 1)])) _
     refine own_go (fun _ k => XS.istore X87.here hx rfl (hb hby at_221) rfl (l' := #[.val (.int p0), .val (.int p1), .val (.int p2), .val (.int p3), .val (.int p4), .val (.int 1), .val (.int 1), .val (.int ((p0 &&& (255 : Int32)).toUInt32.toUInt16.toUInt32.toInt32)), .val (.int ((((p0.toUInt32 >>> ((8 : Int32) &&& 31).toUInt32).toInt32) &&& (255 : Int32)).toUInt32.toUInt16.toUInt32.toInt32)), .val (.int d0), .val (.int d1), .val (.int i1), .val (.int i2), .val (.ref s_68), .val (.ref s_73), .val (.ref b77), .val (.ref b81), .val (.int f17), .val (.int ex), .val (.int (own_bi (i1 = i2 ∧ ([(nar .char ((p0 &&& (255 : Int32)).toUInt32.toUInt16.toUInt32.toInt32))] : List Int32) = ([(nar .char d0)] : List Int32)))), .val (.int (own_bi (i2 = i1 ∧ ([(nar .char d0)] : List Int32) = ([(nar .char ((p0 &&& (255 : Int32)).toUInt32.toUInt16.toUInt32.toInt32))] : List Int32)))), .val (.int 1), .unset, .unset]) rfl (XS.aload X87.here hx rfl (hb hby at_223) rfl rfl (XS.aconstNull X87.here hx rfl (hb hby at_225) k))) ?_
     show own_Fin p e below (T87.setTop (mkF m 226 #[.val (.int p0), .val (.int p1), .val (.int p2), .val (.int p3), .val (.int p4), .val (.int 1), .val (.int 1), .val (.int ((p0 &&& (255 : Int32)).toUInt32.toUInt16.toUInt32.toInt32)), .val (.int ((((p0.toUInt32 >>> ((8 : Int32) &&& 31).toUInt32).toInt32) &&& (255 : Int32)).toUInt32.toUInt16.toUInt32.toInt32)), .val (.int d0), .val (.int d1), .val (.int i1), .val (.int i2), .val (.ref s_68), .val (.ref s_73), .val (.ref b77), .val (.ref b81), .val (.int f17), .val (.int ex), .val (.int (own_bi (i1 = i2 ∧ ([(nar .char ((p0 &&& (255 : Int32)).toUInt32.toUInt16.toUInt32.toInt32))] : List Int32) = ([(nar .char d0)] : List Int32)))), .val (.int (own_bi (i2 = i1 ∧ ([(nar .char d0)] : List Int32) = ([(nar .char ((p0 &&& (255 : Int32)).toUInt32.toUInt16.toUInt32.toInt32))] : List Int32)))), .val (.int 1), .unset, .unset] [.null, (.ref b77)])) _
     obtain ⟨cq88, kq88, q88a, q88b, q88c⟩ := isOf hZ e87 E_b77
     obtain ⟨_, _, ⟨T88, L88, k88, n88⟩, -, X88, ⟨Lc88, hQ88, l88, y88, z88⟩, st88⟩ := X87.virtualBack hx (y := (⟨"com/example/lokahi/lokahi/Unit", "equals", "(Ljava/lang/Object;)Z"⟩ : MethodName)) (z := (⟨"com/example/lokahi/lokahi/Unit", "equals", "(Ljava/lang/Object;)Z"⟩ : MethodName)) hown (mvT hZ (ow hw 58)) (mvT hZ (ow hw 59)) (notFace_of_selects (args := #[]) (mvT hZ (ow hw 61))) (mvT hZ (ow hw 61)) (mvT hZ (ow hw 60)) (by decide) (backOf (W := 0) (rmeN l Z a0 hw [] b77 (T83.heap) n0 O ) hZ (ow hw 62) (ow hw 37) (by decide) (by decide)) q88a q88c (g := (mkF m 226 #[.val (.int p0), .val (.int p1), .val (.int p2), .val (.int p3), .val (.int p4), .val (.int 1), .val (.int 1), .val (.int ((p0 &&& (255 : Int32)).toUInt32.toUInt16.toUInt32.toInt32)), .val (.int ((((p0.toUInt32 >>> ((8 : Int32) &&& 31).toUInt32).toInt32) &&& (255 : Int32)).toUInt32.toUInt16.toUInt32.toInt32)), .val (.int d0), .val (.int d1), .val (.int i1), .val (.int i2), .val (.ref s_68), .val (.ref s_73), .val (.ref b77), .val (.ref b81), .val (.int f17), .val (.int ex), .val (.int (own_bi (i1 = i2 ∧ ([(nar .char ((p0 &&& (255 : Int32)).toUInt32.toUInt16.toUInt32.toInt32))] : List Int32) = ([(nar .char d0)] : List Int32)))), .val (.int (own_bi (i2 = i1 ∧ ([(nar .char d0)] : List Int32) = ([(nar .char ((p0 &&& (255 : Int32)).toUInt32.toUInt16.toUInt32.toInt32))] : List Int32)))), .val (.int 1), .unset, .unset] [.null, (.ref b77)])) rfl (by rw [hml]; rfl) (Steps.refl _) (argsL := [.null]) (rest := []) (lenOf pd_3 rfl) rfl (by show 2 * 0 + _ ≤ _; exact Nat.le_of_eq rfl) (hb hby at_226) (fun _ _ => ⟨rfl, e87, (by decide : 12 + 0 ≤ _), (by decide : 48 + 0 ≤ _)⟩)
     dsimp only [Pt.U, Pt.locs, Pt.cells, Pt.slots] at X88 l88 y88 z88 st88 hQ88
     subst l88 y88 z88
     obtain ⟨rfl, N88q, e88⟩ := hQ88
     refine own_go (fun _ k => st88.trans k) ?_
     have N88 := Fr.app N87 N88q
     show own_Fin p e below (T88.setTop (mkF m 229 #[.val (.int p0), .val (.int p1), .val (.int p2), .val (.int p3), .val (.int p4), .val (.int 1), .val (.int 1), .val (.int ((p0 &&& (255 : Int32)).toUInt32.toUInt16.toUInt32.toInt32)), .val (.int ((((p0.toUInt32 >>> ((8 : Int32) &&& 31).toUInt32).toInt32) &&& (255 : Int32)).toUInt32.toUInt16.toUInt32.toInt32)), .val (.int d0), .val (.int d1), .val (.int i1), .val (.int i2), .val (.ref s_68), .val (.ref s_73), .val (.ref b77), .val (.ref b81), .val (.int f17), .val (.int ex), .val (.int (own_bi (i1 = i2 ∧ ([(nar .char ((p0 &&& (255 : Int32)).toUInt32.toUInt16.toUInt32.toInt32))] : List Int32) = ([(nar .char d0)] : List Int32)))), .val (.int (own_bi (i2 = i1 ∧ ([(nar .char d0)] : List Int32) = ([(nar .char ((p0 &&& (255 : Int32)).toUInt32.toUInt16.toUInt32.toInt32))] : List Int32)))), .val (.int 1), .unset, .unset] [(.int 0)])) _
     refine own_go (fun _ k => XS.istore X88.here hx rfl (hb hby at_229) rfl (l' := #[.val (.int p0), .val (.int p1), .val (.int p2), .val (.int p3), .val (.int p4), .val (.int 1), .val (.int 1), .val (.int ((p0 &&& (255 : Int32)).toUInt32.toUInt16.toUInt32.toInt32)), .val (.int ((((p0.toUInt32 >>> ((8 : Int32) &&& 31).toUInt32).toInt32) &&& (255 : Int32)).toUInt32.toUInt16.toUInt32.toInt32)), .val (.int d0), .val (.int d1), .val (.int i1), .val (.int i2), .val (.ref s_68), .val (.ref s_73), .val (.ref b77), .val (.ref b81), .val (.int f17), .val (.int ex), .val (.int (own_bi (i1 = i2 ∧ ([(nar .char ((p0 &&& (255 : Int32)).toUInt32.toUInt16.toUInt32.toInt32))] : List Int32) = ([(nar .char d0)] : List Int32)))), .val (.int (own_bi (i2 = i1 ∧ ([(nar .char d0)] : List Int32) = ([(nar .char ((p0 &&& (255 : Int32)).toUInt32.toUInt16.toUInt32.toInt32))] : List Int32)))), .val (.int 1), .val (.int 0), .unset]) rfl (XS.aload X88.here hx rfl (hb hby at_231) rfl rfl (XS.aload X88.here hx rfl (hb hby at_233) rfl rfl k))) ?_
     show own_Fin p e below (T88.setTop (mkF m 235 #[.val (.int p0), .val (.int p1), .val (.int p2), .val (.int p3), .val (.int p4), .val (.int 1), .val (.int 1), .val (.int ((p0 &&& (255 : Int32)).toUInt32.toUInt16.toUInt32.toInt32)), .val (.int ((((p0.toUInt32 >>> ((8 : Int32) &&& 31).toUInt32).toInt32) &&& (255 : Int32)).toUInt32.toUInt16.toUInt32.toInt32)), .val (.int d0), .val (.int d1), .val (.int i1), .val (.int i2), .val (.ref s_68), .val (.ref s_73), .val (.ref b77), .val (.ref b81), .val (.int f17), .val (.int ex), .val (.int (own_bi (i1 = i2 ∧ ([(nar .char ((p0 &&& (255 : Int32)).toUInt32.toUInt16.toUInt32.toInt32))] : List Int32) = ([(nar .char d0)] : List Int32)))), .val (.int (own_bi (i2 = i1 ∧ ([(nar .char d0)] : List Int32) = ([(nar .char ((p0 &&& (255 : Int32)).toUInt32.toUInt16.toUInt32.toInt32))] : List Int32)))), .val (.int 1), .val (.int 0), .unset] [(.ref s_68), (.ref b77)])) _
     obtain ⟨cq89, kq89, q89a, q89b, q89c⟩ := isOf hZ e88 E_b77
     obtain ⟨_, _, ⟨T89, L89, k89, n89⟩, -, X89, ⟨Lc89, hQ89, l89, y89, z89⟩, st89⟩ := X88.virtualBack hx (y := (⟨"com/example/lokahi/lokahi/Unit", "equals", "(Ljava/lang/Object;)Z"⟩ : MethodName)) (z := (⟨"com/example/lokahi/lokahi/Unit", "equals", "(Ljava/lang/Object;)Z"⟩ : MethodName)) hown (mvT hZ (ow hw 58)) (mvT hZ (ow hw 59)) (notFace_of_selects (args := #[]) (mvT hZ (ow hw 61))) (mvT hZ (ow hw 61)) (mvT hZ (ow hw 60)) (by decide) (backOf (W := 0) (rmeT l Z a0 hw [] b77 s_68 (T83.heap) n0 O E_s_68 (Ne.symm ne_s_68_b77)) hZ (ow hw 62) (ow hw 37) (by decide) (by decide)) q89a q89c (g := (mkF m 235 #[.val (.int p0), .val (.int p1), .val (.int p2), .val (.int p3), .val (.int p4), .val (.int 1), .val (.int 1), .val (.int ((p0 &&& (255 : Int32)).toUInt32.toUInt16.toUInt32.toInt32)), .val (.int ((((p0.toUInt32 >>> ((8 : Int32) &&& 31).toUInt32).toInt32) &&& (255 : Int32)).toUInt32.toUInt16.toUInt32.toInt32)), .val (.int d0), .val (.int d1), .val (.int i1), .val (.int i2), .val (.ref s_68), .val (.ref s_73), .val (.ref b77), .val (.ref b81), .val (.int f17), .val (.int ex), .val (.int (own_bi (i1 = i2 ∧ ([(nar .char ((p0 &&& (255 : Int32)).toUInt32.toUInt16.toUInt32.toInt32))] : List Int32) = ([(nar .char d0)] : List Int32)))), .val (.int (own_bi (i2 = i1 ∧ ([(nar .char d0)] : List Int32) = ([(nar .char ((p0 &&& (255 : Int32)).toUInt32.toUInt16.toUInt32.toInt32))] : List Int32)))), .val (.int 1), .val (.int 0), .unset] [(.ref s_68), (.ref b77)])) rfl (by rw [hml]; rfl) (Steps.refl _) (argsL := [(.ref s_68)]) (rest := []) (lenOf pd_3 rfl) rfl (by show 2 * 0 + _ ≤ _; exact Nat.le_of_eq rfl) (hb hby at_235) (fun _ _ => ⟨rfl, e88, (by decide : 12 + 0 ≤ _), (by decide : 48 + 0 ≤ _)⟩)
     dsimp only [Pt.U, Pt.locs, Pt.cells, Pt.slots] at X89 l89 y89 z89 st89 hQ89
     subst l89 y89 z89
     obtain ⟨rfl, N89q, e89⟩ := hQ89
     refine own_go (fun _ k => st89.trans k) ?_
     have N89 := Fr.app N88 N89q
     show own_Fin p e below (T89.setTop (mkF m 238 #[.val (.int p0), .val (.int p1), .val (.int p2), .val (.int p3), .val (.int p4), .val (.int 1), .val (.int 1), .val (.int ((p0 &&& (255 : Int32)).toUInt32.toUInt16.toUInt32.toInt32)), .val (.int ((((p0.toUInt32 >>> ((8 : Int32) &&& 31).toUInt32).toInt32) &&& (255 : Int32)).toUInt32.toUInt16.toUInt32.toInt32)), .val (.int d0), .val (.int d1), .val (.int i1), .val (.int i2), .val (.ref s_68), .val (.ref s_73), .val (.ref b77), .val (.ref b81), .val (.int f17), .val (.int ex), .val (.int (own_bi (i1 = i2 ∧ ([(nar .char ((p0 &&& (255 : Int32)).toUInt32.toUInt16.toUInt32.toInt32))] : List Int32) = ([(nar .char d0)] : List Int32)))), .val (.int (own_bi (i2 = i1 ∧ ([(nar .char d0)] : List Int32) = ([(nar .char ((p0 &&& (255 : Int32)).toUInt32.toUInt16.toUInt32.toInt32))] : List Int32)))), .val (.int 1), .val (.int 0), .unset] [(.int 0)])) _
     refine own_go (fun _ k => XS.istore X89.here hx rfl (hb hby at_238) rfl (l' := #[.val (.int p0), .val (.int p1), .val (.int p2), .val (.int p3), .val (.int p4), .val (.int 1), .val (.int 1), .val (.int ((p0 &&& (255 : Int32)).toUInt32.toUInt16.toUInt32.toInt32)), .val (.int ((((p0.toUInt32 >>> ((8 : Int32) &&& 31).toUInt32).toInt32) &&& (255 : Int32)).toUInt32.toUInt16.toUInt32.toInt32)), .val (.int d0), .val (.int d1), .val (.int i1), .val (.int i2), .val (.ref s_68), .val (.ref s_73), .val (.ref b77), .val (.ref b81), .val (.int f17), .val (.int ex), .val (.int (own_bi (i1 = i2 ∧ ([(nar .char ((p0 &&& (255 : Int32)).toUInt32.toUInt16.toUInt32.toInt32))] : List Int32) = ([(nar .char d0)] : List Int32)))), .val (.int (own_bi (i2 = i1 ∧ ([(nar .char d0)] : List Int32) = ([(nar .char ((p0 &&& (255 : Int32)).toUInt32.toUInt16.toUInt32.toInt32))] : List Int32)))), .val (.int 1), .val (.int 0), .val (.int 0)]) rfl (XS.iload X89.here hx rfl (hb hby at_240) rfl (XS.iload X89.here hx rfl (hb hby at_242) rfl (XS.icmpNo X89.here hx rfl (hb hby at_244) rfl (teq (by rw [hex] : (own_bi (i1 = i2 ∧ ([(nar .char ((p0 &&& (255 : Int32)).toUInt32.toUInt16.toUInt32.toInt32))] : List Int32) = ([(nar .char d0)] : List Int32))) = ex)).2 (XS.iload X89.here hx rfl (hb hby at_247) rfl (XS.iload X89.here hx rfl (hb hby at_249) rfl (XS.icmpNo X89.here hx rfl (hb hby at_251) rfl (teq (by rw [hex]; unfold own_bi; simp only [eq_comm] : (own_bi (i2 = i1 ∧ ([(nar .char d0)] : List Int32) = ([(nar .char ((p0 &&& (255 : Int32)).toUInt32.toUInt16.toUInt32.toInt32))] : List Int32))) = ex)).2 (XS.iload X89.here hx rfl (hb hby at_254) rfl (XS.ifNo X89.here hx rfl (hb hby at_256) rfl ((if0 _ _).trans (feq (by decide : ¬ ((1 : Int32) = (0 : Int32)))).1) (XS.iload X89.here hx rfl (hb hby at_259) rfl k)))))))))) ?_
     show own_Fin p e below (T89.setTop (mkF m 261 #[.val (.int p0), .val (.int p1), .val (.int p2), .val (.int p3), .val (.int p4), .val (.int 1), .val (.int 1), .val (.int ((p0 &&& (255 : Int32)).toUInt32.toUInt16.toUInt32.toInt32)), .val (.int ((((p0.toUInt32 >>> ((8 : Int32) &&& 31).toUInt32).toInt32) &&& (255 : Int32)).toUInt32.toUInt16.toUInt32.toInt32)), .val (.int d0), .val (.int d1), .val (.int i1), .val (.int i2), .val (.ref s_68), .val (.ref s_73), .val (.ref b77), .val (.ref b81), .val (.int f17), .val (.int ex), .val (.int (own_bi (i1 = i2 ∧ ([(nar .char ((p0 &&& (255 : Int32)).toUInt32.toUInt16.toUInt32.toInt32))] : List Int32) = ([(nar .char d0)] : List Int32)))), .val (.int (own_bi (i2 = i1 ∧ ([(nar .char d0)] : List Int32) = ([(nar .char ((p0 &&& (255 : Int32)).toUInt32.toUInt16.toUInt32.toInt32))] : List Int32)))), .val (.int 1), .val (.int 0), .val (.int 0)] [(.int 0)])) _
     refine own_go (fun _ k => XS.ifNo X89.here hx rfl (hb hby at_261) rfl ((if0 _ _).trans (teq (by decide : (0 : Int32) = (0 : Int32))).2) (XS.iload X89.here hx rfl (hb hby at_264) rfl (XS.ifNo X89.here hx rfl (hb hby at_266) rfl ((if0 _ _).trans (teq (by decide : (0 : Int32) = (0 : Int32))).2) (XS.iconst X89.here hx rfl (hb hby at_269) (XS.goto X89.here hx rfl (pc0 := 270) (pc' := 274) rfl (hb hby at_270) (by decide) (by decide) k))))) ?_
     show own_Fin p e below (T89.setTop (mkF m 274 #[.val (.int p0), .val (.int p1), .val (.int p2), .val (.int p3), .val (.int p4), .val (.int 1), .val (.int 1), .val (.int ((p0 &&& (255 : Int32)).toUInt32.toUInt16.toUInt32.toInt32)), .val (.int ((((p0.toUInt32 >>> ((8 : Int32) &&& 31).toUInt32).toInt32) &&& (255 : Int32)).toUInt32.toUInt16.toUInt32.toInt32)), .val (.int d0), .val (.int d1), .val (.int i1), .val (.int i2), .val (.ref s_68), .val (.ref s_73), .val (.ref b77), .val (.ref b81), .val (.int f17), .val (.int ex), .val (.int (own_bi (i1 = i2 ∧ ([(nar .char ((p0 &&& (255 : Int32)).toUInt32.toUInt16.toUInt32.toInt32))] : List Int32) = ([(nar .char d0)] : List Int32)))), .val (.int (own_bi (i2 = i1 ∧ ([(nar .char d0)] : List Int32) = ([(nar .char ((p0 &&& (255 : Int32)).toUInt32.toUInt16.toUInt32.toInt32))] : List Int32)))), .val (.int 1), .val (.int 0), .val (.int 0)] [(.int 1)])) _
     obtain ⟨fs, hr, hrun, hended, hE⟩ := X89.leaveW hS (Nat.le_trans hk (Nat.le_of_eq (congrArg Array.size e89).symm)) (v := some (.int 1)) (fun h => by rw [Bd.returns] at h; cases h)
     refine ⟨_, _, ?_, hrun, hended, _, _, rfl, ?_, ⟨_, rfl⟩, hE.2.1, hE.2.2.1, hE.2.2.2.mono (by decide) (by decide)⟩
     ·exact retN X89 hx (t := .boolean) Bd.returns (by simp) (hb hby at_274) hr
     ·show Qrm0 Z p0 p1 p2 p3 p4 z h0 n0 _ T89.heap _
      rw [e89]
      exact ⟨rfl, N89, K84⟩
    show own_Fin p e below (T83.setTop (mkF m 143 #[.val (.int p0), .val (.int p1), .val (.int p2), .val (.int p3), .val (.int p4), .val (.int 1), .val (.int 1), .val (.int ((p0 &&& (255 : Int32)).toUInt32.toUInt16.toUInt32.toInt32)), .val (.int ((((p0.toUInt32 >>> ((8 : Int32) &&& 31).toUInt32).toInt32) &&& (255 : Int32)).toUInt32.toUInt16.toUInt32.toInt32)), .val (.int d0), .val (.int d1), .val (.int i1), .val (.int i2), .val (.ref s_68), .val (.ref s_73), .val (.ref b77), .val (.ref b81), .unset, .unset, .unset, .unset, .unset, .unset, .unset] [])) _
    refine own_go (fun _ k => XS.iload X83.here hx rfl (hb hby at_143) rfl (XS.iload X83.here hx rfl (hb hby at_145) rfl (XS.icmpNo X83.here hx rfl (hb hby at_147) rfl (teq (by decide : (1 : Int32) = (1 : Int32))).2 (XS.iload X83.here hx rfl (hb hby at_150) rfl (XS.iload X83.here hx rfl (hb hby at_152) rfl k))))) ?_
    show own_Fin p e below (T83.setTop (mkF m 154 #[.val (.int p0), .val (.int p1), .val (.int p2), .val (.int p3), .val (.int p4), .val (.int 1), .val (.int 1), .val (.int ((p0 &&& (255 : Int32)).toUInt32.toUInt16.toUInt32.toInt32)), .val (.int ((((p0.toUInt32 >>> ((8 : Int32) &&& 31).toUInt32).toInt32) &&& (255 : Int32)).toUInt32.toUInt16.toUInt32.toInt32)), .val (.int d0), .val (.int d1), .val (.int i1), .val (.int i2), .val (.ref s_68), .val (.ref s_73), .val (.ref b77), .val (.ref b81), .unset, .unset, .unset, .unset, .unset, .unset, .unset] [(.int d0), (.int ((p0 &&& (255 : Int32)).toUInt32.toUInt16.toUInt32.toInt32))])) _
    by_cases hc154_91 : ((p0 &&& (255 : Int32)).toUInt32.toUInt16.toUInt32.toInt32) = d0
    ·refine own_go (fun _ k => XS.icmpNo X83.here hx rfl (hb hby at_154) rfl (teq hc154_91).2 (XS.iload X83.here hx rfl (hb hby at_157) rfl (XS.iconst X83.here hx rfl (hb hby at_159) (XS.icmpYes X83.here hx rfl (pc0 := 160) (pc' := 170) rfl (hb hby at_160) rfl (teq (by decide : (1 : Int32) = (1 : Int32))).1 (by decide) (by decide) (XS.iconst X83.here hx rfl (hb hby at_170) (XS.goto X83.here hx rfl (pc0 := 171) (pc' := 175) rfl (hb hby at_171) (by decide) (by decide) (XS.istore X83.here hx rfl (hb hby at_175) rfl (l' := #[.val (.int p0), .val (.int p1), .val (.int p2), .val (.int p3), .val (.int p4), .val (.int 1), .val (.int 1), .val (.int ((p0 &&& (255 : Int32)).toUInt32.toUInt16.toUInt32.toInt32)), .val (.int ((((p0.toUInt32 >>> ((8 : Int32) &&& 31).toUInt32).toInt32) &&& (255 : Int32)).toUInt32.toUInt16.toUInt32.toInt32)), .val (.int d0), .val (.int d1), .val (.int i1), .val (.int i2), .val (.ref s_68), .val (.ref s_73), .val (.ref b77), .val (.ref b81), .val (.int 1), .unset, .unset, .unset, .unset, .unset, .unset]) rfl (XS.iload X83.here hx rfl (hb hby at_177) rfl (XS.ifNo X83.here hx rfl (hb hby at_179) rfl ((if0 _ _).trans (feq (by decide : ¬ ((1 : Int32) = (0 : Int32)))).1) (XS.iload X83.here hx rfl (hb hby at_182) rfl k)))))))))) ?_
     show own_Fin p e below (T83.setTop (mkF m 184 #[.val (.int p0), .val (.int p1), .val (.int p2), .val (.int p3), .val (.int p4), .val (.int 1), .val (.int 1), .val (.int ((p0 &&& (255 : Int32)).toUInt32.toUInt16.toUInt32.toInt32)), .val (.int ((((p0.toUInt32 >>> ((8 : Int32) &&& 31).toUInt32).toInt32) &&& (255 : Int32)).toUInt32.toUInt16.toUInt32.toInt32)), .val (.int d0), .val (.int d1), .val (.int i1), .val (.int i2), .val (.ref s_68), .val (.ref s_73), .val (.ref b77), .val (.ref b81), .val (.int 1), .unset, .unset, .unset, .unset, .unset, .unset] [(.int i1)])) _
     refine own_go (fun _ k => XS.iload X83.here hx rfl (hb hby at_184) rfl k) ?_
     show own_Fin p e below (T83.setTop (mkF m 186 #[.val (.int p0), .val (.int p1), .val (.int p2), .val (.int p3), .val (.int p4), .val (.int 1), .val (.int 1), .val (.int ((p0 &&& (255 : Int32)).toUInt32.toUInt16.toUInt32.toInt32)), .val (.int ((((p0.toUInt32 >>> ((8 : Int32) &&& 31).toUInt32).toInt32) &&& (255 : Int32)).toUInt32.toUInt16.toUInt32.toInt32)), .val (.int d0), .val (.int d1), .val (.int i1), .val (.int i2), .val (.ref s_68), .val (.ref s_73), .val (.ref b77), .val (.ref b81), .val (.int 1), .unset, .unset, .unset, .unset, .unset, .unset] [(.int i2), (.int i1)])) _
     by_cases hc186_92 : i1 = i2
     ·refine own_go (fun _ k => XS.icmpNo X83.here hx rfl (hb hby at_186) rfl (teq hc186_92).2 (XS.iconst X83.here hx rfl (hb hby at_189) (XS.goto X83.here hx rfl (pc0 := 190) (pc' := 194) rfl (hb hby at_190) (by decide) (by decide) (XS.istore X83.here hx rfl (hb hby at_194) rfl (l' := #[.val (.int p0), .val (.int p1), .val (.int p2), .val (.int p3), .val (.int p4), .val (.int 1), .val (.int 1), .val (.int ((p0 &&& (255 : Int32)).toUInt32.toUInt16.toUInt32.toInt32)), .val (.int ((((p0.toUInt32 >>> ((8 : Int32) &&& 31).toUInt32).toInt32) &&& (255 : Int32)).toUInt32.toUInt16.toUInt32.toInt32)), .val (.int d0), .val (.int d1), .val (.int i1), .val (.int i2), .val (.ref s_68), .val (.ref s_73), .val (.ref b77), .val (.ref b81), .val (.int 1), .val (.int 1), .unset, .unset, .unset, .unset, .unset]) rfl k)))) ?_
      show own_Fin p e below (T83.setTop (mkF m 196 #[.val (.int p0), .val (.int p1), .val (.int p2), .val (.int p3), .val (.int p4), .val (.int 1), .val (.int 1), .val (.int ((p0 &&& (255 : Int32)).toUInt32.toUInt16.toUInt32.toInt32)), .val (.int ((((p0.toUInt32 >>> ((8 : Int32) &&& 31).toUInt32).toInt32) &&& (255 : Int32)).toUInt32.toUInt16.toUInt32.toInt32)), .val (.int d0), .val (.int d1), .val (.int i1), .val (.int i2), .val (.ref s_68), .val (.ref s_73), .val (.ref b77), .val (.ref b81), .val (.int 1), .val (.int 1), .unset, .unset, .unset, .unset, .unset] [])) _
      exact j2 (1 : Int32) (1 : Int32) (by first | (simp only [own_bi, own_narid (own_255 _), own_narid hd0, own_narid hd1, hc154_91, hc186_92, List.cons.injEq, and_true, true_and, and_self, and_false, false_and, ↓reduceIte]; done) | simp [own_bi, own_narid (own_255 _), own_narid hd0, own_narid hd1, hc154_91, hc186_92])
     ·refine own_go (fun _ k => XS.icmpYes X83.here hx rfl (pc0 := 186) (pc' := 193) rfl (hb hby at_186) rfl (feq hc186_92).2 (by decide) (by decide) (XS.iconst X83.here hx rfl (hb hby at_193) (XS.istore X83.here hx rfl (hb hby at_194) rfl (l' := #[.val (.int p0), .val (.int p1), .val (.int p2), .val (.int p3), .val (.int p4), .val (.int 1), .val (.int 1), .val (.int ((p0 &&& (255 : Int32)).toUInt32.toUInt16.toUInt32.toInt32)), .val (.int ((((p0.toUInt32 >>> ((8 : Int32) &&& 31).toUInt32).toInt32) &&& (255 : Int32)).toUInt32.toUInt16.toUInt32.toInt32)), .val (.int d0), .val (.int d1), .val (.int i1), .val (.int i2), .val (.ref s_68), .val (.ref s_73), .val (.ref b77), .val (.ref b81), .val (.int 1), .val (.int 0), .unset, .unset, .unset, .unset, .unset]) rfl k))) ?_
      show own_Fin p e below (T83.setTop (mkF m 196 #[.val (.int p0), .val (.int p1), .val (.int p2), .val (.int p3), .val (.int p4), .val (.int 1), .val (.int 1), .val (.int ((p0 &&& (255 : Int32)).toUInt32.toUInt16.toUInt32.toInt32)), .val (.int ((((p0.toUInt32 >>> ((8 : Int32) &&& 31).toUInt32).toInt32) &&& (255 : Int32)).toUInt32.toUInt16.toUInt32.toInt32)), .val (.int d0), .val (.int d1), .val (.int i1), .val (.int i2), .val (.ref s_68), .val (.ref s_73), .val (.ref b77), .val (.ref b81), .val (.int 1), .val (.int 0), .unset, .unset, .unset, .unset, .unset] [])) _
      exact j2 (1 : Int32) (0 : Int32) (by first | (simp only [own_bi, own_narid (own_255 _), own_narid hd0, own_narid hd1, hc154_91, hc186_92, List.cons.injEq, and_true, true_and, and_self, and_false, false_and, ↓reduceIte]; done) | simp [own_bi, own_narid (own_255 _), own_narid hd0, own_narid hd1, hc154_91, hc186_92])
    ·refine own_go (fun _ k => XS.icmpYes X83.here hx rfl (pc0 := 154) (pc' := 174) rfl (hb hby at_154) rfl (feq hc154_91).2 (by decide) (by decide) (XS.iconst X83.here hx rfl (hb hby at_174) (XS.istore X83.here hx rfl (hb hby at_175) rfl (l' := #[.val (.int p0), .val (.int p1), .val (.int p2), .val (.int p3), .val (.int p4), .val (.int 1), .val (.int 1), .val (.int ((p0 &&& (255 : Int32)).toUInt32.toUInt16.toUInt32.toInt32)), .val (.int ((((p0.toUInt32 >>> ((8 : Int32) &&& 31).toUInt32).toInt32) &&& (255 : Int32)).toUInt32.toUInt16.toUInt32.toInt32)), .val (.int d0), .val (.int d1), .val (.int i1), .val (.int i2), .val (.ref s_68), .val (.ref s_73), .val (.ref b77), .val (.ref b81), .val (.int 0), .unset, .unset, .unset, .unset, .unset, .unset]) rfl (XS.iload X83.here hx rfl (hb hby at_177) rfl (XS.ifYes X83.here hx rfl (pc0 := 179) (pc' := 193) rfl (hb hby at_179) rfl ((if0 _ _).trans (teq (by decide : (0 : Int32) = (0 : Int32))).1) (by decide) (by decide) (XS.iconst X83.here hx rfl (hb hby at_193) (XS.istore X83.here hx rfl (hb hby at_194) rfl (l' := #[.val (.int p0), .val (.int p1), .val (.int p2), .val (.int p3), .val (.int p4), .val (.int 1), .val (.int 1), .val (.int ((p0 &&& (255 : Int32)).toUInt32.toUInt16.toUInt32.toInt32)), .val (.int ((((p0.toUInt32 >>> ((8 : Int32) &&& 31).toUInt32).toInt32) &&& (255 : Int32)).toUInt32.toUInt16.toUInt32.toInt32)), .val (.int d0), .val (.int d1), .val (.int i1), .val (.int i2), .val (.ref s_68), .val (.ref s_73), .val (.ref b77), .val (.ref b81), .val (.int 0), .val (.int 0), .unset, .unset, .unset, .unset, .unset]) rfl k))))))) ?_
     show own_Fin p e below (T83.setTop (mkF m 196 #[.val (.int p0), .val (.int p1), .val (.int p2), .val (.int p3), .val (.int p4), .val (.int 1), .val (.int 1), .val (.int ((p0 &&& (255 : Int32)).toUInt32.toUInt16.toUInt32.toInt32)), .val (.int ((((p0.toUInt32 >>> ((8 : Int32) &&& 31).toUInt32).toInt32) &&& (255 : Int32)).toUInt32.toUInt16.toUInt32.toInt32)), .val (.int d0), .val (.int d1), .val (.int i1), .val (.int i2), .val (.ref s_68), .val (.ref s_73), .val (.ref b77), .val (.ref b81), .val (.int 0), .val (.int 0), .unset, .unset, .unset, .unset, .unset] [])) _
     exact j2 (0 : Int32) (0 : Int32) (by first | (simp only [own_bi, own_narid (own_255 _), own_narid hd0, own_narid hd1, hc154_91, List.cons.injEq, and_true, true_and, and_self, and_false, false_and, ↓reduceIte]; done) | simp [own_bi, own_narid (own_255 _), own_narid hd0, own_narid hd1, hc154_91])
   ·show own_Fin p e below (s₁.setTop (mkF m 97 #[.val (.int p0), .val (.int p1), .val (.int p2), .val (.int p3), .val (.int p4), .val (.int 1), .val (.int 2), .val (.int ((p0 &&& (255 : Int32)).toUInt32.toUInt16.toUInt32.toInt32)), .val (.int ((((p0.toUInt32 >>> ((8 : Int32) &&& 31).toUInt32).toInt32) &&& (255 : Int32)).toUInt32.toUInt16.toUInt32.toInt32)), .val (.int d0), .val (.int d1), .val (.int i1), .val (.int i2), .unset, .unset, .unset, .unset, .unset, .unset, .unset, .unset, .unset, .unset, .unset] [(.int 1)])) _
    refine own_go (fun _ k => XS.iload X0.here hx rfl (hb hby at_97) rfl (XS.iload X0.here hx rfl (hb hby at_99) rfl k)) ?_
    show own_Fin p e below (s₁.setTop (mkF m 101 #[.val (.int p0), .val (.int p1), .val (.int p2), .val (.int p3), .val (.int p4), .val (.int 1), .val (.int 2), .val (.int ((p0 &&& (255 : Int32)).toUInt32.toUInt16.toUInt32.toInt32)), .val (.int ((((p0.toUInt32 >>> ((8 : Int32) &&& 31).toUInt32).toInt32) &&& (255 : Int32)).toUInt32.toUInt16.toUInt32.toInt32)), .val (.int d0), .val (.int d1), .val (.int i1), .val (.int i2), .unset, .unset, .unset, .unset, .unset, .unset, .unset, .unset, .unset, .unset, .unset] [(.int ((((p0.toUInt32 >>> ((8 : Int32) &&& 31).toUInt32).toInt32) &&& (255 : Int32)).toUInt32.toUInt16.toUInt32.toInt32)), (.int ((p0 &&& (255 : Int32)).toUInt32.toUInt16.toUInt32.toInt32)), (.int 1)])) _
    obtain ⟨_, _, ⟨T93, L93, k93, n93⟩, -, X93, ⟨Lc93, hQ93, l93, y93, z93⟩, st93⟩ := Jvm.LawKit.callS X0 hx (y := (⟨"com/example/lokahi/lokahi/UnitEqualsPinLaw", "mk", "(ICC)Ljava/lang/String;"⟩ : MethodName)) hown (mvT hZ (ow hw 1)) (mvT hZ (ow hw 2)) (mvT hZ (ow hw 3)) (mvT hZ (ow hw 4)) (by decide) (backOf (W := 0) (rmk1 l Z a0 hw [] (1 : Int32) ((p0 &&& (255 : Int32)).toUInt32.toUInt16.toUInt32.toInt32) ((((p0.toUInt32 >>> ((8 : Int32) &&& 31).toUInt32).toInt32) &&& (255 : Int32)).toUInt32.toUInt16.toUInt32.toInt32) z h0 n0 O S_String_COMPACT_STRINGS hz (by decide) (own_255 _) (own_255 _)) hZ (ow hw 4) (ow hw 3) (by decide) (by decide)) (g := (mkF m 101 #[.val (.int p0), .val (.int p1), .val (.int p2), .val (.int p3), .val (.int p4), .val (.int 1), .val (.int 2), .val (.int ((p0 &&& (255 : Int32)).toUInt32.toUInt16.toUInt32.toInt32)), .val (.int ((((p0.toUInt32 >>> ((8 : Int32) &&& 31).toUInt32).toInt32) &&& (255 : Int32)).toUInt32.toUInt16.toUInt32.toInt32)), .val (.int d0), .val (.int d1), .val (.int i1), .val (.int i2), .unset, .unset, .unset, .unset, .unset, .unset, .unset, .unset, .unset, .unset, .unset] [(.int ((((p0.toUInt32 >>> ((8 : Int32) &&& 31).toUInt32).toInt32) &&& (255 : Int32)).toUInt32.toUInt16.toUInt32.toInt32)), (.int ((p0 &&& (255 : Int32)).toUInt32.toUInt16.toUInt32.toInt32)), (.int 1)])) rfl (by rw [hml]; rfl) (argsL := [(.int 1), (.int ((p0 &&& (255 : Int32)).toUInt32.toUInt16.toUInt32.toInt32)), (.int ((((p0.toUInt32 >>> ((8 : Int32) &&& 31).toUInt32).toInt32) &&& (255 : Int32)).toUInt32.toUInt16.toUInt32.toInt32))]) (rest := []) (lenOf pd_4 rfl) rfl (by show 2 * 0 + _ ≤ _; exact Nat.le_of_eq rfl) (hb hby at_101) (fun _ _ => ⟨rfl, e0, (by decide : 0 + 3 ≤ _), (by decide : 0 + 6 ≤ _)⟩)
    dsimp only [Pt.U, Pt.locs, Pt.cells, Pt.slots] at X93 l93 y93 z93 st93 hQ93
    subst l93 y93 z93
    obtain ⟨s_94, t_95, kb_96, rfl, N93q, Kq93, P93_0, P93_1, P93_2, P93_3, P93_4, P93_5, P93_6⟩ := hQ93
    refine own_go (fun _ k => st93 _ k) ?_
    have N93 := Fr.app N0 N93q
    have g_s_94 : n0 ≤ s_94 := Nat.le_trans (own_osz O) P93_0
    have sz_s_94 : h0.size ≤ s_94 := Nat.le_trans K0.1 P93_0
    have g_t_95 : n0 ≤ t_95 := Nat.le_trans (own_osz O) P93_1
    have sz_t_95 : h0.size ≤ t_95 := Nat.le_trans K0.1 P93_1
    have O := O.keep Kq93 all0
    have K97 := K0.trans Kq93 all0
    have hk := Nat.le_trans hk Kq93.1
    have E_s_94 := P93_3
    have F_s_94_String_coder := P93_4
    have F_s_94_String_value := P93_5
    have V_t_95 := P93_6
    show own_Fin p e below (T93.setTop (mkF m 104 #[.val (.int p0), .val (.int p1), .val (.int p2), .val (.int p3), .val (.int p4), .val (.int 1), .val (.int 2), .val (.int ((p0 &&& (255 : Int32)).toUInt32.toUInt16.toUInt32.toInt32)), .val (.int ((((p0.toUInt32 >>> ((8 : Int32) &&& 31).toUInt32).toInt32) &&& (255 : Int32)).toUInt32.toUInt16.toUInt32.toInt32)), .val (.int d0), .val (.int d1), .val (.int i1), .val (.int i2), .unset, .unset, .unset, .unset, .unset, .unset, .unset, .unset, .unset, .unset, .unset] [(.ref s_94)])) _
    refine own_go (fun _ k => XS.astore X93.here hx rfl (hb hby at_104) rfl rfl (l' := #[.val (.int p0), .val (.int p1), .val (.int p2), .val (.int p3), .val (.int p4), .val (.int 1), .val (.int 2), .val (.int ((p0 &&& (255 : Int32)).toUInt32.toUInt16.toUInt32.toInt32)), .val (.int ((((p0.toUInt32 >>> ((8 : Int32) &&& 31).toUInt32).toInt32) &&& (255 : Int32)).toUInt32.toUInt16.toUInt32.toInt32)), .val (.int d0), .val (.int d1), .val (.int i1), .val (.int i2), .val (.ref s_94), .unset, .unset, .unset, .unset, .unset, .unset, .unset, .unset, .unset, .unset]) rfl (XS.iload X93.here hx rfl (hb hby at_106) rfl (XS.iload X93.here hx rfl (hb hby at_108) rfl (XS.iload X93.here hx rfl (hb hby at_110) rfl k)))) ?_
    show own_Fin p e below (T93.setTop (mkF m 112 #[.val (.int p0), .val (.int p1), .val (.int p2), .val (.int p3), .val (.int p4), .val (.int 1), .val (.int 2), .val (.int ((p0 &&& (255 : Int32)).toUInt32.toUInt16.toUInt32.toInt32)), .val (.int ((((p0.toUInt32 >>> ((8 : Int32) &&& 31).toUInt32).toInt32) &&& (255 : Int32)).toUInt32.toUInt16.toUInt32.toInt32)), .val (.int d0), .val (.int d1), .val (.int i1), .val (.int i2), .val (.ref s_94), .unset, .unset, .unset, .unset, .unset, .unset, .unset, .unset, .unset, .unset] [(.int d1), (.int d0), (.int 2)])) _
    obtain ⟨_, _, ⟨T98, L98, k98, n98⟩, -, X98, ⟨Lc98, hQ98, l98, y98, z98⟩, st98⟩ := Jvm.LawKit.callS X93 hx (y := (⟨"com/example/lokahi/lokahi/UnitEqualsPinLaw", "mk", "(ICC)Ljava/lang/String;"⟩ : MethodName)) hown (mvT hZ (ow hw 1)) (mvT hZ (ow hw 2)) (mvT hZ (ow hw 3)) (mvT hZ (ow hw 4)) (by decide) (backOf (W := 0) (rmk2 l Z a0 hw [] (2 : Int32) d0 d1 z (T93.heap) n0 O S_String_COMPACT_STRINGS hz (by decide) hd0 hd1) hZ (ow hw 4) (ow hw 3) (by decide) (by decide)) (g := (mkF m 112 #[.val (.int p0), .val (.int p1), .val (.int p2), .val (.int p3), .val (.int p4), .val (.int 1), .val (.int 2), .val (.int ((p0 &&& (255 : Int32)).toUInt32.toUInt16.toUInt32.toInt32)), .val (.int ((((p0.toUInt32 >>> ((8 : Int32) &&& 31).toUInt32).toInt32) &&& (255 : Int32)).toUInt32.toUInt16.toUInt32.toInt32)), .val (.int d0), .val (.int d1), .val (.int i1), .val (.int i2), .val (.ref s_94), .unset, .unset, .unset, .unset, .unset, .unset, .unset, .unset, .unset, .unset] [(.int d1), (.int d0), (.int 2)])) rfl (by rw [hml]; rfl) (argsL := [(.int 2), (.int d0), (.int d1)]) (rest := []) (lenOf pd_4 rfl) rfl (by show 2 * 0 + _ ≤ _; exact Nat.le_of_eq rfl) (hb hby at_112) (fun _ _ => ⟨rfl, rfl, (by decide : 3 + 3 ≤ _), (by decide : 6 + 8 ≤ _)⟩)
    dsimp only [Pt.U, Pt.locs, Pt.cells, Pt.slots] at X98 l98 y98 z98 st98 hQ98
    subst l98 y98 z98
    obtain ⟨s_99, t_100, kb_101, rfl, N98q, Kq98, P98_0, P98_1, P98_2, P98_3, P98_4, P98_5, P98_6⟩ := hQ98
    refine own_go (fun _ k => st98 _ k) ?_
    have N98 := Fr.app N93 N98q
    have ne_s_94_s_99 : s_94 ≠ s_99 := Nat.ne_of_lt (Nat.lt_of_lt_of_le E_s_94.lt P98_0)
    have ne_t_95_s_99 : t_95 ≠ s_99 := Nat.ne_of_lt (Nat.lt_of_lt_of_le V_t_95.lt P98_0)
    have g_s_99 : n0 ≤ s_99 := Nat.le_trans (own_osz O) P98_0
    have sz_s_99 : h0.size ≤ s_99 := Nat.le_trans K97.1 P98_0
    have ne_s_94_t_100 : s_94 ≠ t_100 := Nat.ne_of_lt (Nat.lt_of_lt_of_le E_s_94.lt P98_1)
    have ne_t_95_t_100 : t_95 ≠ t_100 := Nat.ne_of_lt (Nat.lt_of_lt_of_le V_t_95.lt P98_1)
    have g_t_100 : n0 ≤ t_100 := Nat.le_trans (own_osz O) P98_1
    have sz_t_100 : h0.size ≤ t_100 := Nat.le_trans K97.1 P98_1
    have E_s_94 := E_s_94.keep Kq98
    have F_s_94_String_coder := F_s_94_String_coder.keep Kq98 nin0
    have F_s_94_String_value := F_s_94_String_value.keep Kq98 nin0
    have V_t_95 := V_t_95.keep Kq98 nin0
    have O := O.keep Kq98 all0
    have K102 := K97.trans Kq98 all0
    have hk := Nat.le_trans hk Kq98.1
    have E_s_99 := P98_3
    have F_s_99_String_coder := P98_4
    have F_s_99_String_value := P98_5
    have V_t_100 := P98_6
    show own_Fin p e below (T98.setTop (mkF m 115 #[.val (.int p0), .val (.int p1), .val (.int p2), .val (.int p3), .val (.int p4), .val (.int 1), .val (.int 2), .val (.int ((p0 &&& (255 : Int32)).toUInt32.toUInt16.toUInt32.toInt32)), .val (.int ((((p0.toUInt32 >>> ((8 : Int32) &&& 31).toUInt32).toInt32) &&& (255 : Int32)).toUInt32.toUInt16.toUInt32.toInt32)), .val (.int d0), .val (.int d1), .val (.int i1), .val (.int i2), .val (.ref s_94), .unset, .unset, .unset, .unset, .unset, .unset, .unset, .unset, .unset, .unset] [(.ref s_99)])) _
    refine own_go (fun _ k => XS.astore X98.here hx rfl (hb hby at_115) rfl rfl (l' := #[.val (.int p0), .val (.int p1), .val (.int p2), .val (.int p3), .val (.int p4), .val (.int 1), .val (.int 2), .val (.int ((p0 &&& (255 : Int32)).toUInt32.toUInt16.toUInt32.toInt32)), .val (.int ((((p0.toUInt32 >>> ((8 : Int32) &&& 31).toUInt32).toInt32) &&& (255 : Int32)).toUInt32.toUInt16.toUInt32.toInt32)), .val (.int d0), .val (.int d1), .val (.int i1), .val (.int i2), .val (.ref s_94), .val (.ref s_99), .unset, .unset, .unset, .unset, .unset, .unset, .unset, .unset, .unset]) rfl k) ?_
    show own_Fin p e below (T98.setTop (mkF m 117 #[.val (.int p0), .val (.int p1), .val (.int p2), .val (.int p3), .val (.int p4), .val (.int 1), .val (.int 2), .val (.int ((p0 &&& (255 : Int32)).toUInt32.toUInt16.toUInt32.toInt32)), .val (.int ((((p0.toUInt32 >>> ((8 : Int32) &&& 31).toUInt32).toInt32) &&& (255 : Int32)).toUInt32.toUInt16.toUInt32.toInt32)), .val (.int d0), .val (.int d1), .val (.int i1), .val (.int i2), .val (.ref s_94), .val (.ref s_99), .unset, .unset, .unset, .unset, .unset, .unset, .unset, .unset, .unset] [])) _
    obtain ⟨T103, h103, X103, e103, E103, A103, D103, -, st103⟩ := newO X98 hx hZ hown (ow hw 35) (ow hw 36) (ow hw 37) rfl (g := (mkF m 117 #[.val (.int p0), .val (.int p1), .val (.int p2), .val (.int p3), .val (.int p4), .val (.int 1), .val (.int 2), .val (.int ((p0 &&& (255 : Int32)).toUInt32.toUInt16.toUInt32.toInt32)), .val (.int ((((p0.toUInt32 >>> ((8 : Int32) &&& 31).toUInt32).toInt32) &&& (255 : Int32)).toUInt32.toUInt16.toUInt32.toInt32)), .val (.int d0), .val (.int d1), .val (.int i1), .val (.int i2), .val (.ref s_94), .val (.ref s_99), .unset, .unset, .unset, .unset, .unset, .unset, .unset, .unset, .unset] [])) rfl (hb hby at_117) (by decide) (by decide)
    obtain ⟨b103, g103⟩ : ∃ z, z = T98.heap.size := ⟨_, rfl⟩
    rw [← g103] at A103 D103 st103
    refine own_go (fun _ k => st103 _ k) ?_
    have ne_s_94_b103 : s_94 ≠ b103 := Nat.ne_of_lt (Nat.lt_of_lt_of_le E_s_94.lt (Nat.le_of_eq g103.symm))
    have ne_t_95_b103 : t_95 ≠ b103 := Nat.ne_of_lt (Nat.lt_of_lt_of_le V_t_95.lt (Nat.le_of_eq g103.symm))
    have ne_s_99_b103 : s_99 ≠ b103 := Nat.ne_of_lt (Nat.lt_of_lt_of_le E_s_99.lt (Nat.le_of_eq g103.symm))
    have ne_t_100_b103 : t_100 ≠ b103 := Nat.ne_of_lt (Nat.lt_of_lt_of_le V_t_100.lt (Nat.le_of_eq g103.symm))
    have g_b103 : n0 ≤ b103 := Nat.le_trans (own_osz O) (Nat.le_of_eq g103.symm)
    have sz_b103 : h0.size ≤ b103 := Nat.le_trans K102.1 (Nat.le_of_eq g103.symm)
    have E_s_94 := E_s_94.ext E103
    have F_s_94_String_coder := F_s_94_String_coder.ext E103
    have F_s_94_String_value := F_s_94_String_value.ext E103
    have V_t_95 := V_t_95.ext E103
    have E_s_99 := E_s_99.ext E103
    have F_s_99_String_coder := F_s_99_String_coder.ext E103
    have F_s_99_String_value := F_s_99_String_value.ext E103
    have V_t_100 := V_t_100.ext E103
    have O := O.ext E103
    have K104 := K102.ext E103
    have hk := Nat.le_trans hk E103.1
    have E_b103 := A103
    have F_b103_Unit_set : Fld Z h103 b103 "com/example/lokahi/lokahi/Unit" "set" "Ljava/lang/String;" .null := D103 (Or.inr (ow hw 55)) (ty := (.object "java/lang/String")) (by decide)
    have F_b103_Unit_index : Fld Z h103 b103 "com/example/lokahi/lokahi/Unit" "index" "I" (.int 0) := D103 (Or.inr (ow hw 57)) (ty := .int) (by decide)
    show own_Fin p e below (T103.setTop (mkF m 120 #[.val (.int p0), .val (.int p1), .val (.int p2), .val (.int p3), .val (.int p4), .val (.int 1), .val (.int 2), .val (.int ((p0 &&& (255 : Int32)).toUInt32.toUInt16.toUInt32.toInt32)), .val (.int ((((p0.toUInt32 >>> ((8 : Int32) &&& 31).toUInt32).toInt32) &&& (255 : Int32)).toUInt32.toUInt16.toUInt32.toInt32)), .val (.int d0), .val (.int d1), .val (.int i1), .val (.int i2), .val (.ref s_94), .val (.ref s_99), .unset, .unset, .unset, .unset, .unset, .unset, .unset, .unset, .unset] [(.ref b103)])) _
    refine own_go (fun _ k => XS.dup X103.here hx rfl (hb hby at_120) rfl rfl (XS.aload X103.here hx rfl (hb hby at_121) rfl rfl (XS.iload X103.here hx rfl (hb hby at_123) rfl k))) ?_
    show own_Fin p e below (T103.setTop (mkF m 125 #[.val (.int p0), .val (.int p1), .val (.int p2), .val (.int p3), .val (.int p4), .val (.int 1), .val (.int 2), .val (.int ((p0 &&& (255 : Int32)).toUInt32.toUInt16.toUInt32.toInt32)), .val (.int ((((p0.toUInt32 >>> ((8 : Int32) &&& 31).toUInt32).toInt32) &&& (255 : Int32)).toUInt32.toUInt16.toUInt32.toInt32)), .val (.int d0), .val (.int d1), .val (.int i1), .val (.int i2), .val (.ref s_94), .val (.ref s_99), .unset, .unset, .unset, .unset, .unset, .unset, .unset, .unset, .unset] [(.int i1), (.ref s_94), (.ref b103), (.ref b103)])) _
    obtain ⟨_, _, ⟨T105, L105, k105, n105⟩, -, X105, hS105, hg105, ⟨Lc105, hQ105, l105, y105, z105⟩, st105⟩ := X103.specialBackS hx (y := (⟨"com/example/lokahi/lokahi/Unit", "<init>", "(Ljava/lang/String;I)V"⟩ : MethodName)) rfl hown (mvT hZ (ow hw 38)) (mvT hZ (ow hw 39)) (mvT hZ (ow hw 40)) (by decide) (backOfS (W := 1) (rmu1 l Z a0 hw [] b103 s_94 i1 t_95 kb_96 (((([(nar .char ((p0 &&& (255 : Int32)).toUInt32.toUInt16.toUInt32.toInt32))] : List Int32)).map (fun c => c.toInt8.toInt32)).map Value.int) h103 n0 O E_b103 F_b103_Unit_set F_b103_Unit_index g_b103 hi1 E_s_94 F_s_94_String_value V_t_95 ne_s_94_b103 ne_t_95_b103) hZ (ow hw 40) (ow hw 37) (by decide) (by decide)) (g := (mkF m 125 #[.val (.int p0), .val (.int p1), .val (.int p2), .val (.int p3), .val (.int p4), .val (.int 1), .val (.int 2), .val (.int ((p0 &&& (255 : Int32)).toUInt32.toUInt16.toUInt32.toInt32)), .val (.int ((((p0.toUInt32 >>> ((8 : Int32) &&& 31).toUInt32).toInt32) &&& (255 : Int32)).toUInt32.toUInt16.toUInt32.toInt32)), .val (.int d0), .val (.int d1), .val (.int i1), .val (.int i2), .val (.ref s_94), .val (.ref s_99), .unset, .unset, .unset, .unset, .unset, .unset, .unset, .unset, .unset] [(.int i1), (.ref s_94), (.ref b103), (.ref b103)])) rfl (by rw [hml]; rfl) (Steps.refl _) (a := b103) (argsL := [(.ref s_94), (.int i1)]) (rest := [(.ref b103)]) (lenOf pd_5 rfl) rfl (by show 2 * 0 + _ ≤ _; exact Nat.le_of_eq rfl) (hb hby at_125) (fun _ _ => ⟨rfl, e103, (by decide : 7 + 2 ≤ _), (by decide : 16 + 16 ≤ _)⟩)
    dsimp only [Pt.U, Pt.locs, Pt.cells, Pt.slots] at X105 l105 y105 z105 st105 hQ105
    subst l105 y105 z105
    obtain ⟨X105, hS, hZ, hown⟩ := rebS hS (Nat.le_trans hk (Nat.le_of_eq (congrArg Array.size e103).symm)) X105 hS105 hg105 hZ hown
    obtain ⟨rfl, N105q, Kq105, P105_0, P105_1, P105_2⟩ := hQ105
    refine own_go (fun _ k => st105.trans k) ?_
    have N105 := Fr.app N98 N105q
    have E_s_94 := E_s_94.keep Kq105
    have F_s_94_String_coder := F_s_94_String_coder.keep Kq105 (ninS ne_s_94_b103 nin0)
    have F_s_94_String_value := F_s_94_String_value.keep Kq105 (ninS ne_s_94_b103 nin0)
    have V_t_95 := V_t_95.keep Kq105 (ninS ne_t_95_b103 nin0)
    have E_s_99 := E_s_99.keep Kq105
    have F_s_99_String_coder := F_s_99_String_coder.keep Kq105 (ninS ne_s_99_b103 nin0)
    have F_s_99_String_value := F_s_99_String_value.keep Kq105 (ninS ne_s_99_b103 nin0)
    have V_t_100 := V_t_100.keep Kq105 (ninS ne_t_100_b103 nin0)
    have E_b103 := E_b103.keep Kq105
    clear F_b103_Unit_set
    clear F_b103_Unit_index
    have O := O.keep Kq105 (allS g_b103 all0)
    have K106 := K104.trans Kq105 (allS (Or.inr sz_b103) all0)
    have hk := Nat.le_refl T105.heap.size
    have E_b103 := P105_0
    have F_b103_Unit_set := P105_1
    have F_b103_Unit_index := P105_2
    show own_Fin p e below (T105.setTop (mkF m 128 #[.val (.int p0), .val (.int p1), .val (.int p2), .val (.int p3), .val (.int p4), .val (.int 1), .val (.int 2), .val (.int ((p0 &&& (255 : Int32)).toUInt32.toUInt16.toUInt32.toInt32)), .val (.int ((((p0.toUInt32 >>> ((8 : Int32) &&& 31).toUInt32).toInt32) &&& (255 : Int32)).toUInt32.toUInt16.toUInt32.toInt32)), .val (.int d0), .val (.int d1), .val (.int i1), .val (.int i2), .val (.ref s_94), .val (.ref s_99), .unset, .unset, .unset, .unset, .unset, .unset, .unset, .unset, .unset] [(.ref b103)])) _
    refine own_go (fun _ k => XS.astore X105.here hx rfl (hb hby at_128) rfl rfl (l' := #[.val (.int p0), .val (.int p1), .val (.int p2), .val (.int p3), .val (.int p4), .val (.int 1), .val (.int 2), .val (.int ((p0 &&& (255 : Int32)).toUInt32.toUInt16.toUInt32.toInt32)), .val (.int ((((p0.toUInt32 >>> ((8 : Int32) &&& 31).toUInt32).toInt32) &&& (255 : Int32)).toUInt32.toUInt16.toUInt32.toInt32)), .val (.int d0), .val (.int d1), .val (.int i1), .val (.int i2), .val (.ref s_94), .val (.ref s_99), .val (.ref b103), .unset, .unset, .unset, .unset, .unset, .unset, .unset, .unset]) rfl k) ?_
    show own_Fin p e below (T105.setTop (mkF m 130 #[.val (.int p0), .val (.int p1), .val (.int p2), .val (.int p3), .val (.int p4), .val (.int 1), .val (.int 2), .val (.int ((p0 &&& (255 : Int32)).toUInt32.toUInt16.toUInt32.toInt32)), .val (.int ((((p0.toUInt32 >>> ((8 : Int32) &&& 31).toUInt32).toInt32) &&& (255 : Int32)).toUInt32.toUInt16.toUInt32.toInt32)), .val (.int d0), .val (.int d1), .val (.int i1), .val (.int i2), .val (.ref s_94), .val (.ref s_99), .val (.ref b103), .unset, .unset, .unset, .unset, .unset, .unset, .unset, .unset] [])) _
    obtain ⟨T107, h107, X107, e107, E107, A107, D107, -, st107⟩ := newO X105 hx hZ hown (ow hw 35) (ow hw 36) (ow hw 37) rfl (g := (mkF m 130 #[.val (.int p0), .val (.int p1), .val (.int p2), .val (.int p3), .val (.int p4), .val (.int 1), .val (.int 2), .val (.int ((p0 &&& (255 : Int32)).toUInt32.toUInt16.toUInt32.toInt32)), .val (.int ((((p0.toUInt32 >>> ((8 : Int32) &&& 31).toUInt32).toInt32) &&& (255 : Int32)).toUInt32.toUInt16.toUInt32.toInt32)), .val (.int d0), .val (.int d1), .val (.int i1), .val (.int i2), .val (.ref s_94), .val (.ref s_99), .val (.ref b103), .unset, .unset, .unset, .unset, .unset, .unset, .unset, .unset] [])) rfl (hb hby at_130) (by decide) (by decide)
    obtain ⟨b107, g107⟩ : ∃ z, z = T105.heap.size := ⟨_, rfl⟩
    rw [← g107] at A107 D107 st107
    refine own_go (fun _ k => st107 _ k) ?_
    have ne_s_94_b107 : s_94 ≠ b107 := Nat.ne_of_lt (Nat.lt_of_lt_of_le E_s_94.lt (Nat.le_of_eq g107.symm))
    have ne_t_95_b107 : t_95 ≠ b107 := Nat.ne_of_lt (Nat.lt_of_lt_of_le V_t_95.lt (Nat.le_of_eq g107.symm))
    have ne_s_99_b107 : s_99 ≠ b107 := Nat.ne_of_lt (Nat.lt_of_lt_of_le E_s_99.lt (Nat.le_of_eq g107.symm))
    have ne_t_100_b107 : t_100 ≠ b107 := Nat.ne_of_lt (Nat.lt_of_lt_of_le V_t_100.lt (Nat.le_of_eq g107.symm))
    have ne_b103_b107 : b103 ≠ b107 := Nat.ne_of_lt (Nat.lt_of_lt_of_le E_b103.lt (Nat.le_of_eq g107.symm))
    have g_b107 : n0 ≤ b107 := Nat.le_trans (own_osz O) (Nat.le_of_eq g107.symm)
    have sz_b107 : h0.size ≤ b107 := Nat.le_trans K106.1 (Nat.le_of_eq g107.symm)
    have E_s_94 := E_s_94.ext E107
    have F_s_94_String_coder := F_s_94_String_coder.ext E107
    have F_s_94_String_value := F_s_94_String_value.ext E107
    have V_t_95 := V_t_95.ext E107
    have E_s_99 := E_s_99.ext E107
    have F_s_99_String_coder := F_s_99_String_coder.ext E107
    have F_s_99_String_value := F_s_99_String_value.ext E107
    have V_t_100 := V_t_100.ext E107
    have E_b103 := E_b103.ext E107
    have F_b103_Unit_set := F_b103_Unit_set.ext E107
    have F_b103_Unit_index := F_b103_Unit_index.ext E107
    have O := O.ext E107
    have K108 := K106.ext E107
    have hk := Nat.le_trans hk E107.1
    have E_b107 := A107
    have F_b107_Unit_set : Fld Z h107 b107 "com/example/lokahi/lokahi/Unit" "set" "Ljava/lang/String;" .null := D107 (Or.inr (ow hw 55)) (ty := (.object "java/lang/String")) (by decide)
    have F_b107_Unit_index : Fld Z h107 b107 "com/example/lokahi/lokahi/Unit" "index" "I" (.int 0) := D107 (Or.inr (ow hw 57)) (ty := .int) (by decide)
    show own_Fin p e below (T107.setTop (mkF m 133 #[.val (.int p0), .val (.int p1), .val (.int p2), .val (.int p3), .val (.int p4), .val (.int 1), .val (.int 2), .val (.int ((p0 &&& (255 : Int32)).toUInt32.toUInt16.toUInt32.toInt32)), .val (.int ((((p0.toUInt32 >>> ((8 : Int32) &&& 31).toUInt32).toInt32) &&& (255 : Int32)).toUInt32.toUInt16.toUInt32.toInt32)), .val (.int d0), .val (.int d1), .val (.int i1), .val (.int i2), .val (.ref s_94), .val (.ref s_99), .val (.ref b103), .unset, .unset, .unset, .unset, .unset, .unset, .unset, .unset] [(.ref b107)])) _
    refine own_go (fun _ k => XS.dup X107.here hx rfl (hb hby at_133) rfl rfl (XS.aload X107.here hx rfl (hb hby at_134) rfl rfl (XS.iload X107.here hx rfl (hb hby at_136) rfl k))) ?_
    show own_Fin p e below (T107.setTop (mkF m 138 #[.val (.int p0), .val (.int p1), .val (.int p2), .val (.int p3), .val (.int p4), .val (.int 1), .val (.int 2), .val (.int ((p0 &&& (255 : Int32)).toUInt32.toUInt16.toUInt32.toInt32)), .val (.int ((((p0.toUInt32 >>> ((8 : Int32) &&& 31).toUInt32).toInt32) &&& (255 : Int32)).toUInt32.toUInt16.toUInt32.toInt32)), .val (.int d0), .val (.int d1), .val (.int i1), .val (.int i2), .val (.ref s_94), .val (.ref s_99), .val (.ref b103), .unset, .unset, .unset, .unset, .unset, .unset, .unset, .unset] [(.int i2), (.ref s_99), (.ref b107), (.ref b107)])) _
    obtain ⟨_, _, ⟨T109, L109, k109, n109⟩, -, X109, hS109, hg109, ⟨Lc109, hQ109, l109, y109, z109⟩, st109⟩ := X107.specialBackS hx (y := (⟨"com/example/lokahi/lokahi/Unit", "<init>", "(Ljava/lang/String;I)V"⟩ : MethodName)) rfl hown (mvT hZ (ow hw 38)) (mvT hZ (ow hw 39)) (mvT hZ (ow hw 40)) (by decide) (backOfS (W := 1) (rmu2 l Z a0 hw [] b107 s_99 i2 t_100 kb_101 (((([(nar .char d0), (nar .char d1)] : List Int32)).map (fun c => c.toInt8.toInt32)).map Value.int) h107 n0 O E_b107 F_b107_Unit_set F_b107_Unit_index g_b107 hi2 E_s_99 F_s_99_String_value V_t_100 ne_s_99_b107 ne_t_100_b107) hZ (ow hw 40) (ow hw 37) (by decide) (by decide)) (g := (mkF m 138 #[.val (.int p0), .val (.int p1), .val (.int p2), .val (.int p3), .val (.int p4), .val (.int 1), .val (.int 2), .val (.int ((p0 &&& (255 : Int32)).toUInt32.toUInt16.toUInt32.toInt32)), .val (.int ((((p0.toUInt32 >>> ((8 : Int32) &&& 31).toUInt32).toInt32) &&& (255 : Int32)).toUInt32.toUInt16.toUInt32.toInt32)), .val (.int d0), .val (.int d1), .val (.int i1), .val (.int i2), .val (.ref s_94), .val (.ref s_99), .val (.ref b103), .unset, .unset, .unset, .unset, .unset, .unset, .unset, .unset] [(.int i2), (.ref s_99), (.ref b107), (.ref b107)])) rfl (by rw [hml]; rfl) (Steps.refl _) (a := b107) (argsL := [(.ref s_99), (.int i2)]) (rest := [(.ref b107)]) (lenOf pd_5 rfl) rfl (by show 2 * 0 + _ ≤ _; exact Nat.le_of_eq rfl) (hb hby at_138) (fun _ _ => ⟨rfl, e107, (by decide : 10 + 2 ≤ _), (by decide : 34 + 16 ≤ _)⟩)
    dsimp only [Pt.U, Pt.locs, Pt.cells, Pt.slots] at X109 l109 y109 z109 st109 hQ109
    subst l109 y109 z109
    obtain ⟨X109, hS, hZ, hown⟩ := rebS hS (Nat.le_trans hk (Nat.le_of_eq (congrArg Array.size e107).symm)) X109 hS109 hg109 hZ hown
    obtain ⟨rfl, N109q, Kq109, P109_0, P109_1, P109_2⟩ := hQ109
    refine own_go (fun _ k => st109.trans k) ?_
    have N109 := Fr.app N105 N109q
    have E_s_94 := E_s_94.keep Kq109
    have F_s_94_String_coder := F_s_94_String_coder.keep Kq109 (ninS ne_s_94_b107 nin0)
    have F_s_94_String_value := F_s_94_String_value.keep Kq109 (ninS ne_s_94_b107 nin0)
    have V_t_95 := V_t_95.keep Kq109 (ninS ne_t_95_b107 nin0)
    have E_s_99 := E_s_99.keep Kq109
    have F_s_99_String_coder := F_s_99_String_coder.keep Kq109 (ninS ne_s_99_b107 nin0)
    have F_s_99_String_value := F_s_99_String_value.keep Kq109 (ninS ne_s_99_b107 nin0)
    have V_t_100 := V_t_100.keep Kq109 (ninS ne_t_100_b107 nin0)
    have E_b103 := E_b103.keep Kq109
    have F_b103_Unit_set := F_b103_Unit_set.keep Kq109 (ninS ne_b103_b107 nin0)
    have F_b103_Unit_index := F_b103_Unit_index.keep Kq109 (ninS ne_b103_b107 nin0)
    have E_b107 := E_b107.keep Kq109
    clear F_b107_Unit_set
    clear F_b107_Unit_index
    have O := O.keep Kq109 (allS g_b107 all0)
    have K110 := K108.trans Kq109 (allS (Or.inr sz_b107) all0)
    have hk := Nat.le_refl T109.heap.size
    have E_b107 := P109_0
    have F_b107_Unit_set := P109_1
    have F_b107_Unit_index := P109_2
    show own_Fin p e below (T109.setTop (mkF m 141 #[.val (.int p0), .val (.int p1), .val (.int p2), .val (.int p3), .val (.int p4), .val (.int 1), .val (.int 2), .val (.int ((p0 &&& (255 : Int32)).toUInt32.toUInt16.toUInt32.toInt32)), .val (.int ((((p0.toUInt32 >>> ((8 : Int32) &&& 31).toUInt32).toInt32) &&& (255 : Int32)).toUInt32.toUInt16.toUInt32.toInt32)), .val (.int d0), .val (.int d1), .val (.int i1), .val (.int i2), .val (.ref s_94), .val (.ref s_99), .val (.ref b103), .unset, .unset, .unset, .unset, .unset, .unset, .unset, .unset] [(.ref b107)])) _
    refine own_go (fun _ k => XS.astore X109.here hx rfl (hb hby at_141) rfl rfl (l' := #[.val (.int p0), .val (.int p1), .val (.int p2), .val (.int p3), .val (.int p4), .val (.int 1), .val (.int 2), .val (.int ((p0 &&& (255 : Int32)).toUInt32.toUInt16.toUInt32.toInt32)), .val (.int ((((p0.toUInt32 >>> ((8 : Int32) &&& 31).toUInt32).toInt32) &&& (255 : Int32)).toUInt32.toUInt16.toUInt32.toInt32)), .val (.int d0), .val (.int d1), .val (.int i1), .val (.int i2), .val (.ref s_94), .val (.ref s_99), .val (.ref b103), .val (.ref b107), .unset, .unset, .unset, .unset, .unset, .unset, .unset]) rfl k) ?_
    show own_Fin p e below (T109.setTop (mkF m 143 #[.val (.int p0), .val (.int p1), .val (.int p2), .val (.int p3), .val (.int p4), .val (.int 1), .val (.int 2), .val (.int ((p0 &&& (255 : Int32)).toUInt32.toUInt16.toUInt32.toInt32)), .val (.int ((((p0.toUInt32 >>> ((8 : Int32) &&& 31).toUInt32).toInt32) &&& (255 : Int32)).toUInt32.toUInt16.toUInt32.toInt32)), .val (.int d0), .val (.int d1), .val (.int i1), .val (.int i2), .val (.ref s_94), .val (.ref s_99), .val (.ref b103), .val (.ref b107), .unset, .unset, .unset, .unset, .unset, .unset, .unset] [])) _
    have j2 : ∀ (f17 : Int32) (ex : Int32), ex = own_bi (i1 = i2 ∧ ([(nar .char ((p0 &&& (255 : Int32)).toUInt32.toUInt16.toUInt32.toInt32))] : List Int32) = ([(nar .char d0), (nar .char d1)] : List Int32)) → own_Fin p e below (T109.setTop (mkF m 196 #[.val (.int p0), .val (.int p1), .val (.int p2), .val (.int p3), .val (.int p4), .val (.int 1), .val (.int 2), .val (.int ((p0 &&& (255 : Int32)).toUInt32.toUInt16.toUInt32.toInt32)), .val (.int ((((p0.toUInt32 >>> ((8 : Int32) &&& 31).toUInt32).toInt32) &&& (255 : Int32)).toUInt32.toUInt16.toUInt32.toInt32)), .val (.int d0), .val (.int d1), .val (.int i1), .val (.int i2), .val (.ref s_94), .val (.ref s_99), .val (.ref b103), .val (.ref b107), .val (.int f17), .val (.int ex), .unset, .unset, .unset, .unset, .unset] [])) (fun o' t' => ∃ v' L', o' = .returned v' ∧ Qrm0 Z p0 p1 p2 p3 p4 z h0 n0 v' t'.heap L' ∧ ReturnedEndW s o' t' L' 12 52) := by
     intro f17 ex hex
     show own_Fin p e below (T109.setTop (mkF m 196 #[.val (.int p0), .val (.int p1), .val (.int p2), .val (.int p3), .val (.int p4), .val (.int 1), .val (.int 2), .val (.int ((p0 &&& (255 : Int32)).toUInt32.toUInt16.toUInt32.toInt32)), .val (.int ((((p0.toUInt32 >>> ((8 : Int32) &&& 31).toUInt32).toInt32) &&& (255 : Int32)).toUInt32.toUInt16.toUInt32.toInt32)), .val (.int d0), .val (.int d1), .val (.int i1), .val (.int i2), .val (.ref s_94), .val (.ref s_99), .val (.ref b103), .val (.ref b107), .val (.int f17), .val (.int ex), .unset, .unset, .unset, .unset, .unset] [])) _
     refine own_go (fun _ k => XS.aload X109.here hx rfl (hb hby at_196) rfl rfl (XS.aload X109.here hx rfl (hb hby at_198) rfl rfl k)) ?_
     show own_Fin p e below (T109.setTop (mkF m 200 #[.val (.int p0), .val (.int p1), .val (.int p2), .val (.int p3), .val (.int p4), .val (.int 1), .val (.int 2), .val (.int ((p0 &&& (255 : Int32)).toUInt32.toUInt16.toUInt32.toInt32)), .val (.int ((((p0.toUInt32 >>> ((8 : Int32) &&& 31).toUInt32).toInt32) &&& (255 : Int32)).toUInt32.toUInt16.toUInt32.toInt32)), .val (.int d0), .val (.int d1), .val (.int i1), .val (.int i2), .val (.ref s_94), .val (.ref s_99), .val (.ref b103), .val (.ref b107), .val (.int f17), .val (.int ex), .unset, .unset, .unset, .unset, .unset] [(.ref b107), (.ref b103)])) _
     obtain ⟨cq111, kq111, q111a, q111b, q111c⟩ := isOf hZ rfl E_b103
     obtain ⟨_, _, ⟨T111, L111, k111, n111⟩, -, X111, ⟨Lc111, hQ111, l111, y111, z111⟩, st111⟩ := X109.virtualBack hx (y := (⟨"com/example/lokahi/lokahi/Unit", "equals", "(Ljava/lang/Object;)Z"⟩ : MethodName)) (z := (⟨"com/example/lokahi/lokahi/Unit", "equals", "(Ljava/lang/Object;)Z"⟩ : MethodName)) hown (mvT hZ (ow hw 58)) (mvT hZ (ow hw 59)) (notFace_of_selects (args := #[]) (mvT hZ (ow hw 61))) (mvT hZ (ow hw 61)) (mvT hZ (ow hw 60)) (by decide) (backOf (W := 0) (rmeU l Z a0 hw [] b103 b107 i1 i2 s_94 t_95 kb_96 ([(nar .char ((p0 &&& (255 : Int32)).toUInt32.toUInt16.toUInt32.toInt32))] : List Int32) s_99 t_100 kb_101 ([(nar .char d0), (nar .char d1)] : List Int32) z (T109.heap) n0 O S_String_COMPACT_STRINGS hz E_b103 E_b107 F_b103_Unit_set F_b103_Unit_index F_b107_Unit_set F_b107_Unit_index E_s_94 F_s_94_String_coder F_s_94_String_value V_t_95 E_s_99 F_s_99_String_coder F_s_99_String_value V_t_100 ne_b103_b107 (own_hp1 (own_255 _)) (own_hp2 hd0 hd1) (Nat.le_of_ble_eq_true rfl) (Nat.le_of_ble_eq_true rfl)) hZ (ow hw 62) (ow hw 37) (by decide) (by decide)) q111a q111c (g := (mkF m 200 #[.val (.int p0), .val (.int p1), .val (.int p2), .val (.int p3), .val (.int p4), .val (.int 1), .val (.int 2), .val (.int ((p0 &&& (255 : Int32)).toUInt32.toUInt16.toUInt32.toInt32)), .val (.int ((((p0.toUInt32 >>> ((8 : Int32) &&& 31).toUInt32).toInt32) &&& (255 : Int32)).toUInt32.toUInt16.toUInt32.toInt32)), .val (.int d0), .val (.int d1), .val (.int i1), .val (.int i2), .val (.ref s_94), .val (.ref s_99), .val (.ref b103), .val (.ref b107), .val (.int f17), .val (.int ex), .unset, .unset, .unset, .unset, .unset] [(.ref b107), (.ref b103)])) rfl (by rw [hml]; rfl) (Steps.refl _) (argsL := [(.ref b107)]) (rest := []) (lenOf pd_3 rfl) rfl (by show 2 * 0 + _ ≤ _; exact Nat.le_of_eq rfl) (hb hby at_200) (fun _ _ => ⟨rfl, rfl, (by decide : 12 + 0 ≤ _), (by decide : 50 + 0 ≤ _)⟩)
     dsimp only [Pt.U, Pt.locs, Pt.cells, Pt.slots] at X111 l111 y111 z111 st111 hQ111
     subst l111 y111 z111
     obtain ⟨rfl, N111q, e111⟩ := hQ111
     refine own_go (fun _ k => st111.trans k) ?_
     have N111 := Fr.app N109 N111q
     show own_Fin p e below (T111.setTop (mkF m 203 #[.val (.int p0), .val (.int p1), .val (.int p2), .val (.int p3), .val (.int p4), .val (.int 1), .val (.int 2), .val (.int ((p0 &&& (255 : Int32)).toUInt32.toUInt16.toUInt32.toInt32)), .val (.int ((((p0.toUInt32 >>> ((8 : Int32) &&& 31).toUInt32).toInt32) &&& (255 : Int32)).toUInt32.toUInt16.toUInt32.toInt32)), .val (.int d0), .val (.int d1), .val (.int i1), .val (.int i2), .val (.ref s_94), .val (.ref s_99), .val (.ref b103), .val (.ref b107), .val (.int f17), .val (.int ex), .unset, .unset, .unset, .unset, .unset] [(.int (own_bi (i1 = i2 ∧ ([(nar .char ((p0 &&& (255 : Int32)).toUInt32.toUInt16.toUInt32.toInt32))] : List Int32) = ([(nar .char d0), (nar .char d1)] : List Int32))))])) _
     refine own_go (fun _ k => XS.istore X111.here hx rfl (hb hby at_203) rfl (l' := #[.val (.int p0), .val (.int p1), .val (.int p2), .val (.int p3), .val (.int p4), .val (.int 1), .val (.int 2), .val (.int ((p0 &&& (255 : Int32)).toUInt32.toUInt16.toUInt32.toInt32)), .val (.int ((((p0.toUInt32 >>> ((8 : Int32) &&& 31).toUInt32).toInt32) &&& (255 : Int32)).toUInt32.toUInt16.toUInt32.toInt32)), .val (.int d0), .val (.int d1), .val (.int i1), .val (.int i2), .val (.ref s_94), .val (.ref s_99), .val (.ref b103), .val (.ref b107), .val (.int f17), .val (.int ex), .val (.int (own_bi (i1 = i2 ∧ ([(nar .char ((p0 &&& (255 : Int32)).toUInt32.toUInt16.toUInt32.toInt32))] : List Int32) = ([(nar .char d0), (nar .char d1)] : List Int32)))), .unset, .unset, .unset, .unset]) rfl (XS.aload X111.here hx rfl (hb hby at_205) rfl rfl (XS.aload X111.here hx rfl (hb hby at_207) rfl rfl k))) ?_
     show own_Fin p e below (T111.setTop (mkF m 209 #[.val (.int p0), .val (.int p1), .val (.int p2), .val (.int p3), .val (.int p4), .val (.int 1), .val (.int 2), .val (.int ((p0 &&& (255 : Int32)).toUInt32.toUInt16.toUInt32.toInt32)), .val (.int ((((p0.toUInt32 >>> ((8 : Int32) &&& 31).toUInt32).toInt32) &&& (255 : Int32)).toUInt32.toUInt16.toUInt32.toInt32)), .val (.int d0), .val (.int d1), .val (.int i1), .val (.int i2), .val (.ref s_94), .val (.ref s_99), .val (.ref b103), .val (.ref b107), .val (.int f17), .val (.int ex), .val (.int (own_bi (i1 = i2 ∧ ([(nar .char ((p0 &&& (255 : Int32)).toUInt32.toUInt16.toUInt32.toInt32))] : List Int32) = ([(nar .char d0), (nar .char d1)] : List Int32)))), .unset, .unset, .unset, .unset] [(.ref b103), (.ref b107)])) _
     obtain ⟨cq112, kq112, q112a, q112b, q112c⟩ := isOf hZ e111 E_b107
     obtain ⟨_, _, ⟨T112, L112, k112, n112⟩, -, X112, ⟨Lc112, hQ112, l112, y112, z112⟩, st112⟩ := X111.virtualBack hx (y := (⟨"com/example/lokahi/lokahi/Unit", "equals", "(Ljava/lang/Object;)Z"⟩ : MethodName)) (z := (⟨"com/example/lokahi/lokahi/Unit", "equals", "(Ljava/lang/Object;)Z"⟩ : MethodName)) hown (mvT hZ (ow hw 58)) (mvT hZ (ow hw 59)) (notFace_of_selects (args := #[]) (mvT hZ (ow hw 61))) (mvT hZ (ow hw 61)) (mvT hZ (ow hw 60)) (by decide) (backOf (W := 0) (rmeU l Z a0 hw [] b107 b103 i2 i1 s_99 t_100 kb_101 ([(nar .char d0), (nar .char d1)] : List Int32) s_94 t_95 kb_96 ([(nar .char ((p0 &&& (255 : Int32)).toUInt32.toUInt16.toUInt32.toInt32))] : List Int32) z (T109.heap) n0 O S_String_COMPACT_STRINGS hz E_b107 E_b103 F_b107_Unit_set F_b107_Unit_index F_b103_Unit_set F_b103_Unit_index E_s_99 F_s_99_String_coder F_s_99_String_value V_t_100 E_s_94 F_s_94_String_coder F_s_94_String_value V_t_95 (Ne.symm ne_b103_b107) (own_hp2 hd0 hd1) (own_hp1 (own_255 _)) (Nat.le_of_ble_eq_true rfl) (Nat.le_of_ble_eq_true rfl)) hZ (ow hw 62) (ow hw 37) (by decide) (by decide)) q112a q112c (g := (mkF m 209 #[.val (.int p0), .val (.int p1), .val (.int p2), .val (.int p3), .val (.int p4), .val (.int 1), .val (.int 2), .val (.int ((p0 &&& (255 : Int32)).toUInt32.toUInt16.toUInt32.toInt32)), .val (.int ((((p0.toUInt32 >>> ((8 : Int32) &&& 31).toUInt32).toInt32) &&& (255 : Int32)).toUInt32.toUInt16.toUInt32.toInt32)), .val (.int d0), .val (.int d1), .val (.int i1), .val (.int i2), .val (.ref s_94), .val (.ref s_99), .val (.ref b103), .val (.ref b107), .val (.int f17), .val (.int ex), .val (.int (own_bi (i1 = i2 ∧ ([(nar .char ((p0 &&& (255 : Int32)).toUInt32.toUInt16.toUInt32.toInt32))] : List Int32) = ([(nar .char d0), (nar .char d1)] : List Int32)))), .unset, .unset, .unset, .unset] [(.ref b103), (.ref b107)])) rfl (by rw [hml]; rfl) (Steps.refl _) (argsL := [(.ref b103)]) (rest := []) (lenOf pd_3 rfl) rfl (by show 2 * 0 + _ ≤ _; exact Nat.le_of_eq rfl) (hb hby at_209) (fun _ _ => ⟨rfl, e111, (by decide : 12 + 0 ≤ _), (by decide : 50 + 0 ≤ _)⟩)
     dsimp only [Pt.U, Pt.locs, Pt.cells, Pt.slots] at X112 l112 y112 z112 st112 hQ112
     subst l112 y112 z112
     obtain ⟨rfl, N112q, e112⟩ := hQ112
     refine own_go (fun _ k => st112.trans k) ?_
     have N112 := Fr.app N111 N112q
     show own_Fin p e below (T112.setTop (mkF m 212 #[.val (.int p0), .val (.int p1), .val (.int p2), .val (.int p3), .val (.int p4), .val (.int 1), .val (.int 2), .val (.int ((p0 &&& (255 : Int32)).toUInt32.toUInt16.toUInt32.toInt32)), .val (.int ((((p0.toUInt32 >>> ((8 : Int32) &&& 31).toUInt32).toInt32) &&& (255 : Int32)).toUInt32.toUInt16.toUInt32.toInt32)), .val (.int d0), .val (.int d1), .val (.int i1), .val (.int i2), .val (.ref s_94), .val (.ref s_99), .val (.ref b103), .val (.ref b107), .val (.int f17), .val (.int ex), .val (.int (own_bi (i1 = i2 ∧ ([(nar .char ((p0 &&& (255 : Int32)).toUInt32.toUInt16.toUInt32.toInt32))] : List Int32) = ([(nar .char d0), (nar .char d1)] : List Int32)))), .unset, .unset, .unset, .unset] [(.int (own_bi (i2 = i1 ∧ ([(nar .char d0), (nar .char d1)] : List Int32) = ([(nar .char ((p0 &&& (255 : Int32)).toUInt32.toUInt16.toUInt32.toInt32))] : List Int32))))])) _
     refine own_go (fun _ k => XS.istore X112.here hx rfl (hb hby at_212) rfl (l' := #[.val (.int p0), .val (.int p1), .val (.int p2), .val (.int p3), .val (.int p4), .val (.int 1), .val (.int 2), .val (.int ((p0 &&& (255 : Int32)).toUInt32.toUInt16.toUInt32.toInt32)), .val (.int ((((p0.toUInt32 >>> ((8 : Int32) &&& 31).toUInt32).toInt32) &&& (255 : Int32)).toUInt32.toUInt16.toUInt32.toInt32)), .val (.int d0), .val (.int d1), .val (.int i1), .val (.int i2), .val (.ref s_94), .val (.ref s_99), .val (.ref b103), .val (.ref b107), .val (.int f17), .val (.int ex), .val (.int (own_bi (i1 = i2 ∧ ([(nar .char ((p0 &&& (255 : Int32)).toUInt32.toUInt16.toUInt32.toInt32))] : List Int32) = ([(nar .char d0), (nar .char d1)] : List Int32)))), .val (.int (own_bi (i2 = i1 ∧ ([(nar .char d0), (nar .char d1)] : List Int32) = ([(nar .char ((p0 &&& (255 : Int32)).toUInt32.toUInt16.toUInt32.toInt32))] : List Int32)))), .unset, .unset, .unset]) rfl (XS.aload X112.here hx rfl (hb hby at_214) rfl rfl (XS.aload X112.here hx rfl (hb hby at_216) rfl rfl k))) ?_
     show own_Fin p e below (T112.setTop (mkF m 218 #[.val (.int p0), .val (.int p1), .val (.int p2), .val (.int p3), .val (.int p4), .val (.int 1), .val (.int 2), .val (.int ((p0 &&& (255 : Int32)).toUInt32.toUInt16.toUInt32.toInt32)), .val (.int ((((p0.toUInt32 >>> ((8 : Int32) &&& 31).toUInt32).toInt32) &&& (255 : Int32)).toUInt32.toUInt16.toUInt32.toInt32)), .val (.int d0), .val (.int d1), .val (.int i1), .val (.int i2), .val (.ref s_94), .val (.ref s_99), .val (.ref b103), .val (.ref b107), .val (.int f17), .val (.int ex), .val (.int (own_bi (i1 = i2 ∧ ([(nar .char ((p0 &&& (255 : Int32)).toUInt32.toUInt16.toUInt32.toInt32))] : List Int32) = ([(nar .char d0), (nar .char d1)] : List Int32)))), .val (.int (own_bi (i2 = i1 ∧ ([(nar .char d0), (nar .char d1)] : List Int32) = ([(nar .char ((p0 &&& (255 : Int32)).toUInt32.toUInt16.toUInt32.toInt32))] : List Int32)))), .unset, .unset, .unset] [(.ref b103), (.ref b103)])) _
     obtain ⟨cq113, kq113, q113a, q113b, q113c⟩ := isOf hZ e112 E_b103
     obtain ⟨_, _, ⟨T113, L113, k113, n113⟩, -, X113, ⟨Lc113, hQ113, l113, y113, z113⟩, st113⟩ := X112.virtualBack hx (y := (⟨"com/example/lokahi/lokahi/Unit", "equals", "(Ljava/lang/Object;)Z"⟩ : MethodName)) (z := (⟨"com/example/lokahi/lokahi/Unit", "equals", "(Ljava/lang/Object;)Z"⟩ : MethodName)) hown (mvT hZ (ow hw 58)) (mvT hZ (ow hw 59)) (notFace_of_selects (args := #[]) (mvT hZ (ow hw 61))) (mvT hZ (ow hw 61)) (mvT hZ (ow hw 60)) (by decide) (backOf (W := 0) (rmeS l Z a0 hw [] b103 (T109.heap) n0 O ) hZ (ow hw 62) (ow hw 37) (by decide) (by decide)) q113a q113c (g := (mkF m 218 #[.val (.int p0), .val (.int p1), .val (.int p2), .val (.int p3), .val (.int p4), .val (.int 1), .val (.int 2), .val (.int ((p0 &&& (255 : Int32)).toUInt32.toUInt16.toUInt32.toInt32)), .val (.int ((((p0.toUInt32 >>> ((8 : Int32) &&& 31).toUInt32).toInt32) &&& (255 : Int32)).toUInt32.toUInt16.toUInt32.toInt32)), .val (.int d0), .val (.int d1), .val (.int i1), .val (.int i2), .val (.ref s_94), .val (.ref s_99), .val (.ref b103), .val (.ref b107), .val (.int f17), .val (.int ex), .val (.int (own_bi (i1 = i2 ∧ ([(nar .char ((p0 &&& (255 : Int32)).toUInt32.toUInt16.toUInt32.toInt32))] : List Int32) = ([(nar .char d0), (nar .char d1)] : List Int32)))), .val (.int (own_bi (i2 = i1 ∧ ([(nar .char d0), (nar .char d1)] : List Int32) = ([(nar .char ((p0 &&& (255 : Int32)).toUInt32.toUInt16.toUInt32.toInt32))] : List Int32)))), .unset, .unset, .unset] [(.ref b103), (.ref b103)])) rfl (by rw [hml]; rfl) (Steps.refl _) (argsL := [(.ref b103)]) (rest := []) (lenOf pd_3 rfl) rfl (by show 2 * 0 + _ ≤ _; exact Nat.le_of_eq rfl) (hb hby at_218) (fun _ _ => ⟨rfl, e112, (by decide : 12 + 0 ≤ _), (by decide : 50 + 0 ≤ _)⟩)
     dsimp only [Pt.U, Pt.locs, Pt.cells, Pt.slots] at X113 l113 y113 z113 st113 hQ113
     subst l113 y113 z113
     obtain ⟨rfl, N113q, e113⟩ := hQ113
     refine own_go (fun _ k => st113.trans k) ?_
     have N113 := Fr.app N112 N113q
     show own_Fin p e below (T113.setTop (mkF m 221 #[.val (.int p0), .val (.int p1), .val (.int p2), .val (.int p3), .val (.int p4), .val (.int 1), .val (.int 2), .val (.int ((p0 &&& (255 : Int32)).toUInt32.toUInt16.toUInt32.toInt32)), .val (.int ((((p0.toUInt32 >>> ((8 : Int32) &&& 31).toUInt32).toInt32) &&& (255 : Int32)).toUInt32.toUInt16.toUInt32.toInt32)), .val (.int d0), .val (.int d1), .val (.int i1), .val (.int i2), .val (.ref s_94), .val (.ref s_99), .val (.ref b103), .val (.ref b107), .val (.int f17), .val (.int ex), .val (.int (own_bi (i1 = i2 ∧ ([(nar .char ((p0 &&& (255 : Int32)).toUInt32.toUInt16.toUInt32.toInt32))] : List Int32) = ([(nar .char d0), (nar .char d1)] : List Int32)))), .val (.int (own_bi (i2 = i1 ∧ ([(nar .char d0), (nar .char d1)] : List Int32) = ([(nar .char ((p0 &&& (255 : Int32)).toUInt32.toUInt16.toUInt32.toInt32))] : List Int32)))), .unset, .unset, .unset] [(.int 1)])) _
     refine own_go (fun _ k => XS.istore X113.here hx rfl (hb hby at_221) rfl (l' := #[.val (.int p0), .val (.int p1), .val (.int p2), .val (.int p3), .val (.int p4), .val (.int 1), .val (.int 2), .val (.int ((p0 &&& (255 : Int32)).toUInt32.toUInt16.toUInt32.toInt32)), .val (.int ((((p0.toUInt32 >>> ((8 : Int32) &&& 31).toUInt32).toInt32) &&& (255 : Int32)).toUInt32.toUInt16.toUInt32.toInt32)), .val (.int d0), .val (.int d1), .val (.int i1), .val (.int i2), .val (.ref s_94), .val (.ref s_99), .val (.ref b103), .val (.ref b107), .val (.int f17), .val (.int ex), .val (.int (own_bi (i1 = i2 ∧ ([(nar .char ((p0 &&& (255 : Int32)).toUInt32.toUInt16.toUInt32.toInt32))] : List Int32) = ([(nar .char d0), (nar .char d1)] : List Int32)))), .val (.int (own_bi (i2 = i1 ∧ ([(nar .char d0), (nar .char d1)] : List Int32) = ([(nar .char ((p0 &&& (255 : Int32)).toUInt32.toUInt16.toUInt32.toInt32))] : List Int32)))), .val (.int 1), .unset, .unset]) rfl (XS.aload X113.here hx rfl (hb hby at_223) rfl rfl (XS.aconstNull X113.here hx rfl (hb hby at_225) k))) ?_
     show own_Fin p e below (T113.setTop (mkF m 226 #[.val (.int p0), .val (.int p1), .val (.int p2), .val (.int p3), .val (.int p4), .val (.int 1), .val (.int 2), .val (.int ((p0 &&& (255 : Int32)).toUInt32.toUInt16.toUInt32.toInt32)), .val (.int ((((p0.toUInt32 >>> ((8 : Int32) &&& 31).toUInt32).toInt32) &&& (255 : Int32)).toUInt32.toUInt16.toUInt32.toInt32)), .val (.int d0), .val (.int d1), .val (.int i1), .val (.int i2), .val (.ref s_94), .val (.ref s_99), .val (.ref b103), .val (.ref b107), .val (.int f17), .val (.int ex), .val (.int (own_bi (i1 = i2 ∧ ([(nar .char ((p0 &&& (255 : Int32)).toUInt32.toUInt16.toUInt32.toInt32))] : List Int32) = ([(nar .char d0), (nar .char d1)] : List Int32)))), .val (.int (own_bi (i2 = i1 ∧ ([(nar .char d0), (nar .char d1)] : List Int32) = ([(nar .char ((p0 &&& (255 : Int32)).toUInt32.toUInt16.toUInt32.toInt32))] : List Int32)))), .val (.int 1), .unset, .unset] [.null, (.ref b103)])) _
     obtain ⟨cq114, kq114, q114a, q114b, q114c⟩ := isOf hZ e113 E_b103
     obtain ⟨_, _, ⟨T114, L114, k114, n114⟩, -, X114, ⟨Lc114, hQ114, l114, y114, z114⟩, st114⟩ := X113.virtualBack hx (y := (⟨"com/example/lokahi/lokahi/Unit", "equals", "(Ljava/lang/Object;)Z"⟩ : MethodName)) (z := (⟨"com/example/lokahi/lokahi/Unit", "equals", "(Ljava/lang/Object;)Z"⟩ : MethodName)) hown (mvT hZ (ow hw 58)) (mvT hZ (ow hw 59)) (notFace_of_selects (args := #[]) (mvT hZ (ow hw 61))) (mvT hZ (ow hw 61)) (mvT hZ (ow hw 60)) (by decide) (backOf (W := 0) (rmeN l Z a0 hw [] b103 (T109.heap) n0 O ) hZ (ow hw 62) (ow hw 37) (by decide) (by decide)) q114a q114c (g := (mkF m 226 #[.val (.int p0), .val (.int p1), .val (.int p2), .val (.int p3), .val (.int p4), .val (.int 1), .val (.int 2), .val (.int ((p0 &&& (255 : Int32)).toUInt32.toUInt16.toUInt32.toInt32)), .val (.int ((((p0.toUInt32 >>> ((8 : Int32) &&& 31).toUInt32).toInt32) &&& (255 : Int32)).toUInt32.toUInt16.toUInt32.toInt32)), .val (.int d0), .val (.int d1), .val (.int i1), .val (.int i2), .val (.ref s_94), .val (.ref s_99), .val (.ref b103), .val (.ref b107), .val (.int f17), .val (.int ex), .val (.int (own_bi (i1 = i2 ∧ ([(nar .char ((p0 &&& (255 : Int32)).toUInt32.toUInt16.toUInt32.toInt32))] : List Int32) = ([(nar .char d0), (nar .char d1)] : List Int32)))), .val (.int (own_bi (i2 = i1 ∧ ([(nar .char d0), (nar .char d1)] : List Int32) = ([(nar .char ((p0 &&& (255 : Int32)).toUInt32.toUInt16.toUInt32.toInt32))] : List Int32)))), .val (.int 1), .unset, .unset] [.null, (.ref b103)])) rfl (by rw [hml]; rfl) (Steps.refl _) (argsL := [.null]) (rest := []) (lenOf pd_3 rfl) rfl (by show 2 * 0 + _ ≤ _; exact Nat.le_of_eq rfl) (hb hby at_226) (fun _ _ => ⟨rfl, e113, (by decide : 12 + 0 ≤ _), (by decide : 50 + 0 ≤ _)⟩)
     dsimp only [Pt.U, Pt.locs, Pt.cells, Pt.slots] at X114 l114 y114 z114 st114 hQ114
     subst l114 y114 z114
     obtain ⟨rfl, N114q, e114⟩ := hQ114
     refine own_go (fun _ k => st114.trans k) ?_
     have N114 := Fr.app N113 N114q
     show own_Fin p e below (T114.setTop (mkF m 229 #[.val (.int p0), .val (.int p1), .val (.int p2), .val (.int p3), .val (.int p4), .val (.int 1), .val (.int 2), .val (.int ((p0 &&& (255 : Int32)).toUInt32.toUInt16.toUInt32.toInt32)), .val (.int ((((p0.toUInt32 >>> ((8 : Int32) &&& 31).toUInt32).toInt32) &&& (255 : Int32)).toUInt32.toUInt16.toUInt32.toInt32)), .val (.int d0), .val (.int d1), .val (.int i1), .val (.int i2), .val (.ref s_94), .val (.ref s_99), .val (.ref b103), .val (.ref b107), .val (.int f17), .val (.int ex), .val (.int (own_bi (i1 = i2 ∧ ([(nar .char ((p0 &&& (255 : Int32)).toUInt32.toUInt16.toUInt32.toInt32))] : List Int32) = ([(nar .char d0), (nar .char d1)] : List Int32)))), .val (.int (own_bi (i2 = i1 ∧ ([(nar .char d0), (nar .char d1)] : List Int32) = ([(nar .char ((p0 &&& (255 : Int32)).toUInt32.toUInt16.toUInt32.toInt32))] : List Int32)))), .val (.int 1), .unset, .unset] [(.int 0)])) _
     refine own_go (fun _ k => XS.istore X114.here hx rfl (hb hby at_229) rfl (l' := #[.val (.int p0), .val (.int p1), .val (.int p2), .val (.int p3), .val (.int p4), .val (.int 1), .val (.int 2), .val (.int ((p0 &&& (255 : Int32)).toUInt32.toUInt16.toUInt32.toInt32)), .val (.int ((((p0.toUInt32 >>> ((8 : Int32) &&& 31).toUInt32).toInt32) &&& (255 : Int32)).toUInt32.toUInt16.toUInt32.toInt32)), .val (.int d0), .val (.int d1), .val (.int i1), .val (.int i2), .val (.ref s_94), .val (.ref s_99), .val (.ref b103), .val (.ref b107), .val (.int f17), .val (.int ex), .val (.int (own_bi (i1 = i2 ∧ ([(nar .char ((p0 &&& (255 : Int32)).toUInt32.toUInt16.toUInt32.toInt32))] : List Int32) = ([(nar .char d0), (nar .char d1)] : List Int32)))), .val (.int (own_bi (i2 = i1 ∧ ([(nar .char d0), (nar .char d1)] : List Int32) = ([(nar .char ((p0 &&& (255 : Int32)).toUInt32.toUInt16.toUInt32.toInt32))] : List Int32)))), .val (.int 1), .val (.int 0), .unset]) rfl (XS.aload X114.here hx rfl (hb hby at_231) rfl rfl (XS.aload X114.here hx rfl (hb hby at_233) rfl rfl k))) ?_
     show own_Fin p e below (T114.setTop (mkF m 235 #[.val (.int p0), .val (.int p1), .val (.int p2), .val (.int p3), .val (.int p4), .val (.int 1), .val (.int 2), .val (.int ((p0 &&& (255 : Int32)).toUInt32.toUInt16.toUInt32.toInt32)), .val (.int ((((p0.toUInt32 >>> ((8 : Int32) &&& 31).toUInt32).toInt32) &&& (255 : Int32)).toUInt32.toUInt16.toUInt32.toInt32)), .val (.int d0), .val (.int d1), .val (.int i1), .val (.int i2), .val (.ref s_94), .val (.ref s_99), .val (.ref b103), .val (.ref b107), .val (.int f17), .val (.int ex), .val (.int (own_bi (i1 = i2 ∧ ([(nar .char ((p0 &&& (255 : Int32)).toUInt32.toUInt16.toUInt32.toInt32))] : List Int32) = ([(nar .char d0), (nar .char d1)] : List Int32)))), .val (.int (own_bi (i2 = i1 ∧ ([(nar .char d0), (nar .char d1)] : List Int32) = ([(nar .char ((p0 &&& (255 : Int32)).toUInt32.toUInt16.toUInt32.toInt32))] : List Int32)))), .val (.int 1), .val (.int 0), .unset] [(.ref s_94), (.ref b103)])) _
     obtain ⟨cq115, kq115, q115a, q115b, q115c⟩ := isOf hZ e114 E_b103
     obtain ⟨_, _, ⟨T115, L115, k115, n115⟩, -, X115, ⟨Lc115, hQ115, l115, y115, z115⟩, st115⟩ := X114.virtualBack hx (y := (⟨"com/example/lokahi/lokahi/Unit", "equals", "(Ljava/lang/Object;)Z"⟩ : MethodName)) (z := (⟨"com/example/lokahi/lokahi/Unit", "equals", "(Ljava/lang/Object;)Z"⟩ : MethodName)) hown (mvT hZ (ow hw 58)) (mvT hZ (ow hw 59)) (notFace_of_selects (args := #[]) (mvT hZ (ow hw 61))) (mvT hZ (ow hw 61)) (mvT hZ (ow hw 60)) (by decide) (backOf (W := 0) (rmeT l Z a0 hw [] b103 s_94 (T109.heap) n0 O E_s_94 (Ne.symm ne_s_94_b103)) hZ (ow hw 62) (ow hw 37) (by decide) (by decide)) q115a q115c (g := (mkF m 235 #[.val (.int p0), .val (.int p1), .val (.int p2), .val (.int p3), .val (.int p4), .val (.int 1), .val (.int 2), .val (.int ((p0 &&& (255 : Int32)).toUInt32.toUInt16.toUInt32.toInt32)), .val (.int ((((p0.toUInt32 >>> ((8 : Int32) &&& 31).toUInt32).toInt32) &&& (255 : Int32)).toUInt32.toUInt16.toUInt32.toInt32)), .val (.int d0), .val (.int d1), .val (.int i1), .val (.int i2), .val (.ref s_94), .val (.ref s_99), .val (.ref b103), .val (.ref b107), .val (.int f17), .val (.int ex), .val (.int (own_bi (i1 = i2 ∧ ([(nar .char ((p0 &&& (255 : Int32)).toUInt32.toUInt16.toUInt32.toInt32))] : List Int32) = ([(nar .char d0), (nar .char d1)] : List Int32)))), .val (.int (own_bi (i2 = i1 ∧ ([(nar .char d0), (nar .char d1)] : List Int32) = ([(nar .char ((p0 &&& (255 : Int32)).toUInt32.toUInt16.toUInt32.toInt32))] : List Int32)))), .val (.int 1), .val (.int 0), .unset] [(.ref s_94), (.ref b103)])) rfl (by rw [hml]; rfl) (Steps.refl _) (argsL := [(.ref s_94)]) (rest := []) (lenOf pd_3 rfl) rfl (by show 2 * 0 + _ ≤ _; exact Nat.le_of_eq rfl) (hb hby at_235) (fun _ _ => ⟨rfl, e114, (by decide : 12 + 0 ≤ _), (by decide : 50 + 0 ≤ _)⟩)
     dsimp only [Pt.U, Pt.locs, Pt.cells, Pt.slots] at X115 l115 y115 z115 st115 hQ115
     subst l115 y115 z115
     obtain ⟨rfl, N115q, e115⟩ := hQ115
     refine own_go (fun _ k => st115.trans k) ?_
     have N115 := Fr.app N114 N115q
     show own_Fin p e below (T115.setTop (mkF m 238 #[.val (.int p0), .val (.int p1), .val (.int p2), .val (.int p3), .val (.int p4), .val (.int 1), .val (.int 2), .val (.int ((p0 &&& (255 : Int32)).toUInt32.toUInt16.toUInt32.toInt32)), .val (.int ((((p0.toUInt32 >>> ((8 : Int32) &&& 31).toUInt32).toInt32) &&& (255 : Int32)).toUInt32.toUInt16.toUInt32.toInt32)), .val (.int d0), .val (.int d1), .val (.int i1), .val (.int i2), .val (.ref s_94), .val (.ref s_99), .val (.ref b103), .val (.ref b107), .val (.int f17), .val (.int ex), .val (.int (own_bi (i1 = i2 ∧ ([(nar .char ((p0 &&& (255 : Int32)).toUInt32.toUInt16.toUInt32.toInt32))] : List Int32) = ([(nar .char d0), (nar .char d1)] : List Int32)))), .val (.int (own_bi (i2 = i1 ∧ ([(nar .char d0), (nar .char d1)] : List Int32) = ([(nar .char ((p0 &&& (255 : Int32)).toUInt32.toUInt16.toUInt32.toInt32))] : List Int32)))), .val (.int 1), .val (.int 0), .unset] [(.int 0)])) _
     refine own_go (fun _ k => XS.istore X115.here hx rfl (hb hby at_238) rfl (l' := #[.val (.int p0), .val (.int p1), .val (.int p2), .val (.int p3), .val (.int p4), .val (.int 1), .val (.int 2), .val (.int ((p0 &&& (255 : Int32)).toUInt32.toUInt16.toUInt32.toInt32)), .val (.int ((((p0.toUInt32 >>> ((8 : Int32) &&& 31).toUInt32).toInt32) &&& (255 : Int32)).toUInt32.toUInt16.toUInt32.toInt32)), .val (.int d0), .val (.int d1), .val (.int i1), .val (.int i2), .val (.ref s_94), .val (.ref s_99), .val (.ref b103), .val (.ref b107), .val (.int f17), .val (.int ex), .val (.int (own_bi (i1 = i2 ∧ ([(nar .char ((p0 &&& (255 : Int32)).toUInt32.toUInt16.toUInt32.toInt32))] : List Int32) = ([(nar .char d0), (nar .char d1)] : List Int32)))), .val (.int (own_bi (i2 = i1 ∧ ([(nar .char d0), (nar .char d1)] : List Int32) = ([(nar .char ((p0 &&& (255 : Int32)).toUInt32.toUInt16.toUInt32.toInt32))] : List Int32)))), .val (.int 1), .val (.int 0), .val (.int 0)]) rfl (XS.iload X115.here hx rfl (hb hby at_240) rfl (XS.iload X115.here hx rfl (hb hby at_242) rfl (XS.icmpNo X115.here hx rfl (hb hby at_244) rfl (teq (by rw [hex] : (own_bi (i1 = i2 ∧ ([(nar .char ((p0 &&& (255 : Int32)).toUInt32.toUInt16.toUInt32.toInt32))] : List Int32) = ([(nar .char d0), (nar .char d1)] : List Int32))) = ex)).2 (XS.iload X115.here hx rfl (hb hby at_247) rfl (XS.iload X115.here hx rfl (hb hby at_249) rfl (XS.icmpNo X115.here hx rfl (hb hby at_251) rfl (teq (by rw [hex]; unfold own_bi; simp only [eq_comm] : (own_bi (i2 = i1 ∧ ([(nar .char d0), (nar .char d1)] : List Int32) = ([(nar .char ((p0 &&& (255 : Int32)).toUInt32.toUInt16.toUInt32.toInt32))] : List Int32))) = ex)).2 (XS.iload X115.here hx rfl (hb hby at_254) rfl (XS.ifNo X115.here hx rfl (hb hby at_256) rfl ((if0 _ _).trans (feq (by decide : ¬ ((1 : Int32) = (0 : Int32)))).1) (XS.iload X115.here hx rfl (hb hby at_259) rfl k)))))))))) ?_
     show own_Fin p e below (T115.setTop (mkF m 261 #[.val (.int p0), .val (.int p1), .val (.int p2), .val (.int p3), .val (.int p4), .val (.int 1), .val (.int 2), .val (.int ((p0 &&& (255 : Int32)).toUInt32.toUInt16.toUInt32.toInt32)), .val (.int ((((p0.toUInt32 >>> ((8 : Int32) &&& 31).toUInt32).toInt32) &&& (255 : Int32)).toUInt32.toUInt16.toUInt32.toInt32)), .val (.int d0), .val (.int d1), .val (.int i1), .val (.int i2), .val (.ref s_94), .val (.ref s_99), .val (.ref b103), .val (.ref b107), .val (.int f17), .val (.int ex), .val (.int (own_bi (i1 = i2 ∧ ([(nar .char ((p0 &&& (255 : Int32)).toUInt32.toUInt16.toUInt32.toInt32))] : List Int32) = ([(nar .char d0), (nar .char d1)] : List Int32)))), .val (.int (own_bi (i2 = i1 ∧ ([(nar .char d0), (nar .char d1)] : List Int32) = ([(nar .char ((p0 &&& (255 : Int32)).toUInt32.toUInt16.toUInt32.toInt32))] : List Int32)))), .val (.int 1), .val (.int 0), .val (.int 0)] [(.int 0)])) _
     refine own_go (fun _ k => XS.ifNo X115.here hx rfl (hb hby at_261) rfl ((if0 _ _).trans (teq (by decide : (0 : Int32) = (0 : Int32))).2) (XS.iload X115.here hx rfl (hb hby at_264) rfl (XS.ifNo X115.here hx rfl (hb hby at_266) rfl ((if0 _ _).trans (teq (by decide : (0 : Int32) = (0 : Int32))).2) (XS.iconst X115.here hx rfl (hb hby at_269) (XS.goto X115.here hx rfl (pc0 := 270) (pc' := 274) rfl (hb hby at_270) (by decide) (by decide) k))))) ?_
     show own_Fin p e below (T115.setTop (mkF m 274 #[.val (.int p0), .val (.int p1), .val (.int p2), .val (.int p3), .val (.int p4), .val (.int 1), .val (.int 2), .val (.int ((p0 &&& (255 : Int32)).toUInt32.toUInt16.toUInt32.toInt32)), .val (.int ((((p0.toUInt32 >>> ((8 : Int32) &&& 31).toUInt32).toInt32) &&& (255 : Int32)).toUInt32.toUInt16.toUInt32.toInt32)), .val (.int d0), .val (.int d1), .val (.int i1), .val (.int i2), .val (.ref s_94), .val (.ref s_99), .val (.ref b103), .val (.ref b107), .val (.int f17), .val (.int ex), .val (.int (own_bi (i1 = i2 ∧ ([(nar .char ((p0 &&& (255 : Int32)).toUInt32.toUInt16.toUInt32.toInt32))] : List Int32) = ([(nar .char d0), (nar .char d1)] : List Int32)))), .val (.int (own_bi (i2 = i1 ∧ ([(nar .char d0), (nar .char d1)] : List Int32) = ([(nar .char ((p0 &&& (255 : Int32)).toUInt32.toUInt16.toUInt32.toInt32))] : List Int32)))), .val (.int 1), .val (.int 0), .val (.int 0)] [(.int 1)])) _
     obtain ⟨fs, hr, hrun, hended, hE⟩ := X115.leaveW hS (Nat.le_trans hk (Nat.le_of_eq (congrArg Array.size e115).symm)) (v := some (.int 1)) (fun h => by rw [Bd.returns] at h; cases h)
     refine ⟨_, _, ?_, hrun, hended, _, _, rfl, ?_, ⟨_, rfl⟩, hE.2.1, hE.2.2.1, hE.2.2.2.mono (by decide) (by decide)⟩
     ·exact retN X115 hx (t := .boolean) Bd.returns (by simp) (hb hby at_274) hr
     ·show Qrm0 Z p0 p1 p2 p3 p4 z h0 n0 _ T115.heap _
      rw [e115]
      exact ⟨rfl, N115, K110⟩
    show own_Fin p e below (T109.setTop (mkF m 143 #[.val (.int p0), .val (.int p1), .val (.int p2), .val (.int p3), .val (.int p4), .val (.int 1), .val (.int 2), .val (.int ((p0 &&& (255 : Int32)).toUInt32.toUInt16.toUInt32.toInt32)), .val (.int ((((p0.toUInt32 >>> ((8 : Int32) &&& 31).toUInt32).toInt32) &&& (255 : Int32)).toUInt32.toUInt16.toUInt32.toInt32)), .val (.int d0), .val (.int d1), .val (.int i1), .val (.int i2), .val (.ref s_94), .val (.ref s_99), .val (.ref b103), .val (.ref b107), .unset, .unset, .unset, .unset, .unset, .unset, .unset] [])) _
    refine own_go (fun _ k => XS.iload X109.here hx rfl (hb hby at_143) rfl (XS.iload X109.here hx rfl (hb hby at_145) rfl (XS.icmpYes X109.here hx rfl (pc0 := 147) (pc' := 174) rfl (hb hby at_147) rfl (feq (by decide : ¬ ((1 : Int32) = (2 : Int32)))).2 (by decide) (by decide) (XS.iconst X109.here hx rfl (hb hby at_174) (XS.istore X109.here hx rfl (hb hby at_175) rfl (l' := #[.val (.int p0), .val (.int p1), .val (.int p2), .val (.int p3), .val (.int p4), .val (.int 1), .val (.int 2), .val (.int ((p0 &&& (255 : Int32)).toUInt32.toUInt16.toUInt32.toInt32)), .val (.int ((((p0.toUInt32 >>> ((8 : Int32) &&& 31).toUInt32).toInt32) &&& (255 : Int32)).toUInt32.toUInt16.toUInt32.toInt32)), .val (.int d0), .val (.int d1), .val (.int i1), .val (.int i2), .val (.ref s_94), .val (.ref s_99), .val (.ref b103), .val (.ref b107), .val (.int 0), .unset, .unset, .unset, .unset, .unset, .unset]) rfl (XS.iload X109.here hx rfl (hb hby at_177) rfl (XS.ifYes X109.here hx rfl (pc0 := 179) (pc' := 193) rfl (hb hby at_179) rfl ((if0 _ _).trans (teq (by decide : (0 : Int32) = (0 : Int32))).1) (by decide) (by decide) (XS.iconst X109.here hx rfl (hb hby at_193) (XS.istore X109.here hx rfl (hb hby at_194) rfl (l' := #[.val (.int p0), .val (.int p1), .val (.int p2), .val (.int p3), .val (.int p4), .val (.int 1), .val (.int 2), .val (.int ((p0 &&& (255 : Int32)).toUInt32.toUInt16.toUInt32.toInt32)), .val (.int ((((p0.toUInt32 >>> ((8 : Int32) &&& 31).toUInt32).toInt32) &&& (255 : Int32)).toUInt32.toUInt16.toUInt32.toInt32)), .val (.int d0), .val (.int d1), .val (.int i1), .val (.int i2), .val (.ref s_94), .val (.ref s_99), .val (.ref b103), .val (.ref b107), .val (.int 0), .val (.int 0), .unset, .unset, .unset, .unset, .unset]) rfl k))))))))) ?_
    show own_Fin p e below (T109.setTop (mkF m 196 #[.val (.int p0), .val (.int p1), .val (.int p2), .val (.int p3), .val (.int p4), .val (.int 1), .val (.int 2), .val (.int ((p0 &&& (255 : Int32)).toUInt32.toUInt16.toUInt32.toInt32)), .val (.int ((((p0.toUInt32 >>> ((8 : Int32) &&& 31).toUInt32).toInt32) &&& (255 : Int32)).toUInt32.toUInt16.toUInt32.toInt32)), .val (.int d0), .val (.int d1), .val (.int i1), .val (.int i2), .val (.ref s_94), .val (.ref s_99), .val (.ref b103), .val (.ref b107), .val (.int 0), .val (.int 0), .unset, .unset, .unset, .unset, .unset] [])) _
    exact j2 (0 : Int32) (0 : Int32) (by first | (simp only [own_bi, own_narid (own_255 _), own_narid hd0, own_narid hd1, List.cons.injEq, and_true, true_and, and_self, and_false, false_and, ↓reduceIte]; done) | simp [own_bi, own_narid (own_255 _), own_narid hd0, own_narid hd1])
   ·show own_Fin p e below (s₁.setTop (mkF m 97 #[.val (.int p0), .val (.int p1), .val (.int p2), .val (.int p3), .val (.int p4), .val (.int 2), .val (.int 1), .val (.int ((p0 &&& (255 : Int32)).toUInt32.toUInt16.toUInt32.toInt32)), .val (.int ((((p0.toUInt32 >>> ((8 : Int32) &&& 31).toUInt32).toInt32) &&& (255 : Int32)).toUInt32.toUInt16.toUInt32.toInt32)), .val (.int d0), .val (.int d1), .val (.int i1), .val (.int i2), .unset, .unset, .unset, .unset, .unset, .unset, .unset, .unset, .unset, .unset, .unset] [(.int 2)])) _
    refine own_go (fun _ k => XS.iload X0.here hx rfl (hb hby at_97) rfl (XS.iload X0.here hx rfl (hb hby at_99) rfl k)) ?_
    show own_Fin p e below (s₁.setTop (mkF m 101 #[.val (.int p0), .val (.int p1), .val (.int p2), .val (.int p3), .val (.int p4), .val (.int 2), .val (.int 1), .val (.int ((p0 &&& (255 : Int32)).toUInt32.toUInt16.toUInt32.toInt32)), .val (.int ((((p0.toUInt32 >>> ((8 : Int32) &&& 31).toUInt32).toInt32) &&& (255 : Int32)).toUInt32.toUInt16.toUInt32.toInt32)), .val (.int d0), .val (.int d1), .val (.int i1), .val (.int i2), .unset, .unset, .unset, .unset, .unset, .unset, .unset, .unset, .unset, .unset, .unset] [(.int ((((p0.toUInt32 >>> ((8 : Int32) &&& 31).toUInt32).toInt32) &&& (255 : Int32)).toUInt32.toUInt16.toUInt32.toInt32)), (.int ((p0 &&& (255 : Int32)).toUInt32.toUInt16.toUInt32.toInt32)), (.int 2)])) _
    obtain ⟨_, _, ⟨T117, L117, k117, n117⟩, -, X117, ⟨Lc117, hQ117, l117, y117, z117⟩, st117⟩ := Jvm.LawKit.callS X0 hx (y := (⟨"com/example/lokahi/lokahi/UnitEqualsPinLaw", "mk", "(ICC)Ljava/lang/String;"⟩ : MethodName)) hown (mvT hZ (ow hw 1)) (mvT hZ (ow hw 2)) (mvT hZ (ow hw 3)) (mvT hZ (ow hw 4)) (by decide) (backOf (W := 0) (rmk2 l Z a0 hw [] (2 : Int32) ((p0 &&& (255 : Int32)).toUInt32.toUInt16.toUInt32.toInt32) ((((p0.toUInt32 >>> ((8 : Int32) &&& 31).toUInt32).toInt32) &&& (255 : Int32)).toUInt32.toUInt16.toUInt32.toInt32) z h0 n0 O S_String_COMPACT_STRINGS hz (by decide) (own_255 _) (own_255 _)) hZ (ow hw 4) (ow hw 3) (by decide) (by decide)) (g := (mkF m 101 #[.val (.int p0), .val (.int p1), .val (.int p2), .val (.int p3), .val (.int p4), .val (.int 2), .val (.int 1), .val (.int ((p0 &&& (255 : Int32)).toUInt32.toUInt16.toUInt32.toInt32)), .val (.int ((((p0.toUInt32 >>> ((8 : Int32) &&& 31).toUInt32).toInt32) &&& (255 : Int32)).toUInt32.toUInt16.toUInt32.toInt32)), .val (.int d0), .val (.int d1), .val (.int i1), .val (.int i2), .unset, .unset, .unset, .unset, .unset, .unset, .unset, .unset, .unset, .unset, .unset] [(.int ((((p0.toUInt32 >>> ((8 : Int32) &&& 31).toUInt32).toInt32) &&& (255 : Int32)).toUInt32.toUInt16.toUInt32.toInt32)), (.int ((p0 &&& (255 : Int32)).toUInt32.toUInt16.toUInt32.toInt32)), (.int 2)])) rfl (by rw [hml]; rfl) (argsL := [(.int 2), (.int ((p0 &&& (255 : Int32)).toUInt32.toUInt16.toUInt32.toInt32)), (.int ((((p0.toUInt32 >>> ((8 : Int32) &&& 31).toUInt32).toInt32) &&& (255 : Int32)).toUInt32.toUInt16.toUInt32.toInt32))]) (rest := []) (lenOf pd_4 rfl) rfl (by show 2 * 0 + _ ≤ _; exact Nat.le_of_eq rfl) (hb hby at_101) (fun _ _ => ⟨rfl, e0, (by decide : 0 + 3 ≤ _), (by decide : 0 + 8 ≤ _)⟩)
    dsimp only [Pt.U, Pt.locs, Pt.cells, Pt.slots] at X117 l117 y117 z117 st117 hQ117
    subst l117 y117 z117
    obtain ⟨s_118, t_119, kb_120, rfl, N117q, Kq117, P117_0, P117_1, P117_2, P117_3, P117_4, P117_5, P117_6⟩ := hQ117
    refine own_go (fun _ k => st117 _ k) ?_
    have N117 := Fr.app N0 N117q
    have g_s_118 : n0 ≤ s_118 := Nat.le_trans (own_osz O) P117_0
    have sz_s_118 : h0.size ≤ s_118 := Nat.le_trans K0.1 P117_0
    have g_t_119 : n0 ≤ t_119 := Nat.le_trans (own_osz O) P117_1
    have sz_t_119 : h0.size ≤ t_119 := Nat.le_trans K0.1 P117_1
    have O := O.keep Kq117 all0
    have K121 := K0.trans Kq117 all0
    have hk := Nat.le_trans hk Kq117.1
    have E_s_118 := P117_3
    have F_s_118_String_coder := P117_4
    have F_s_118_String_value := P117_5
    have V_t_119 := P117_6
    show own_Fin p e below (T117.setTop (mkF m 104 #[.val (.int p0), .val (.int p1), .val (.int p2), .val (.int p3), .val (.int p4), .val (.int 2), .val (.int 1), .val (.int ((p0 &&& (255 : Int32)).toUInt32.toUInt16.toUInt32.toInt32)), .val (.int ((((p0.toUInt32 >>> ((8 : Int32) &&& 31).toUInt32).toInt32) &&& (255 : Int32)).toUInt32.toUInt16.toUInt32.toInt32)), .val (.int d0), .val (.int d1), .val (.int i1), .val (.int i2), .unset, .unset, .unset, .unset, .unset, .unset, .unset, .unset, .unset, .unset, .unset] [(.ref s_118)])) _
    refine own_go (fun _ k => XS.astore X117.here hx rfl (hb hby at_104) rfl rfl (l' := #[.val (.int p0), .val (.int p1), .val (.int p2), .val (.int p3), .val (.int p4), .val (.int 2), .val (.int 1), .val (.int ((p0 &&& (255 : Int32)).toUInt32.toUInt16.toUInt32.toInt32)), .val (.int ((((p0.toUInt32 >>> ((8 : Int32) &&& 31).toUInt32).toInt32) &&& (255 : Int32)).toUInt32.toUInt16.toUInt32.toInt32)), .val (.int d0), .val (.int d1), .val (.int i1), .val (.int i2), .val (.ref s_118), .unset, .unset, .unset, .unset, .unset, .unset, .unset, .unset, .unset, .unset]) rfl (XS.iload X117.here hx rfl (hb hby at_106) rfl (XS.iload X117.here hx rfl (hb hby at_108) rfl (XS.iload X117.here hx rfl (hb hby at_110) rfl k)))) ?_
    show own_Fin p e below (T117.setTop (mkF m 112 #[.val (.int p0), .val (.int p1), .val (.int p2), .val (.int p3), .val (.int p4), .val (.int 2), .val (.int 1), .val (.int ((p0 &&& (255 : Int32)).toUInt32.toUInt16.toUInt32.toInt32)), .val (.int ((((p0.toUInt32 >>> ((8 : Int32) &&& 31).toUInt32).toInt32) &&& (255 : Int32)).toUInt32.toUInt16.toUInt32.toInt32)), .val (.int d0), .val (.int d1), .val (.int i1), .val (.int i2), .val (.ref s_118), .unset, .unset, .unset, .unset, .unset, .unset, .unset, .unset, .unset, .unset] [(.int d1), (.int d0), (.int 1)])) _
    obtain ⟨_, _, ⟨T122, L122, k122, n122⟩, -, X122, ⟨Lc122, hQ122, l122, y122, z122⟩, st122⟩ := Jvm.LawKit.callS X117 hx (y := (⟨"com/example/lokahi/lokahi/UnitEqualsPinLaw", "mk", "(ICC)Ljava/lang/String;"⟩ : MethodName)) hown (mvT hZ (ow hw 1)) (mvT hZ (ow hw 2)) (mvT hZ (ow hw 3)) (mvT hZ (ow hw 4)) (by decide) (backOf (W := 0) (rmk1 l Z a0 hw [] (1 : Int32) d0 d1 z (T117.heap) n0 O S_String_COMPACT_STRINGS hz (by decide) hd0 hd1) hZ (ow hw 4) (ow hw 3) (by decide) (by decide)) (g := (mkF m 112 #[.val (.int p0), .val (.int p1), .val (.int p2), .val (.int p3), .val (.int p4), .val (.int 2), .val (.int 1), .val (.int ((p0 &&& (255 : Int32)).toUInt32.toUInt16.toUInt32.toInt32)), .val (.int ((((p0.toUInt32 >>> ((8 : Int32) &&& 31).toUInt32).toInt32) &&& (255 : Int32)).toUInt32.toUInt16.toUInt32.toInt32)), .val (.int d0), .val (.int d1), .val (.int i1), .val (.int i2), .val (.ref s_118), .unset, .unset, .unset, .unset, .unset, .unset, .unset, .unset, .unset, .unset] [(.int d1), (.int d0), (.int 1)])) rfl (by rw [hml]; rfl) (argsL := [(.int 1), (.int d0), (.int d1)]) (rest := []) (lenOf pd_4 rfl) rfl (by show 2 * 0 + _ ≤ _; exact Nat.le_of_eq rfl) (hb hby at_112) (fun _ _ => ⟨rfl, rfl, (by decide : 3 + 3 ≤ _), (by decide : 8 + 6 ≤ _)⟩)
    dsimp only [Pt.U, Pt.locs, Pt.cells, Pt.slots] at X122 l122 y122 z122 st122 hQ122
    subst l122 y122 z122
    obtain ⟨s_123, t_124, kb_125, rfl, N122q, Kq122, P122_0, P122_1, P122_2, P122_3, P122_4, P122_5, P122_6⟩ := hQ122
    refine own_go (fun _ k => st122 _ k) ?_
    have N122 := Fr.app N117 N122q
    have ne_s_118_s_123 : s_118 ≠ s_123 := Nat.ne_of_lt (Nat.lt_of_lt_of_le E_s_118.lt P122_0)
    have ne_t_119_s_123 : t_119 ≠ s_123 := Nat.ne_of_lt (Nat.lt_of_lt_of_le V_t_119.lt P122_0)
    have g_s_123 : n0 ≤ s_123 := Nat.le_trans (own_osz O) P122_0
    have sz_s_123 : h0.size ≤ s_123 := Nat.le_trans K121.1 P122_0
    have ne_s_118_t_124 : s_118 ≠ t_124 := Nat.ne_of_lt (Nat.lt_of_lt_of_le E_s_118.lt P122_1)
    have ne_t_119_t_124 : t_119 ≠ t_124 := Nat.ne_of_lt (Nat.lt_of_lt_of_le V_t_119.lt P122_1)
    have g_t_124 : n0 ≤ t_124 := Nat.le_trans (own_osz O) P122_1
    have sz_t_124 : h0.size ≤ t_124 := Nat.le_trans K121.1 P122_1
    have E_s_118 := E_s_118.keep Kq122
    have F_s_118_String_coder := F_s_118_String_coder.keep Kq122 nin0
    have F_s_118_String_value := F_s_118_String_value.keep Kq122 nin0
    have V_t_119 := V_t_119.keep Kq122 nin0
    have O := O.keep Kq122 all0
    have K126 := K121.trans Kq122 all0
    have hk := Nat.le_trans hk Kq122.1
    have E_s_123 := P122_3
    have F_s_123_String_coder := P122_4
    have F_s_123_String_value := P122_5
    have V_t_124 := P122_6
    show own_Fin p e below (T122.setTop (mkF m 115 #[.val (.int p0), .val (.int p1), .val (.int p2), .val (.int p3), .val (.int p4), .val (.int 2), .val (.int 1), .val (.int ((p0 &&& (255 : Int32)).toUInt32.toUInt16.toUInt32.toInt32)), .val (.int ((((p0.toUInt32 >>> ((8 : Int32) &&& 31).toUInt32).toInt32) &&& (255 : Int32)).toUInt32.toUInt16.toUInt32.toInt32)), .val (.int d0), .val (.int d1), .val (.int i1), .val (.int i2), .val (.ref s_118), .unset, .unset, .unset, .unset, .unset, .unset, .unset, .unset, .unset, .unset] [(.ref s_123)])) _
    refine own_go (fun _ k => XS.astore X122.here hx rfl (hb hby at_115) rfl rfl (l' := #[.val (.int p0), .val (.int p1), .val (.int p2), .val (.int p3), .val (.int p4), .val (.int 2), .val (.int 1), .val (.int ((p0 &&& (255 : Int32)).toUInt32.toUInt16.toUInt32.toInt32)), .val (.int ((((p0.toUInt32 >>> ((8 : Int32) &&& 31).toUInt32).toInt32) &&& (255 : Int32)).toUInt32.toUInt16.toUInt32.toInt32)), .val (.int d0), .val (.int d1), .val (.int i1), .val (.int i2), .val (.ref s_118), .val (.ref s_123), .unset, .unset, .unset, .unset, .unset, .unset, .unset, .unset, .unset]) rfl k) ?_
    show own_Fin p e below (T122.setTop (mkF m 117 #[.val (.int p0), .val (.int p1), .val (.int p2), .val (.int p3), .val (.int p4), .val (.int 2), .val (.int 1), .val (.int ((p0 &&& (255 : Int32)).toUInt32.toUInt16.toUInt32.toInt32)), .val (.int ((((p0.toUInt32 >>> ((8 : Int32) &&& 31).toUInt32).toInt32) &&& (255 : Int32)).toUInt32.toUInt16.toUInt32.toInt32)), .val (.int d0), .val (.int d1), .val (.int i1), .val (.int i2), .val (.ref s_118), .val (.ref s_123), .unset, .unset, .unset, .unset, .unset, .unset, .unset, .unset, .unset] [])) _
    obtain ⟨T127, h127, X127, e127, E127, A127, D127, -, st127⟩ := newO X122 hx hZ hown (ow hw 35) (ow hw 36) (ow hw 37) rfl (g := (mkF m 117 #[.val (.int p0), .val (.int p1), .val (.int p2), .val (.int p3), .val (.int p4), .val (.int 2), .val (.int 1), .val (.int ((p0 &&& (255 : Int32)).toUInt32.toUInt16.toUInt32.toInt32)), .val (.int ((((p0.toUInt32 >>> ((8 : Int32) &&& 31).toUInt32).toInt32) &&& (255 : Int32)).toUInt32.toUInt16.toUInt32.toInt32)), .val (.int d0), .val (.int d1), .val (.int i1), .val (.int i2), .val (.ref s_118), .val (.ref s_123), .unset, .unset, .unset, .unset, .unset, .unset, .unset, .unset, .unset] [])) rfl (hb hby at_117) (by decide) (by decide)
    obtain ⟨b127, g127⟩ : ∃ z, z = T122.heap.size := ⟨_, rfl⟩
    rw [← g127] at A127 D127 st127
    refine own_go (fun _ k => st127 _ k) ?_
    have ne_s_118_b127 : s_118 ≠ b127 := Nat.ne_of_lt (Nat.lt_of_lt_of_le E_s_118.lt (Nat.le_of_eq g127.symm))
    have ne_t_119_b127 : t_119 ≠ b127 := Nat.ne_of_lt (Nat.lt_of_lt_of_le V_t_119.lt (Nat.le_of_eq g127.symm))
    have ne_s_123_b127 : s_123 ≠ b127 := Nat.ne_of_lt (Nat.lt_of_lt_of_le E_s_123.lt (Nat.le_of_eq g127.symm))
    have ne_t_124_b127 : t_124 ≠ b127 := Nat.ne_of_lt (Nat.lt_of_lt_of_le V_t_124.lt (Nat.le_of_eq g127.symm))
    have g_b127 : n0 ≤ b127 := Nat.le_trans (own_osz O) (Nat.le_of_eq g127.symm)
    have sz_b127 : h0.size ≤ b127 := Nat.le_trans K126.1 (Nat.le_of_eq g127.symm)
    have E_s_118 := E_s_118.ext E127
    have F_s_118_String_coder := F_s_118_String_coder.ext E127
    have F_s_118_String_value := F_s_118_String_value.ext E127
    have V_t_119 := V_t_119.ext E127
    have E_s_123 := E_s_123.ext E127
    have F_s_123_String_coder := F_s_123_String_coder.ext E127
    have F_s_123_String_value := F_s_123_String_value.ext E127
    have V_t_124 := V_t_124.ext E127
    have O := O.ext E127
    have K128 := K126.ext E127
    have hk := Nat.le_trans hk E127.1
    have E_b127 := A127
    have F_b127_Unit_set : Fld Z h127 b127 "com/example/lokahi/lokahi/Unit" "set" "Ljava/lang/String;" .null := D127 (Or.inr (ow hw 55)) (ty := (.object "java/lang/String")) (by decide)
    have F_b127_Unit_index : Fld Z h127 b127 "com/example/lokahi/lokahi/Unit" "index" "I" (.int 0) := D127 (Or.inr (ow hw 57)) (ty := .int) (by decide)
    show own_Fin p e below (T127.setTop (mkF m 120 #[.val (.int p0), .val (.int p1), .val (.int p2), .val (.int p3), .val (.int p4), .val (.int 2), .val (.int 1), .val (.int ((p0 &&& (255 : Int32)).toUInt32.toUInt16.toUInt32.toInt32)), .val (.int ((((p0.toUInt32 >>> ((8 : Int32) &&& 31).toUInt32).toInt32) &&& (255 : Int32)).toUInt32.toUInt16.toUInt32.toInt32)), .val (.int d0), .val (.int d1), .val (.int i1), .val (.int i2), .val (.ref s_118), .val (.ref s_123), .unset, .unset, .unset, .unset, .unset, .unset, .unset, .unset, .unset] [(.ref b127)])) _
    refine own_go (fun _ k => XS.dup X127.here hx rfl (hb hby at_120) rfl rfl (XS.aload X127.here hx rfl (hb hby at_121) rfl rfl (XS.iload X127.here hx rfl (hb hby at_123) rfl k))) ?_
    show own_Fin p e below (T127.setTop (mkF m 125 #[.val (.int p0), .val (.int p1), .val (.int p2), .val (.int p3), .val (.int p4), .val (.int 2), .val (.int 1), .val (.int ((p0 &&& (255 : Int32)).toUInt32.toUInt16.toUInt32.toInt32)), .val (.int ((((p0.toUInt32 >>> ((8 : Int32) &&& 31).toUInt32).toInt32) &&& (255 : Int32)).toUInt32.toUInt16.toUInt32.toInt32)), .val (.int d0), .val (.int d1), .val (.int i1), .val (.int i2), .val (.ref s_118), .val (.ref s_123), .unset, .unset, .unset, .unset, .unset, .unset, .unset, .unset, .unset] [(.int i1), (.ref s_118), (.ref b127), (.ref b127)])) _
    obtain ⟨_, _, ⟨T129, L129, k129, n129⟩, -, X129, hS129, hg129, ⟨Lc129, hQ129, l129, y129, z129⟩, st129⟩ := X127.specialBackS hx (y := (⟨"com/example/lokahi/lokahi/Unit", "<init>", "(Ljava/lang/String;I)V"⟩ : MethodName)) rfl hown (mvT hZ (ow hw 38)) (mvT hZ (ow hw 39)) (mvT hZ (ow hw 40)) (by decide) (backOfS (W := 1) (rmu2 l Z a0 hw [] b127 s_118 i1 t_119 kb_120 (((([(nar .char ((p0 &&& (255 : Int32)).toUInt32.toUInt16.toUInt32.toInt32)), (nar .char ((((p0.toUInt32 >>> ((8 : Int32) &&& 31).toUInt32).toInt32) &&& (255 : Int32)).toUInt32.toUInt16.toUInt32.toInt32))] : List Int32)).map (fun c => c.toInt8.toInt32)).map Value.int) h127 n0 O E_b127 F_b127_Unit_set F_b127_Unit_index g_b127 hi1 E_s_118 F_s_118_String_value V_t_119 ne_s_118_b127 ne_t_119_b127) hZ (ow hw 40) (ow hw 37) (by decide) (by decide)) (g := (mkF m 125 #[.val (.int p0), .val (.int p1), .val (.int p2), .val (.int p3), .val (.int p4), .val (.int 2), .val (.int 1), .val (.int ((p0 &&& (255 : Int32)).toUInt32.toUInt16.toUInt32.toInt32)), .val (.int ((((p0.toUInt32 >>> ((8 : Int32) &&& 31).toUInt32).toInt32) &&& (255 : Int32)).toUInt32.toUInt16.toUInt32.toInt32)), .val (.int d0), .val (.int d1), .val (.int i1), .val (.int i2), .val (.ref s_118), .val (.ref s_123), .unset, .unset, .unset, .unset, .unset, .unset, .unset, .unset, .unset] [(.int i1), (.ref s_118), (.ref b127), (.ref b127)])) rfl (by rw [hml]; rfl) (Steps.refl _) (a := b127) (argsL := [(.ref s_118), (.int i1)]) (rest := [(.ref b127)]) (lenOf pd_5 rfl) rfl (by show 2 * 0 + _ ≤ _; exact Nat.le_of_eq rfl) (hb hby at_125) (fun _ _ => ⟨rfl, e127, (by decide : 7 + 2 ≤ _), (by decide : 16 + 16 ≤ _)⟩)
    dsimp only [Pt.U, Pt.locs, Pt.cells, Pt.slots] at X129 l129 y129 z129 st129 hQ129
    subst l129 y129 z129
    obtain ⟨X129, hS, hZ, hown⟩ := rebS hS (Nat.le_trans hk (Nat.le_of_eq (congrArg Array.size e127).symm)) X129 hS129 hg129 hZ hown
    obtain ⟨rfl, N129q, Kq129, P129_0, P129_1, P129_2⟩ := hQ129
    refine own_go (fun _ k => st129.trans k) ?_
    have N129 := Fr.app N122 N129q
    have E_s_118 := E_s_118.keep Kq129
    have F_s_118_String_coder := F_s_118_String_coder.keep Kq129 (ninS ne_s_118_b127 nin0)
    have F_s_118_String_value := F_s_118_String_value.keep Kq129 (ninS ne_s_118_b127 nin0)
    have V_t_119 := V_t_119.keep Kq129 (ninS ne_t_119_b127 nin0)
    have E_s_123 := E_s_123.keep Kq129
    have F_s_123_String_coder := F_s_123_String_coder.keep Kq129 (ninS ne_s_123_b127 nin0)
    have F_s_123_String_value := F_s_123_String_value.keep Kq129 (ninS ne_s_123_b127 nin0)
    have V_t_124 := V_t_124.keep Kq129 (ninS ne_t_124_b127 nin0)
    have E_b127 := E_b127.keep Kq129
    clear F_b127_Unit_set
    clear F_b127_Unit_index
    have O := O.keep Kq129 (allS g_b127 all0)
    have K130 := K128.trans Kq129 (allS (Or.inr sz_b127) all0)
    have hk := Nat.le_refl T129.heap.size
    have E_b127 := P129_0
    have F_b127_Unit_set := P129_1
    have F_b127_Unit_index := P129_2
    show own_Fin p e below (T129.setTop (mkF m 128 #[.val (.int p0), .val (.int p1), .val (.int p2), .val (.int p3), .val (.int p4), .val (.int 2), .val (.int 1), .val (.int ((p0 &&& (255 : Int32)).toUInt32.toUInt16.toUInt32.toInt32)), .val (.int ((((p0.toUInt32 >>> ((8 : Int32) &&& 31).toUInt32).toInt32) &&& (255 : Int32)).toUInt32.toUInt16.toUInt32.toInt32)), .val (.int d0), .val (.int d1), .val (.int i1), .val (.int i2), .val (.ref s_118), .val (.ref s_123), .unset, .unset, .unset, .unset, .unset, .unset, .unset, .unset, .unset] [(.ref b127)])) _
    refine own_go (fun _ k => XS.astore X129.here hx rfl (hb hby at_128) rfl rfl (l' := #[.val (.int p0), .val (.int p1), .val (.int p2), .val (.int p3), .val (.int p4), .val (.int 2), .val (.int 1), .val (.int ((p0 &&& (255 : Int32)).toUInt32.toUInt16.toUInt32.toInt32)), .val (.int ((((p0.toUInt32 >>> ((8 : Int32) &&& 31).toUInt32).toInt32) &&& (255 : Int32)).toUInt32.toUInt16.toUInt32.toInt32)), .val (.int d0), .val (.int d1), .val (.int i1), .val (.int i2), .val (.ref s_118), .val (.ref s_123), .val (.ref b127), .unset, .unset, .unset, .unset, .unset, .unset, .unset, .unset]) rfl k) ?_
    show own_Fin p e below (T129.setTop (mkF m 130 #[.val (.int p0), .val (.int p1), .val (.int p2), .val (.int p3), .val (.int p4), .val (.int 2), .val (.int 1), .val (.int ((p0 &&& (255 : Int32)).toUInt32.toUInt16.toUInt32.toInt32)), .val (.int ((((p0.toUInt32 >>> ((8 : Int32) &&& 31).toUInt32).toInt32) &&& (255 : Int32)).toUInt32.toUInt16.toUInt32.toInt32)), .val (.int d0), .val (.int d1), .val (.int i1), .val (.int i2), .val (.ref s_118), .val (.ref s_123), .val (.ref b127), .unset, .unset, .unset, .unset, .unset, .unset, .unset, .unset] [])) _
    obtain ⟨T131, h131, X131, e131, E131, A131, D131, -, st131⟩ := newO X129 hx hZ hown (ow hw 35) (ow hw 36) (ow hw 37) rfl (g := (mkF m 130 #[.val (.int p0), .val (.int p1), .val (.int p2), .val (.int p3), .val (.int p4), .val (.int 2), .val (.int 1), .val (.int ((p0 &&& (255 : Int32)).toUInt32.toUInt16.toUInt32.toInt32)), .val (.int ((((p0.toUInt32 >>> ((8 : Int32) &&& 31).toUInt32).toInt32) &&& (255 : Int32)).toUInt32.toUInt16.toUInt32.toInt32)), .val (.int d0), .val (.int d1), .val (.int i1), .val (.int i2), .val (.ref s_118), .val (.ref s_123), .val (.ref b127), .unset, .unset, .unset, .unset, .unset, .unset, .unset, .unset] [])) rfl (hb hby at_130) (by decide) (by decide)
    obtain ⟨b131, g131⟩ : ∃ z, z = T129.heap.size := ⟨_, rfl⟩
    rw [← g131] at A131 D131 st131
    refine own_go (fun _ k => st131 _ k) ?_
    have ne_s_118_b131 : s_118 ≠ b131 := Nat.ne_of_lt (Nat.lt_of_lt_of_le E_s_118.lt (Nat.le_of_eq g131.symm))
    have ne_t_119_b131 : t_119 ≠ b131 := Nat.ne_of_lt (Nat.lt_of_lt_of_le V_t_119.lt (Nat.le_of_eq g131.symm))
    have ne_s_123_b131 : s_123 ≠ b131 := Nat.ne_of_lt (Nat.lt_of_lt_of_le E_s_123.lt (Nat.le_of_eq g131.symm))
    have ne_t_124_b131 : t_124 ≠ b131 := Nat.ne_of_lt (Nat.lt_of_lt_of_le V_t_124.lt (Nat.le_of_eq g131.symm))
    have ne_b127_b131 : b127 ≠ b131 := Nat.ne_of_lt (Nat.lt_of_lt_of_le E_b127.lt (Nat.le_of_eq g131.symm))
    have g_b131 : n0 ≤ b131 := Nat.le_trans (own_osz O) (Nat.le_of_eq g131.symm)
    have sz_b131 : h0.size ≤ b131 := Nat.le_trans K130.1 (Nat.le_of_eq g131.symm)
    have E_s_118 := E_s_118.ext E131
    have F_s_118_String_coder := F_s_118_String_coder.ext E131
    have F_s_118_String_value := F_s_118_String_value.ext E131
    have V_t_119 := V_t_119.ext E131
    have E_s_123 := E_s_123.ext E131
    have F_s_123_String_coder := F_s_123_String_coder.ext E131
    have F_s_123_String_value := F_s_123_String_value.ext E131
    have V_t_124 := V_t_124.ext E131
    have E_b127 := E_b127.ext E131
    have F_b127_Unit_set := F_b127_Unit_set.ext E131
    have F_b127_Unit_index := F_b127_Unit_index.ext E131
    have O := O.ext E131
    have K132 := K130.ext E131
    have hk := Nat.le_trans hk E131.1
    have E_b131 := A131
    have F_b131_Unit_set : Fld Z h131 b131 "com/example/lokahi/lokahi/Unit" "set" "Ljava/lang/String;" .null := D131 (Or.inr (ow hw 55)) (ty := (.object "java/lang/String")) (by decide)
    have F_b131_Unit_index : Fld Z h131 b131 "com/example/lokahi/lokahi/Unit" "index" "I" (.int 0) := D131 (Or.inr (ow hw 57)) (ty := .int) (by decide)
    show own_Fin p e below (T131.setTop (mkF m 133 #[.val (.int p0), .val (.int p1), .val (.int p2), .val (.int p3), .val (.int p4), .val (.int 2), .val (.int 1), .val (.int ((p0 &&& (255 : Int32)).toUInt32.toUInt16.toUInt32.toInt32)), .val (.int ((((p0.toUInt32 >>> ((8 : Int32) &&& 31).toUInt32).toInt32) &&& (255 : Int32)).toUInt32.toUInt16.toUInt32.toInt32)), .val (.int d0), .val (.int d1), .val (.int i1), .val (.int i2), .val (.ref s_118), .val (.ref s_123), .val (.ref b127), .unset, .unset, .unset, .unset, .unset, .unset, .unset, .unset] [(.ref b131)])) _
    refine own_go (fun _ k => XS.dup X131.here hx rfl (hb hby at_133) rfl rfl (XS.aload X131.here hx rfl (hb hby at_134) rfl rfl (XS.iload X131.here hx rfl (hb hby at_136) rfl k))) ?_
    show own_Fin p e below (T131.setTop (mkF m 138 #[.val (.int p0), .val (.int p1), .val (.int p2), .val (.int p3), .val (.int p4), .val (.int 2), .val (.int 1), .val (.int ((p0 &&& (255 : Int32)).toUInt32.toUInt16.toUInt32.toInt32)), .val (.int ((((p0.toUInt32 >>> ((8 : Int32) &&& 31).toUInt32).toInt32) &&& (255 : Int32)).toUInt32.toUInt16.toUInt32.toInt32)), .val (.int d0), .val (.int d1), .val (.int i1), .val (.int i2), .val (.ref s_118), .val (.ref s_123), .val (.ref b127), .unset, .unset, .unset, .unset, .unset, .unset, .unset, .unset] [(.int i2), (.ref s_123), (.ref b131), (.ref b131)])) _
    obtain ⟨_, _, ⟨T133, L133, k133, n133⟩, -, X133, hS133, hg133, ⟨Lc133, hQ133, l133, y133, z133⟩, st133⟩ := X131.specialBackS hx (y := (⟨"com/example/lokahi/lokahi/Unit", "<init>", "(Ljava/lang/String;I)V"⟩ : MethodName)) rfl hown (mvT hZ (ow hw 38)) (mvT hZ (ow hw 39)) (mvT hZ (ow hw 40)) (by decide) (backOfS (W := 1) (rmu1 l Z a0 hw [] b131 s_123 i2 t_124 kb_125 (((([(nar .char d0)] : List Int32)).map (fun c => c.toInt8.toInt32)).map Value.int) h131 n0 O E_b131 F_b131_Unit_set F_b131_Unit_index g_b131 hi2 E_s_123 F_s_123_String_value V_t_124 ne_s_123_b131 ne_t_124_b131) hZ (ow hw 40) (ow hw 37) (by decide) (by decide)) (g := (mkF m 138 #[.val (.int p0), .val (.int p1), .val (.int p2), .val (.int p3), .val (.int p4), .val (.int 2), .val (.int 1), .val (.int ((p0 &&& (255 : Int32)).toUInt32.toUInt16.toUInt32.toInt32)), .val (.int ((((p0.toUInt32 >>> ((8 : Int32) &&& 31).toUInt32).toInt32) &&& (255 : Int32)).toUInt32.toUInt16.toUInt32.toInt32)), .val (.int d0), .val (.int d1), .val (.int i1), .val (.int i2), .val (.ref s_118), .val (.ref s_123), .val (.ref b127), .unset, .unset, .unset, .unset, .unset, .unset, .unset, .unset] [(.int i2), (.ref s_123), (.ref b131), (.ref b131)])) rfl (by rw [hml]; rfl) (Steps.refl _) (a := b131) (argsL := [(.ref s_123), (.int i2)]) (rest := [(.ref b131)]) (lenOf pd_5 rfl) rfl (by show 2 * 0 + _ ≤ _; exact Nat.le_of_eq rfl) (hb hby at_138) (fun _ _ => ⟨rfl, e131, (by decide : 10 + 2 ≤ _), (by decide : 34 + 16 ≤ _)⟩)
    dsimp only [Pt.U, Pt.locs, Pt.cells, Pt.slots] at X133 l133 y133 z133 st133 hQ133
    subst l133 y133 z133
    obtain ⟨X133, hS, hZ, hown⟩ := rebS hS (Nat.le_trans hk (Nat.le_of_eq (congrArg Array.size e131).symm)) X133 hS133 hg133 hZ hown
    obtain ⟨rfl, N133q, Kq133, P133_0, P133_1, P133_2⟩ := hQ133
    refine own_go (fun _ k => st133.trans k) ?_
    have N133 := Fr.app N129 N133q
    have E_s_118 := E_s_118.keep Kq133
    have F_s_118_String_coder := F_s_118_String_coder.keep Kq133 (ninS ne_s_118_b131 nin0)
    have F_s_118_String_value := F_s_118_String_value.keep Kq133 (ninS ne_s_118_b131 nin0)
    have V_t_119 := V_t_119.keep Kq133 (ninS ne_t_119_b131 nin0)
    have E_s_123 := E_s_123.keep Kq133
    have F_s_123_String_coder := F_s_123_String_coder.keep Kq133 (ninS ne_s_123_b131 nin0)
    have F_s_123_String_value := F_s_123_String_value.keep Kq133 (ninS ne_s_123_b131 nin0)
    have V_t_124 := V_t_124.keep Kq133 (ninS ne_t_124_b131 nin0)
    have E_b127 := E_b127.keep Kq133
    have F_b127_Unit_set := F_b127_Unit_set.keep Kq133 (ninS ne_b127_b131 nin0)
    have F_b127_Unit_index := F_b127_Unit_index.keep Kq133 (ninS ne_b127_b131 nin0)
    have E_b131 := E_b131.keep Kq133
    clear F_b131_Unit_set
    clear F_b131_Unit_index
    have O := O.keep Kq133 (allS g_b131 all0)
    have K134 := K132.trans Kq133 (allS (Or.inr sz_b131) all0)
    have hk := Nat.le_refl T133.heap.size
    have E_b131 := P133_0
    have F_b131_Unit_set := P133_1
    have F_b131_Unit_index := P133_2
    show own_Fin p e below (T133.setTop (mkF m 141 #[.val (.int p0), .val (.int p1), .val (.int p2), .val (.int p3), .val (.int p4), .val (.int 2), .val (.int 1), .val (.int ((p0 &&& (255 : Int32)).toUInt32.toUInt16.toUInt32.toInt32)), .val (.int ((((p0.toUInt32 >>> ((8 : Int32) &&& 31).toUInt32).toInt32) &&& (255 : Int32)).toUInt32.toUInt16.toUInt32.toInt32)), .val (.int d0), .val (.int d1), .val (.int i1), .val (.int i2), .val (.ref s_118), .val (.ref s_123), .val (.ref b127), .unset, .unset, .unset, .unset, .unset, .unset, .unset, .unset] [(.ref b131)])) _
    refine own_go (fun _ k => XS.astore X133.here hx rfl (hb hby at_141) rfl rfl (l' := #[.val (.int p0), .val (.int p1), .val (.int p2), .val (.int p3), .val (.int p4), .val (.int 2), .val (.int 1), .val (.int ((p0 &&& (255 : Int32)).toUInt32.toUInt16.toUInt32.toInt32)), .val (.int ((((p0.toUInt32 >>> ((8 : Int32) &&& 31).toUInt32).toInt32) &&& (255 : Int32)).toUInt32.toUInt16.toUInt32.toInt32)), .val (.int d0), .val (.int d1), .val (.int i1), .val (.int i2), .val (.ref s_118), .val (.ref s_123), .val (.ref b127), .val (.ref b131), .unset, .unset, .unset, .unset, .unset, .unset, .unset]) rfl k) ?_
    show own_Fin p e below (T133.setTop (mkF m 143 #[.val (.int p0), .val (.int p1), .val (.int p2), .val (.int p3), .val (.int p4), .val (.int 2), .val (.int 1), .val (.int ((p0 &&& (255 : Int32)).toUInt32.toUInt16.toUInt32.toInt32)), .val (.int ((((p0.toUInt32 >>> ((8 : Int32) &&& 31).toUInt32).toInt32) &&& (255 : Int32)).toUInt32.toUInt16.toUInt32.toInt32)), .val (.int d0), .val (.int d1), .val (.int i1), .val (.int i2), .val (.ref s_118), .val (.ref s_123), .val (.ref b127), .val (.ref b131), .unset, .unset, .unset, .unset, .unset, .unset, .unset] [])) _
    have j2 : ∀ (f17 : Int32) (ex : Int32), ex = own_bi (i1 = i2 ∧ ([(nar .char ((p0 &&& (255 : Int32)).toUInt32.toUInt16.toUInt32.toInt32)), (nar .char ((((p0.toUInt32 >>> ((8 : Int32) &&& 31).toUInt32).toInt32) &&& (255 : Int32)).toUInt32.toUInt16.toUInt32.toInt32))] : List Int32) = ([(nar .char d0)] : List Int32)) → own_Fin p e below (T133.setTop (mkF m 196 #[.val (.int p0), .val (.int p1), .val (.int p2), .val (.int p3), .val (.int p4), .val (.int 2), .val (.int 1), .val (.int ((p0 &&& (255 : Int32)).toUInt32.toUInt16.toUInt32.toInt32)), .val (.int ((((p0.toUInt32 >>> ((8 : Int32) &&& 31).toUInt32).toInt32) &&& (255 : Int32)).toUInt32.toUInt16.toUInt32.toInt32)), .val (.int d0), .val (.int d1), .val (.int i1), .val (.int i2), .val (.ref s_118), .val (.ref s_123), .val (.ref b127), .val (.ref b131), .val (.int f17), .val (.int ex), .unset, .unset, .unset, .unset, .unset] [])) (fun o' t' => ∃ v' L', o' = .returned v' ∧ Qrm0 Z p0 p1 p2 p3 p4 z h0 n0 v' t'.heap L' ∧ ReturnedEndW s o' t' L' 12 52) := by
     intro f17 ex hex
     show own_Fin p e below (T133.setTop (mkF m 196 #[.val (.int p0), .val (.int p1), .val (.int p2), .val (.int p3), .val (.int p4), .val (.int 2), .val (.int 1), .val (.int ((p0 &&& (255 : Int32)).toUInt32.toUInt16.toUInt32.toInt32)), .val (.int ((((p0.toUInt32 >>> ((8 : Int32) &&& 31).toUInt32).toInt32) &&& (255 : Int32)).toUInt32.toUInt16.toUInt32.toInt32)), .val (.int d0), .val (.int d1), .val (.int i1), .val (.int i2), .val (.ref s_118), .val (.ref s_123), .val (.ref b127), .val (.ref b131), .val (.int f17), .val (.int ex), .unset, .unset, .unset, .unset, .unset] [])) _
     refine own_go (fun _ k => XS.aload X133.here hx rfl (hb hby at_196) rfl rfl (XS.aload X133.here hx rfl (hb hby at_198) rfl rfl k)) ?_
     show own_Fin p e below (T133.setTop (mkF m 200 #[.val (.int p0), .val (.int p1), .val (.int p2), .val (.int p3), .val (.int p4), .val (.int 2), .val (.int 1), .val (.int ((p0 &&& (255 : Int32)).toUInt32.toUInt16.toUInt32.toInt32)), .val (.int ((((p0.toUInt32 >>> ((8 : Int32) &&& 31).toUInt32).toInt32) &&& (255 : Int32)).toUInt32.toUInt16.toUInt32.toInt32)), .val (.int d0), .val (.int d1), .val (.int i1), .val (.int i2), .val (.ref s_118), .val (.ref s_123), .val (.ref b127), .val (.ref b131), .val (.int f17), .val (.int ex), .unset, .unset, .unset, .unset, .unset] [(.ref b131), (.ref b127)])) _
     obtain ⟨cq135, kq135, q135a, q135b, q135c⟩ := isOf hZ rfl E_b127
     obtain ⟨_, _, ⟨T135, L135, k135, n135⟩, -, X135, ⟨Lc135, hQ135, l135, y135, z135⟩, st135⟩ := X133.virtualBack hx (y := (⟨"com/example/lokahi/lokahi/Unit", "equals", "(Ljava/lang/Object;)Z"⟩ : MethodName)) (z := (⟨"com/example/lokahi/lokahi/Unit", "equals", "(Ljava/lang/Object;)Z"⟩ : MethodName)) hown (mvT hZ (ow hw 58)) (mvT hZ (ow hw 59)) (notFace_of_selects (args := #[]) (mvT hZ (ow hw 61))) (mvT hZ (ow hw 61)) (mvT hZ (ow hw 60)) (by decide) (backOf (W := 0) (rmeU l Z a0 hw [] b127 b131 i1 i2 s_118 t_119 kb_120 ([(nar .char ((p0 &&& (255 : Int32)).toUInt32.toUInt16.toUInt32.toInt32)), (nar .char ((((p0.toUInt32 >>> ((8 : Int32) &&& 31).toUInt32).toInt32) &&& (255 : Int32)).toUInt32.toUInt16.toUInt32.toInt32))] : List Int32) s_123 t_124 kb_125 ([(nar .char d0)] : List Int32) z (T133.heap) n0 O S_String_COMPACT_STRINGS hz E_b127 E_b131 F_b127_Unit_set F_b127_Unit_index F_b131_Unit_set F_b131_Unit_index E_s_118 F_s_118_String_coder F_s_118_String_value V_t_119 E_s_123 F_s_123_String_coder F_s_123_String_value V_t_124 ne_b127_b131 (own_hp2 (own_255 _) (own_255 _)) (own_hp1 hd0) (Nat.le_of_ble_eq_true rfl) (Nat.le_of_ble_eq_true rfl)) hZ (ow hw 62) (ow hw 37) (by decide) (by decide)) q135a q135c (g := (mkF m 200 #[.val (.int p0), .val (.int p1), .val (.int p2), .val (.int p3), .val (.int p4), .val (.int 2), .val (.int 1), .val (.int ((p0 &&& (255 : Int32)).toUInt32.toUInt16.toUInt32.toInt32)), .val (.int ((((p0.toUInt32 >>> ((8 : Int32) &&& 31).toUInt32).toInt32) &&& (255 : Int32)).toUInt32.toUInt16.toUInt32.toInt32)), .val (.int d0), .val (.int d1), .val (.int i1), .val (.int i2), .val (.ref s_118), .val (.ref s_123), .val (.ref b127), .val (.ref b131), .val (.int f17), .val (.int ex), .unset, .unset, .unset, .unset, .unset] [(.ref b131), (.ref b127)])) rfl (by rw [hml]; rfl) (Steps.refl _) (argsL := [(.ref b131)]) (rest := []) (lenOf pd_3 rfl) rfl (by show 2 * 0 + _ ≤ _; exact Nat.le_of_eq rfl) (hb hby at_200) (fun _ _ => ⟨rfl, rfl, (by decide : 12 + 0 ≤ _), (by decide : 50 + 0 ≤ _)⟩)
     dsimp only [Pt.U, Pt.locs, Pt.cells, Pt.slots] at X135 l135 y135 z135 st135 hQ135
     subst l135 y135 z135
     obtain ⟨rfl, N135q, e135⟩ := hQ135
     refine own_go (fun _ k => st135.trans k) ?_
     have N135 := Fr.app N133 N135q
     show own_Fin p e below (T135.setTop (mkF m 203 #[.val (.int p0), .val (.int p1), .val (.int p2), .val (.int p3), .val (.int p4), .val (.int 2), .val (.int 1), .val (.int ((p0 &&& (255 : Int32)).toUInt32.toUInt16.toUInt32.toInt32)), .val (.int ((((p0.toUInt32 >>> ((8 : Int32) &&& 31).toUInt32).toInt32) &&& (255 : Int32)).toUInt32.toUInt16.toUInt32.toInt32)), .val (.int d0), .val (.int d1), .val (.int i1), .val (.int i2), .val (.ref s_118), .val (.ref s_123), .val (.ref b127), .val (.ref b131), .val (.int f17), .val (.int ex), .unset, .unset, .unset, .unset, .unset] [(.int (own_bi (i1 = i2 ∧ ([(nar .char ((p0 &&& (255 : Int32)).toUInt32.toUInt16.toUInt32.toInt32)), (nar .char ((((p0.toUInt32 >>> ((8 : Int32) &&& 31).toUInt32).toInt32) &&& (255 : Int32)).toUInt32.toUInt16.toUInt32.toInt32))] : List Int32) = ([(nar .char d0)] : List Int32))))])) _
     refine own_go (fun _ k => XS.istore X135.here hx rfl (hb hby at_203) rfl (l' := #[.val (.int p0), .val (.int p1), .val (.int p2), .val (.int p3), .val (.int p4), .val (.int 2), .val (.int 1), .val (.int ((p0 &&& (255 : Int32)).toUInt32.toUInt16.toUInt32.toInt32)), .val (.int ((((p0.toUInt32 >>> ((8 : Int32) &&& 31).toUInt32).toInt32) &&& (255 : Int32)).toUInt32.toUInt16.toUInt32.toInt32)), .val (.int d0), .val (.int d1), .val (.int i1), .val (.int i2), .val (.ref s_118), .val (.ref s_123), .val (.ref b127), .val (.ref b131), .val (.int f17), .val (.int ex), .val (.int (own_bi (i1 = i2 ∧ ([(nar .char ((p0 &&& (255 : Int32)).toUInt32.toUInt16.toUInt32.toInt32)), (nar .char ((((p0.toUInt32 >>> ((8 : Int32) &&& 31).toUInt32).toInt32) &&& (255 : Int32)).toUInt32.toUInt16.toUInt32.toInt32))] : List Int32) = ([(nar .char d0)] : List Int32)))), .unset, .unset, .unset, .unset]) rfl (XS.aload X135.here hx rfl (hb hby at_205) rfl rfl (XS.aload X135.here hx rfl (hb hby at_207) rfl rfl k))) ?_
     show own_Fin p e below (T135.setTop (mkF m 209 #[.val (.int p0), .val (.int p1), .val (.int p2), .val (.int p3), .val (.int p4), .val (.int 2), .val (.int 1), .val (.int ((p0 &&& (255 : Int32)).toUInt32.toUInt16.toUInt32.toInt32)), .val (.int ((((p0.toUInt32 >>> ((8 : Int32) &&& 31).toUInt32).toInt32) &&& (255 : Int32)).toUInt32.toUInt16.toUInt32.toInt32)), .val (.int d0), .val (.int d1), .val (.int i1), .val (.int i2), .val (.ref s_118), .val (.ref s_123), .val (.ref b127), .val (.ref b131), .val (.int f17), .val (.int ex), .val (.int (own_bi (i1 = i2 ∧ ([(nar .char ((p0 &&& (255 : Int32)).toUInt32.toUInt16.toUInt32.toInt32)), (nar .char ((((p0.toUInt32 >>> ((8 : Int32) &&& 31).toUInt32).toInt32) &&& (255 : Int32)).toUInt32.toUInt16.toUInt32.toInt32))] : List Int32) = ([(nar .char d0)] : List Int32)))), .unset, .unset, .unset, .unset] [(.ref b127), (.ref b131)])) _
     obtain ⟨cq136, kq136, q136a, q136b, q136c⟩ := isOf hZ e135 E_b131
     obtain ⟨_, _, ⟨T136, L136, k136, n136⟩, -, X136, ⟨Lc136, hQ136, l136, y136, z136⟩, st136⟩ := X135.virtualBack hx (y := (⟨"com/example/lokahi/lokahi/Unit", "equals", "(Ljava/lang/Object;)Z"⟩ : MethodName)) (z := (⟨"com/example/lokahi/lokahi/Unit", "equals", "(Ljava/lang/Object;)Z"⟩ : MethodName)) hown (mvT hZ (ow hw 58)) (mvT hZ (ow hw 59)) (notFace_of_selects (args := #[]) (mvT hZ (ow hw 61))) (mvT hZ (ow hw 61)) (mvT hZ (ow hw 60)) (by decide) (backOf (W := 0) (rmeU l Z a0 hw [] b131 b127 i2 i1 s_123 t_124 kb_125 ([(nar .char d0)] : List Int32) s_118 t_119 kb_120 ([(nar .char ((p0 &&& (255 : Int32)).toUInt32.toUInt16.toUInt32.toInt32)), (nar .char ((((p0.toUInt32 >>> ((8 : Int32) &&& 31).toUInt32).toInt32) &&& (255 : Int32)).toUInt32.toUInt16.toUInt32.toInt32))] : List Int32) z (T133.heap) n0 O S_String_COMPACT_STRINGS hz E_b131 E_b127 F_b131_Unit_set F_b131_Unit_index F_b127_Unit_set F_b127_Unit_index E_s_123 F_s_123_String_coder F_s_123_String_value V_t_124 E_s_118 F_s_118_String_coder F_s_118_String_value V_t_119 (Ne.symm ne_b127_b131) (own_hp1 hd0) (own_hp2 (own_255 _) (own_255 _)) (Nat.le_of_ble_eq_true rfl) (Nat.le_of_ble_eq_true rfl)) hZ (ow hw 62) (ow hw 37) (by decide) (by decide)) q136a q136c (g := (mkF m 209 #[.val (.int p0), .val (.int p1), .val (.int p2), .val (.int p3), .val (.int p4), .val (.int 2), .val (.int 1), .val (.int ((p0 &&& (255 : Int32)).toUInt32.toUInt16.toUInt32.toInt32)), .val (.int ((((p0.toUInt32 >>> ((8 : Int32) &&& 31).toUInt32).toInt32) &&& (255 : Int32)).toUInt32.toUInt16.toUInt32.toInt32)), .val (.int d0), .val (.int d1), .val (.int i1), .val (.int i2), .val (.ref s_118), .val (.ref s_123), .val (.ref b127), .val (.ref b131), .val (.int f17), .val (.int ex), .val (.int (own_bi (i1 = i2 ∧ ([(nar .char ((p0 &&& (255 : Int32)).toUInt32.toUInt16.toUInt32.toInt32)), (nar .char ((((p0.toUInt32 >>> ((8 : Int32) &&& 31).toUInt32).toInt32) &&& (255 : Int32)).toUInt32.toUInt16.toUInt32.toInt32))] : List Int32) = ([(nar .char d0)] : List Int32)))), .unset, .unset, .unset, .unset] [(.ref b127), (.ref b131)])) rfl (by rw [hml]; rfl) (Steps.refl _) (argsL := [(.ref b127)]) (rest := []) (lenOf pd_3 rfl) rfl (by show 2 * 0 + _ ≤ _; exact Nat.le_of_eq rfl) (hb hby at_209) (fun _ _ => ⟨rfl, e135, (by decide : 12 + 0 ≤ _), (by decide : 50 + 0 ≤ _)⟩)
     dsimp only [Pt.U, Pt.locs, Pt.cells, Pt.slots] at X136 l136 y136 z136 st136 hQ136
     subst l136 y136 z136
     obtain ⟨rfl, N136q, e136⟩ := hQ136
     refine own_go (fun _ k => st136.trans k) ?_
     have N136 := Fr.app N135 N136q
     show own_Fin p e below (T136.setTop (mkF m 212 #[.val (.int p0), .val (.int p1), .val (.int p2), .val (.int p3), .val (.int p4), .val (.int 2), .val (.int 1), .val (.int ((p0 &&& (255 : Int32)).toUInt32.toUInt16.toUInt32.toInt32)), .val (.int ((((p0.toUInt32 >>> ((8 : Int32) &&& 31).toUInt32).toInt32) &&& (255 : Int32)).toUInt32.toUInt16.toUInt32.toInt32)), .val (.int d0), .val (.int d1), .val (.int i1), .val (.int i2), .val (.ref s_118), .val (.ref s_123), .val (.ref b127), .val (.ref b131), .val (.int f17), .val (.int ex), .val (.int (own_bi (i1 = i2 ∧ ([(nar .char ((p0 &&& (255 : Int32)).toUInt32.toUInt16.toUInt32.toInt32)), (nar .char ((((p0.toUInt32 >>> ((8 : Int32) &&& 31).toUInt32).toInt32) &&& (255 : Int32)).toUInt32.toUInt16.toUInt32.toInt32))] : List Int32) = ([(nar .char d0)] : List Int32)))), .unset, .unset, .unset, .unset] [(.int (own_bi (i2 = i1 ∧ ([(nar .char d0)] : List Int32) = ([(nar .char ((p0 &&& (255 : Int32)).toUInt32.toUInt16.toUInt32.toInt32)), (nar .char ((((p0.toUInt32 >>> ((8 : Int32) &&& 31).toUInt32).toInt32) &&& (255 : Int32)).toUInt32.toUInt16.toUInt32.toInt32))] : List Int32))))])) _
     refine own_go (fun _ k => XS.istore X136.here hx rfl (hb hby at_212) rfl (l' := #[.val (.int p0), .val (.int p1), .val (.int p2), .val (.int p3), .val (.int p4), .val (.int 2), .val (.int 1), .val (.int ((p0 &&& (255 : Int32)).toUInt32.toUInt16.toUInt32.toInt32)), .val (.int ((((p0.toUInt32 >>> ((8 : Int32) &&& 31).toUInt32).toInt32) &&& (255 : Int32)).toUInt32.toUInt16.toUInt32.toInt32)), .val (.int d0), .val (.int d1), .val (.int i1), .val (.int i2), .val (.ref s_118), .val (.ref s_123), .val (.ref b127), .val (.ref b131), .val (.int f17), .val (.int ex), .val (.int (own_bi (i1 = i2 ∧ ([(nar .char ((p0 &&& (255 : Int32)).toUInt32.toUInt16.toUInt32.toInt32)), (nar .char ((((p0.toUInt32 >>> ((8 : Int32) &&& 31).toUInt32).toInt32) &&& (255 : Int32)).toUInt32.toUInt16.toUInt32.toInt32))] : List Int32) = ([(nar .char d0)] : List Int32)))), .val (.int (own_bi (i2 = i1 ∧ ([(nar .char d0)] : List Int32) = ([(nar .char ((p0 &&& (255 : Int32)).toUInt32.toUInt16.toUInt32.toInt32)), (nar .char ((((p0.toUInt32 >>> ((8 : Int32) &&& 31).toUInt32).toInt32) &&& (255 : Int32)).toUInt32.toUInt16.toUInt32.toInt32))] : List Int32)))), .unset, .unset, .unset]) rfl (XS.aload X136.here hx rfl (hb hby at_214) rfl rfl (XS.aload X136.here hx rfl (hb hby at_216) rfl rfl k))) ?_
     show own_Fin p e below (T136.setTop (mkF m 218 #[.val (.int p0), .val (.int p1), .val (.int p2), .val (.int p3), .val (.int p4), .val (.int 2), .val (.int 1), .val (.int ((p0 &&& (255 : Int32)).toUInt32.toUInt16.toUInt32.toInt32)), .val (.int ((((p0.toUInt32 >>> ((8 : Int32) &&& 31).toUInt32).toInt32) &&& (255 : Int32)).toUInt32.toUInt16.toUInt32.toInt32)), .val (.int d0), .val (.int d1), .val (.int i1), .val (.int i2), .val (.ref s_118), .val (.ref s_123), .val (.ref b127), .val (.ref b131), .val (.int f17), .val (.int ex), .val (.int (own_bi (i1 = i2 ∧ ([(nar .char ((p0 &&& (255 : Int32)).toUInt32.toUInt16.toUInt32.toInt32)), (nar .char ((((p0.toUInt32 >>> ((8 : Int32) &&& 31).toUInt32).toInt32) &&& (255 : Int32)).toUInt32.toUInt16.toUInt32.toInt32))] : List Int32) = ([(nar .char d0)] : List Int32)))), .val (.int (own_bi (i2 = i1 ∧ ([(nar .char d0)] : List Int32) = ([(nar .char ((p0 &&& (255 : Int32)).toUInt32.toUInt16.toUInt32.toInt32)), (nar .char ((((p0.toUInt32 >>> ((8 : Int32) &&& 31).toUInt32).toInt32) &&& (255 : Int32)).toUInt32.toUInt16.toUInt32.toInt32))] : List Int32)))), .unset, .unset, .unset] [(.ref b127), (.ref b127)])) _
     obtain ⟨cq137, kq137, q137a, q137b, q137c⟩ := isOf hZ e136 E_b127
     obtain ⟨_, _, ⟨T137, L137, k137, n137⟩, -, X137, ⟨Lc137, hQ137, l137, y137, z137⟩, st137⟩ := X136.virtualBack hx (y := (⟨"com/example/lokahi/lokahi/Unit", "equals", "(Ljava/lang/Object;)Z"⟩ : MethodName)) (z := (⟨"com/example/lokahi/lokahi/Unit", "equals", "(Ljava/lang/Object;)Z"⟩ : MethodName)) hown (mvT hZ (ow hw 58)) (mvT hZ (ow hw 59)) (notFace_of_selects (args := #[]) (mvT hZ (ow hw 61))) (mvT hZ (ow hw 61)) (mvT hZ (ow hw 60)) (by decide) (backOf (W := 0) (rmeS l Z a0 hw [] b127 (T133.heap) n0 O ) hZ (ow hw 62) (ow hw 37) (by decide) (by decide)) q137a q137c (g := (mkF m 218 #[.val (.int p0), .val (.int p1), .val (.int p2), .val (.int p3), .val (.int p4), .val (.int 2), .val (.int 1), .val (.int ((p0 &&& (255 : Int32)).toUInt32.toUInt16.toUInt32.toInt32)), .val (.int ((((p0.toUInt32 >>> ((8 : Int32) &&& 31).toUInt32).toInt32) &&& (255 : Int32)).toUInt32.toUInt16.toUInt32.toInt32)), .val (.int d0), .val (.int d1), .val (.int i1), .val (.int i2), .val (.ref s_118), .val (.ref s_123), .val (.ref b127), .val (.ref b131), .val (.int f17), .val (.int ex), .val (.int (own_bi (i1 = i2 ∧ ([(nar .char ((p0 &&& (255 : Int32)).toUInt32.toUInt16.toUInt32.toInt32)), (nar .char ((((p0.toUInt32 >>> ((8 : Int32) &&& 31).toUInt32).toInt32) &&& (255 : Int32)).toUInt32.toUInt16.toUInt32.toInt32))] : List Int32) = ([(nar .char d0)] : List Int32)))), .val (.int (own_bi (i2 = i1 ∧ ([(nar .char d0)] : List Int32) = ([(nar .char ((p0 &&& (255 : Int32)).toUInt32.toUInt16.toUInt32.toInt32)), (nar .char ((((p0.toUInt32 >>> ((8 : Int32) &&& 31).toUInt32).toInt32) &&& (255 : Int32)).toUInt32.toUInt16.toUInt32.toInt32))] : List Int32)))), .unset, .unset, .unset] [(.ref b127), (.ref b127)])) rfl (by rw [hml]; rfl) (Steps.refl _) (argsL := [(.ref b127)]) (rest := []) (lenOf pd_3 rfl) rfl (by show 2 * 0 + _ ≤ _; exact Nat.le_of_eq rfl) (hb hby at_218) (fun _ _ => ⟨rfl, e136, (by decide : 12 + 0 ≤ _), (by decide : 50 + 0 ≤ _)⟩)
     dsimp only [Pt.U, Pt.locs, Pt.cells, Pt.slots] at X137 l137 y137 z137 st137 hQ137
     subst l137 y137 z137
     obtain ⟨rfl, N137q, e137⟩ := hQ137
     refine own_go (fun _ k => st137.trans k) ?_
     have N137 := Fr.app N136 N137q
     show own_Fin p e below (T137.setTop (mkF m 221 #[.val (.int p0), .val (.int p1), .val (.int p2), .val (.int p3), .val (.int p4), .val (.int 2), .val (.int 1), .val (.int ((p0 &&& (255 : Int32)).toUInt32.toUInt16.toUInt32.toInt32)), .val (.int ((((p0.toUInt32 >>> ((8 : Int32) &&& 31).toUInt32).toInt32) &&& (255 : Int32)).toUInt32.toUInt16.toUInt32.toInt32)), .val (.int d0), .val (.int d1), .val (.int i1), .val (.int i2), .val (.ref s_118), .val (.ref s_123), .val (.ref b127), .val (.ref b131), .val (.int f17), .val (.int ex), .val (.int (own_bi (i1 = i2 ∧ ([(nar .char ((p0 &&& (255 : Int32)).toUInt32.toUInt16.toUInt32.toInt32)), (nar .char ((((p0.toUInt32 >>> ((8 : Int32) &&& 31).toUInt32).toInt32) &&& (255 : Int32)).toUInt32.toUInt16.toUInt32.toInt32))] : List Int32) = ([(nar .char d0)] : List Int32)))), .val (.int (own_bi (i2 = i1 ∧ ([(nar .char d0)] : List Int32) = ([(nar .char ((p0 &&& (255 : Int32)).toUInt32.toUInt16.toUInt32.toInt32)), (nar .char ((((p0.toUInt32 >>> ((8 : Int32) &&& 31).toUInt32).toInt32) &&& (255 : Int32)).toUInt32.toUInt16.toUInt32.toInt32))] : List Int32)))), .unset, .unset, .unset] [(.int 1)])) _
     refine own_go (fun _ k => XS.istore X137.here hx rfl (hb hby at_221) rfl (l' := #[.val (.int p0), .val (.int p1), .val (.int p2), .val (.int p3), .val (.int p4), .val (.int 2), .val (.int 1), .val (.int ((p0 &&& (255 : Int32)).toUInt32.toUInt16.toUInt32.toInt32)), .val (.int ((((p0.toUInt32 >>> ((8 : Int32) &&& 31).toUInt32).toInt32) &&& (255 : Int32)).toUInt32.toUInt16.toUInt32.toInt32)), .val (.int d0), .val (.int d1), .val (.int i1), .val (.int i2), .val (.ref s_118), .val (.ref s_123), .val (.ref b127), .val (.ref b131), .val (.int f17), .val (.int ex), .val (.int (own_bi (i1 = i2 ∧ ([(nar .char ((p0 &&& (255 : Int32)).toUInt32.toUInt16.toUInt32.toInt32)), (nar .char ((((p0.toUInt32 >>> ((8 : Int32) &&& 31).toUInt32).toInt32) &&& (255 : Int32)).toUInt32.toUInt16.toUInt32.toInt32))] : List Int32) = ([(nar .char d0)] : List Int32)))), .val (.int (own_bi (i2 = i1 ∧ ([(nar .char d0)] : List Int32) = ([(nar .char ((p0 &&& (255 : Int32)).toUInt32.toUInt16.toUInt32.toInt32)), (nar .char ((((p0.toUInt32 >>> ((8 : Int32) &&& 31).toUInt32).toInt32) &&& (255 : Int32)).toUInt32.toUInt16.toUInt32.toInt32))] : List Int32)))), .val (.int 1), .unset, .unset]) rfl (XS.aload X137.here hx rfl (hb hby at_223) rfl rfl (XS.aconstNull X137.here hx rfl (hb hby at_225) k))) ?_
     show own_Fin p e below (T137.setTop (mkF m 226 #[.val (.int p0), .val (.int p1), .val (.int p2), .val (.int p3), .val (.int p4), .val (.int 2), .val (.int 1), .val (.int ((p0 &&& (255 : Int32)).toUInt32.toUInt16.toUInt32.toInt32)), .val (.int ((((p0.toUInt32 >>> ((8 : Int32) &&& 31).toUInt32).toInt32) &&& (255 : Int32)).toUInt32.toUInt16.toUInt32.toInt32)), .val (.int d0), .val (.int d1), .val (.int i1), .val (.int i2), .val (.ref s_118), .val (.ref s_123), .val (.ref b127), .val (.ref b131), .val (.int f17), .val (.int ex), .val (.int (own_bi (i1 = i2 ∧ ([(nar .char ((p0 &&& (255 : Int32)).toUInt32.toUInt16.toUInt32.toInt32)), (nar .char ((((p0.toUInt32 >>> ((8 : Int32) &&& 31).toUInt32).toInt32) &&& (255 : Int32)).toUInt32.toUInt16.toUInt32.toInt32))] : List Int32) = ([(nar .char d0)] : List Int32)))), .val (.int (own_bi (i2 = i1 ∧ ([(nar .char d0)] : List Int32) = ([(nar .char ((p0 &&& (255 : Int32)).toUInt32.toUInt16.toUInt32.toInt32)), (nar .char ((((p0.toUInt32 >>> ((8 : Int32) &&& 31).toUInt32).toInt32) &&& (255 : Int32)).toUInt32.toUInt16.toUInt32.toInt32))] : List Int32)))), .val (.int 1), .unset, .unset] [.null, (.ref b127)])) _
     obtain ⟨cq138, kq138, q138a, q138b, q138c⟩ := isOf hZ e137 E_b127
     obtain ⟨_, _, ⟨T138, L138, k138, n138⟩, -, X138, ⟨Lc138, hQ138, l138, y138, z138⟩, st138⟩ := X137.virtualBack hx (y := (⟨"com/example/lokahi/lokahi/Unit", "equals", "(Ljava/lang/Object;)Z"⟩ : MethodName)) (z := (⟨"com/example/lokahi/lokahi/Unit", "equals", "(Ljava/lang/Object;)Z"⟩ : MethodName)) hown (mvT hZ (ow hw 58)) (mvT hZ (ow hw 59)) (notFace_of_selects (args := #[]) (mvT hZ (ow hw 61))) (mvT hZ (ow hw 61)) (mvT hZ (ow hw 60)) (by decide) (backOf (W := 0) (rmeN l Z a0 hw [] b127 (T133.heap) n0 O ) hZ (ow hw 62) (ow hw 37) (by decide) (by decide)) q138a q138c (g := (mkF m 226 #[.val (.int p0), .val (.int p1), .val (.int p2), .val (.int p3), .val (.int p4), .val (.int 2), .val (.int 1), .val (.int ((p0 &&& (255 : Int32)).toUInt32.toUInt16.toUInt32.toInt32)), .val (.int ((((p0.toUInt32 >>> ((8 : Int32) &&& 31).toUInt32).toInt32) &&& (255 : Int32)).toUInt32.toUInt16.toUInt32.toInt32)), .val (.int d0), .val (.int d1), .val (.int i1), .val (.int i2), .val (.ref s_118), .val (.ref s_123), .val (.ref b127), .val (.ref b131), .val (.int f17), .val (.int ex), .val (.int (own_bi (i1 = i2 ∧ ([(nar .char ((p0 &&& (255 : Int32)).toUInt32.toUInt16.toUInt32.toInt32)), (nar .char ((((p0.toUInt32 >>> ((8 : Int32) &&& 31).toUInt32).toInt32) &&& (255 : Int32)).toUInt32.toUInt16.toUInt32.toInt32))] : List Int32) = ([(nar .char d0)] : List Int32)))), .val (.int (own_bi (i2 = i1 ∧ ([(nar .char d0)] : List Int32) = ([(nar .char ((p0 &&& (255 : Int32)).toUInt32.toUInt16.toUInt32.toInt32)), (nar .char ((((p0.toUInt32 >>> ((8 : Int32) &&& 31).toUInt32).toInt32) &&& (255 : Int32)).toUInt32.toUInt16.toUInt32.toInt32))] : List Int32)))), .val (.int 1), .unset, .unset] [.null, (.ref b127)])) rfl (by rw [hml]; rfl) (Steps.refl _) (argsL := [.null]) (rest := []) (lenOf pd_3 rfl) rfl (by show 2 * 0 + _ ≤ _; exact Nat.le_of_eq rfl) (hb hby at_226) (fun _ _ => ⟨rfl, e137, (by decide : 12 + 0 ≤ _), (by decide : 50 + 0 ≤ _)⟩)
     dsimp only [Pt.U, Pt.locs, Pt.cells, Pt.slots] at X138 l138 y138 z138 st138 hQ138
     subst l138 y138 z138
     obtain ⟨rfl, N138q, e138⟩ := hQ138
     refine own_go (fun _ k => st138.trans k) ?_
     have N138 := Fr.app N137 N138q
     show own_Fin p e below (T138.setTop (mkF m 229 #[.val (.int p0), .val (.int p1), .val (.int p2), .val (.int p3), .val (.int p4), .val (.int 2), .val (.int 1), .val (.int ((p0 &&& (255 : Int32)).toUInt32.toUInt16.toUInt32.toInt32)), .val (.int ((((p0.toUInt32 >>> ((8 : Int32) &&& 31).toUInt32).toInt32) &&& (255 : Int32)).toUInt32.toUInt16.toUInt32.toInt32)), .val (.int d0), .val (.int d1), .val (.int i1), .val (.int i2), .val (.ref s_118), .val (.ref s_123), .val (.ref b127), .val (.ref b131), .val (.int f17), .val (.int ex), .val (.int (own_bi (i1 = i2 ∧ ([(nar .char ((p0 &&& (255 : Int32)).toUInt32.toUInt16.toUInt32.toInt32)), (nar .char ((((p0.toUInt32 >>> ((8 : Int32) &&& 31).toUInt32).toInt32) &&& (255 : Int32)).toUInt32.toUInt16.toUInt32.toInt32))] : List Int32) = ([(nar .char d0)] : List Int32)))), .val (.int (own_bi (i2 = i1 ∧ ([(nar .char d0)] : List Int32) = ([(nar .char ((p0 &&& (255 : Int32)).toUInt32.toUInt16.toUInt32.toInt32)), (nar .char ((((p0.toUInt32 >>> ((8 : Int32) &&& 31).toUInt32).toInt32) &&& (255 : Int32)).toUInt32.toUInt16.toUInt32.toInt32))] : List Int32)))), .val (.int 1), .unset, .unset] [(.int 0)])) _
     refine own_go (fun _ k => XS.istore X138.here hx rfl (hb hby at_229) rfl (l' := #[.val (.int p0), .val (.int p1), .val (.int p2), .val (.int p3), .val (.int p4), .val (.int 2), .val (.int 1), .val (.int ((p0 &&& (255 : Int32)).toUInt32.toUInt16.toUInt32.toInt32)), .val (.int ((((p0.toUInt32 >>> ((8 : Int32) &&& 31).toUInt32).toInt32) &&& (255 : Int32)).toUInt32.toUInt16.toUInt32.toInt32)), .val (.int d0), .val (.int d1), .val (.int i1), .val (.int i2), .val (.ref s_118), .val (.ref s_123), .val (.ref b127), .val (.ref b131), .val (.int f17), .val (.int ex), .val (.int (own_bi (i1 = i2 ∧ ([(nar .char ((p0 &&& (255 : Int32)).toUInt32.toUInt16.toUInt32.toInt32)), (nar .char ((((p0.toUInt32 >>> ((8 : Int32) &&& 31).toUInt32).toInt32) &&& (255 : Int32)).toUInt32.toUInt16.toUInt32.toInt32))] : List Int32) = ([(nar .char d0)] : List Int32)))), .val (.int (own_bi (i2 = i1 ∧ ([(nar .char d0)] : List Int32) = ([(nar .char ((p0 &&& (255 : Int32)).toUInt32.toUInt16.toUInt32.toInt32)), (nar .char ((((p0.toUInt32 >>> ((8 : Int32) &&& 31).toUInt32).toInt32) &&& (255 : Int32)).toUInt32.toUInt16.toUInt32.toInt32))] : List Int32)))), .val (.int 1), .val (.int 0), .unset]) rfl (XS.aload X138.here hx rfl (hb hby at_231) rfl rfl (XS.aload X138.here hx rfl (hb hby at_233) rfl rfl k))) ?_
     show own_Fin p e below (T138.setTop (mkF m 235 #[.val (.int p0), .val (.int p1), .val (.int p2), .val (.int p3), .val (.int p4), .val (.int 2), .val (.int 1), .val (.int ((p0 &&& (255 : Int32)).toUInt32.toUInt16.toUInt32.toInt32)), .val (.int ((((p0.toUInt32 >>> ((8 : Int32) &&& 31).toUInt32).toInt32) &&& (255 : Int32)).toUInt32.toUInt16.toUInt32.toInt32)), .val (.int d0), .val (.int d1), .val (.int i1), .val (.int i2), .val (.ref s_118), .val (.ref s_123), .val (.ref b127), .val (.ref b131), .val (.int f17), .val (.int ex), .val (.int (own_bi (i1 = i2 ∧ ([(nar .char ((p0 &&& (255 : Int32)).toUInt32.toUInt16.toUInt32.toInt32)), (nar .char ((((p0.toUInt32 >>> ((8 : Int32) &&& 31).toUInt32).toInt32) &&& (255 : Int32)).toUInt32.toUInt16.toUInt32.toInt32))] : List Int32) = ([(nar .char d0)] : List Int32)))), .val (.int (own_bi (i2 = i1 ∧ ([(nar .char d0)] : List Int32) = ([(nar .char ((p0 &&& (255 : Int32)).toUInt32.toUInt16.toUInt32.toInt32)), (nar .char ((((p0.toUInt32 >>> ((8 : Int32) &&& 31).toUInt32).toInt32) &&& (255 : Int32)).toUInt32.toUInt16.toUInt32.toInt32))] : List Int32)))), .val (.int 1), .val (.int 0), .unset] [(.ref s_118), (.ref b127)])) _
     obtain ⟨cq139, kq139, q139a, q139b, q139c⟩ := isOf hZ e138 E_b127
     obtain ⟨_, _, ⟨T139, L139, k139, n139⟩, -, X139, ⟨Lc139, hQ139, l139, y139, z139⟩, st139⟩ := X138.virtualBack hx (y := (⟨"com/example/lokahi/lokahi/Unit", "equals", "(Ljava/lang/Object;)Z"⟩ : MethodName)) (z := (⟨"com/example/lokahi/lokahi/Unit", "equals", "(Ljava/lang/Object;)Z"⟩ : MethodName)) hown (mvT hZ (ow hw 58)) (mvT hZ (ow hw 59)) (notFace_of_selects (args := #[]) (mvT hZ (ow hw 61))) (mvT hZ (ow hw 61)) (mvT hZ (ow hw 60)) (by decide) (backOf (W := 0) (rmeT l Z a0 hw [] b127 s_118 (T133.heap) n0 O E_s_118 (Ne.symm ne_s_118_b127)) hZ (ow hw 62) (ow hw 37) (by decide) (by decide)) q139a q139c (g := (mkF m 235 #[.val (.int p0), .val (.int p1), .val (.int p2), .val (.int p3), .val (.int p4), .val (.int 2), .val (.int 1), .val (.int ((p0 &&& (255 : Int32)).toUInt32.toUInt16.toUInt32.toInt32)), .val (.int ((((p0.toUInt32 >>> ((8 : Int32) &&& 31).toUInt32).toInt32) &&& (255 : Int32)).toUInt32.toUInt16.toUInt32.toInt32)), .val (.int d0), .val (.int d1), .val (.int i1), .val (.int i2), .val (.ref s_118), .val (.ref s_123), .val (.ref b127), .val (.ref b131), .val (.int f17), .val (.int ex), .val (.int (own_bi (i1 = i2 ∧ ([(nar .char ((p0 &&& (255 : Int32)).toUInt32.toUInt16.toUInt32.toInt32)), (nar .char ((((p0.toUInt32 >>> ((8 : Int32) &&& 31).toUInt32).toInt32) &&& (255 : Int32)).toUInt32.toUInt16.toUInt32.toInt32))] : List Int32) = ([(nar .char d0)] : List Int32)))), .val (.int (own_bi (i2 = i1 ∧ ([(nar .char d0)] : List Int32) = ([(nar .char ((p0 &&& (255 : Int32)).toUInt32.toUInt16.toUInt32.toInt32)), (nar .char ((((p0.toUInt32 >>> ((8 : Int32) &&& 31).toUInt32).toInt32) &&& (255 : Int32)).toUInt32.toUInt16.toUInt32.toInt32))] : List Int32)))), .val (.int 1), .val (.int 0), .unset] [(.ref s_118), (.ref b127)])) rfl (by rw [hml]; rfl) (Steps.refl _) (argsL := [(.ref s_118)]) (rest := []) (lenOf pd_3 rfl) rfl (by show 2 * 0 + _ ≤ _; exact Nat.le_of_eq rfl) (hb hby at_235) (fun _ _ => ⟨rfl, e138, (by decide : 12 + 0 ≤ _), (by decide : 50 + 0 ≤ _)⟩)
     dsimp only [Pt.U, Pt.locs, Pt.cells, Pt.slots] at X139 l139 y139 z139 st139 hQ139
     subst l139 y139 z139
     obtain ⟨rfl, N139q, e139⟩ := hQ139
     refine own_go (fun _ k => st139.trans k) ?_
     have N139 := Fr.app N138 N139q
     show own_Fin p e below (T139.setTop (mkF m 238 #[.val (.int p0), .val (.int p1), .val (.int p2), .val (.int p3), .val (.int p4), .val (.int 2), .val (.int 1), .val (.int ((p0 &&& (255 : Int32)).toUInt32.toUInt16.toUInt32.toInt32)), .val (.int ((((p0.toUInt32 >>> ((8 : Int32) &&& 31).toUInt32).toInt32) &&& (255 : Int32)).toUInt32.toUInt16.toUInt32.toInt32)), .val (.int d0), .val (.int d1), .val (.int i1), .val (.int i2), .val (.ref s_118), .val (.ref s_123), .val (.ref b127), .val (.ref b131), .val (.int f17), .val (.int ex), .val (.int (own_bi (i1 = i2 ∧ ([(nar .char ((p0 &&& (255 : Int32)).toUInt32.toUInt16.toUInt32.toInt32)), (nar .char ((((p0.toUInt32 >>> ((8 : Int32) &&& 31).toUInt32).toInt32) &&& (255 : Int32)).toUInt32.toUInt16.toUInt32.toInt32))] : List Int32) = ([(nar .char d0)] : List Int32)))), .val (.int (own_bi (i2 = i1 ∧ ([(nar .char d0)] : List Int32) = ([(nar .char ((p0 &&& (255 : Int32)).toUInt32.toUInt16.toUInt32.toInt32)), (nar .char ((((p0.toUInt32 >>> ((8 : Int32) &&& 31).toUInt32).toInt32) &&& (255 : Int32)).toUInt32.toUInt16.toUInt32.toInt32))] : List Int32)))), .val (.int 1), .val (.int 0), .unset] [(.int 0)])) _
     refine own_go (fun _ k => XS.istore X139.here hx rfl (hb hby at_238) rfl (l' := #[.val (.int p0), .val (.int p1), .val (.int p2), .val (.int p3), .val (.int p4), .val (.int 2), .val (.int 1), .val (.int ((p0 &&& (255 : Int32)).toUInt32.toUInt16.toUInt32.toInt32)), .val (.int ((((p0.toUInt32 >>> ((8 : Int32) &&& 31).toUInt32).toInt32) &&& (255 : Int32)).toUInt32.toUInt16.toUInt32.toInt32)), .val (.int d0), .val (.int d1), .val (.int i1), .val (.int i2), .val (.ref s_118), .val (.ref s_123), .val (.ref b127), .val (.ref b131), .val (.int f17), .val (.int ex), .val (.int (own_bi (i1 = i2 ∧ ([(nar .char ((p0 &&& (255 : Int32)).toUInt32.toUInt16.toUInt32.toInt32)), (nar .char ((((p0.toUInt32 >>> ((8 : Int32) &&& 31).toUInt32).toInt32) &&& (255 : Int32)).toUInt32.toUInt16.toUInt32.toInt32))] : List Int32) = ([(nar .char d0)] : List Int32)))), .val (.int (own_bi (i2 = i1 ∧ ([(nar .char d0)] : List Int32) = ([(nar .char ((p0 &&& (255 : Int32)).toUInt32.toUInt16.toUInt32.toInt32)), (nar .char ((((p0.toUInt32 >>> ((8 : Int32) &&& 31).toUInt32).toInt32) &&& (255 : Int32)).toUInt32.toUInt16.toUInt32.toInt32))] : List Int32)))), .val (.int 1), .val (.int 0), .val (.int 0)]) rfl (XS.iload X139.here hx rfl (hb hby at_240) rfl (XS.iload X139.here hx rfl (hb hby at_242) rfl (XS.icmpNo X139.here hx rfl (hb hby at_244) rfl (teq (by rw [hex] : (own_bi (i1 = i2 ∧ ([(nar .char ((p0 &&& (255 : Int32)).toUInt32.toUInt16.toUInt32.toInt32)), (nar .char ((((p0.toUInt32 >>> ((8 : Int32) &&& 31).toUInt32).toInt32) &&& (255 : Int32)).toUInt32.toUInt16.toUInt32.toInt32))] : List Int32) = ([(nar .char d0)] : List Int32))) = ex)).2 (XS.iload X139.here hx rfl (hb hby at_247) rfl (XS.iload X139.here hx rfl (hb hby at_249) rfl (XS.icmpNo X139.here hx rfl (hb hby at_251) rfl (teq (by rw [hex]; unfold own_bi; simp only [eq_comm] : (own_bi (i2 = i1 ∧ ([(nar .char d0)] : List Int32) = ([(nar .char ((p0 &&& (255 : Int32)).toUInt32.toUInt16.toUInt32.toInt32)), (nar .char ((((p0.toUInt32 >>> ((8 : Int32) &&& 31).toUInt32).toInt32) &&& (255 : Int32)).toUInt32.toUInt16.toUInt32.toInt32))] : List Int32))) = ex)).2 (XS.iload X139.here hx rfl (hb hby at_254) rfl (XS.ifNo X139.here hx rfl (hb hby at_256) rfl ((if0 _ _).trans (feq (by decide : ¬ ((1 : Int32) = (0 : Int32)))).1) (XS.iload X139.here hx rfl (hb hby at_259) rfl k)))))))))) ?_
     show own_Fin p e below (T139.setTop (mkF m 261 #[.val (.int p0), .val (.int p1), .val (.int p2), .val (.int p3), .val (.int p4), .val (.int 2), .val (.int 1), .val (.int ((p0 &&& (255 : Int32)).toUInt32.toUInt16.toUInt32.toInt32)), .val (.int ((((p0.toUInt32 >>> ((8 : Int32) &&& 31).toUInt32).toInt32) &&& (255 : Int32)).toUInt32.toUInt16.toUInt32.toInt32)), .val (.int d0), .val (.int d1), .val (.int i1), .val (.int i2), .val (.ref s_118), .val (.ref s_123), .val (.ref b127), .val (.ref b131), .val (.int f17), .val (.int ex), .val (.int (own_bi (i1 = i2 ∧ ([(nar .char ((p0 &&& (255 : Int32)).toUInt32.toUInt16.toUInt32.toInt32)), (nar .char ((((p0.toUInt32 >>> ((8 : Int32) &&& 31).toUInt32).toInt32) &&& (255 : Int32)).toUInt32.toUInt16.toUInt32.toInt32))] : List Int32) = ([(nar .char d0)] : List Int32)))), .val (.int (own_bi (i2 = i1 ∧ ([(nar .char d0)] : List Int32) = ([(nar .char ((p0 &&& (255 : Int32)).toUInt32.toUInt16.toUInt32.toInt32)), (nar .char ((((p0.toUInt32 >>> ((8 : Int32) &&& 31).toUInt32).toInt32) &&& (255 : Int32)).toUInt32.toUInt16.toUInt32.toInt32))] : List Int32)))), .val (.int 1), .val (.int 0), .val (.int 0)] [(.int 0)])) _
     refine own_go (fun _ k => XS.ifNo X139.here hx rfl (hb hby at_261) rfl ((if0 _ _).trans (teq (by decide : (0 : Int32) = (0 : Int32))).2) (XS.iload X139.here hx rfl (hb hby at_264) rfl (XS.ifNo X139.here hx rfl (hb hby at_266) rfl ((if0 _ _).trans (teq (by decide : (0 : Int32) = (0 : Int32))).2) (XS.iconst X139.here hx rfl (hb hby at_269) (XS.goto X139.here hx rfl (pc0 := 270) (pc' := 274) rfl (hb hby at_270) (by decide) (by decide) k))))) ?_
     show own_Fin p e below (T139.setTop (mkF m 274 #[.val (.int p0), .val (.int p1), .val (.int p2), .val (.int p3), .val (.int p4), .val (.int 2), .val (.int 1), .val (.int ((p0 &&& (255 : Int32)).toUInt32.toUInt16.toUInt32.toInt32)), .val (.int ((((p0.toUInt32 >>> ((8 : Int32) &&& 31).toUInt32).toInt32) &&& (255 : Int32)).toUInt32.toUInt16.toUInt32.toInt32)), .val (.int d0), .val (.int d1), .val (.int i1), .val (.int i2), .val (.ref s_118), .val (.ref s_123), .val (.ref b127), .val (.ref b131), .val (.int f17), .val (.int ex), .val (.int (own_bi (i1 = i2 ∧ ([(nar .char ((p0 &&& (255 : Int32)).toUInt32.toUInt16.toUInt32.toInt32)), (nar .char ((((p0.toUInt32 >>> ((8 : Int32) &&& 31).toUInt32).toInt32) &&& (255 : Int32)).toUInt32.toUInt16.toUInt32.toInt32))] : List Int32) = ([(nar .char d0)] : List Int32)))), .val (.int (own_bi (i2 = i1 ∧ ([(nar .char d0)] : List Int32) = ([(nar .char ((p0 &&& (255 : Int32)).toUInt32.toUInt16.toUInt32.toInt32)), (nar .char ((((p0.toUInt32 >>> ((8 : Int32) &&& 31).toUInt32).toInt32) &&& (255 : Int32)).toUInt32.toUInt16.toUInt32.toInt32))] : List Int32)))), .val (.int 1), .val (.int 0), .val (.int 0)] [(.int 1)])) _
     obtain ⟨fs, hr, hrun, hended, hE⟩ := X139.leaveW hS (Nat.le_trans hk (Nat.le_of_eq (congrArg Array.size e139).symm)) (v := some (.int 1)) (fun h => by rw [Bd.returns] at h; cases h)
     refine ⟨_, _, ?_, hrun, hended, _, _, rfl, ?_, ⟨_, rfl⟩, hE.2.1, hE.2.2.1, hE.2.2.2.mono (by decide) (by decide)⟩
     ·exact retN X139 hx (t := .boolean) Bd.returns (by simp) (hb hby at_274) hr
     ·show Qrm0 Z p0 p1 p2 p3 p4 z h0 n0 _ T139.heap _
      rw [e139]
      exact ⟨rfl, N139, K134⟩
    show own_Fin p e below (T133.setTop (mkF m 143 #[.val (.int p0), .val (.int p1), .val (.int p2), .val (.int p3), .val (.int p4), .val (.int 2), .val (.int 1), .val (.int ((p0 &&& (255 : Int32)).toUInt32.toUInt16.toUInt32.toInt32)), .val (.int ((((p0.toUInt32 >>> ((8 : Int32) &&& 31).toUInt32).toInt32) &&& (255 : Int32)).toUInt32.toUInt16.toUInt32.toInt32)), .val (.int d0), .val (.int d1), .val (.int i1), .val (.int i2), .val (.ref s_118), .val (.ref s_123), .val (.ref b127), .val (.ref b131), .unset, .unset, .unset, .unset, .unset, .unset, .unset] [])) _
    refine own_go (fun _ k => XS.iload X133.here hx rfl (hb hby at_143) rfl (XS.iload X133.here hx rfl (hb hby at_145) rfl (XS.icmpYes X133.here hx rfl (pc0 := 147) (pc' := 174) rfl (hb hby at_147) rfl (feq (by decide : ¬ ((2 : Int32) = (1 : Int32)))).2 (by decide) (by decide) (XS.iconst X133.here hx rfl (hb hby at_174) (XS.istore X133.here hx rfl (hb hby at_175) rfl (l' := #[.val (.int p0), .val (.int p1), .val (.int p2), .val (.int p3), .val (.int p4), .val (.int 2), .val (.int 1), .val (.int ((p0 &&& (255 : Int32)).toUInt32.toUInt16.toUInt32.toInt32)), .val (.int ((((p0.toUInt32 >>> ((8 : Int32) &&& 31).toUInt32).toInt32) &&& (255 : Int32)).toUInt32.toUInt16.toUInt32.toInt32)), .val (.int d0), .val (.int d1), .val (.int i1), .val (.int i2), .val (.ref s_118), .val (.ref s_123), .val (.ref b127), .val (.ref b131), .val (.int 0), .unset, .unset, .unset, .unset, .unset, .unset]) rfl (XS.iload X133.here hx rfl (hb hby at_177) rfl (XS.ifYes X133.here hx rfl (pc0 := 179) (pc' := 193) rfl (hb hby at_179) rfl ((if0 _ _).trans (teq (by decide : (0 : Int32) = (0 : Int32))).1) (by decide) (by decide) (XS.iconst X133.here hx rfl (hb hby at_193) (XS.istore X133.here hx rfl (hb hby at_194) rfl (l' := #[.val (.int p0), .val (.int p1), .val (.int p2), .val (.int p3), .val (.int p4), .val (.int 2), .val (.int 1), .val (.int ((p0 &&& (255 : Int32)).toUInt32.toUInt16.toUInt32.toInt32)), .val (.int ((((p0.toUInt32 >>> ((8 : Int32) &&& 31).toUInt32).toInt32) &&& (255 : Int32)).toUInt32.toUInt16.toUInt32.toInt32)), .val (.int d0), .val (.int d1), .val (.int i1), .val (.int i2), .val (.ref s_118), .val (.ref s_123), .val (.ref b127), .val (.ref b131), .val (.int 0), .val (.int 0), .unset, .unset, .unset, .unset, .unset]) rfl k))))))))) ?_
    show own_Fin p e below (T133.setTop (mkF m 196 #[.val (.int p0), .val (.int p1), .val (.int p2), .val (.int p3), .val (.int p4), .val (.int 2), .val (.int 1), .val (.int ((p0 &&& (255 : Int32)).toUInt32.toUInt16.toUInt32.toInt32)), .val (.int ((((p0.toUInt32 >>> ((8 : Int32) &&& 31).toUInt32).toInt32) &&& (255 : Int32)).toUInt32.toUInt16.toUInt32.toInt32)), .val (.int d0), .val (.int d1), .val (.int i1), .val (.int i2), .val (.ref s_118), .val (.ref s_123), .val (.ref b127), .val (.ref b131), .val (.int 0), .val (.int 0), .unset, .unset, .unset, .unset, .unset] [])) _
    exact j2 (0 : Int32) (0 : Int32) (by first | (simp only [own_bi, own_narid (own_255 _), own_narid hd0, own_narid hd1, List.cons.injEq, and_true, true_and, and_self, and_false, false_and, ↓reduceIte]; done) | simp [own_bi, own_narid (own_255 _), own_narid hd0, own_narid hd1])
   ·show own_Fin p e below (s₁.setTop (mkF m 97 #[.val (.int p0), .val (.int p1), .val (.int p2), .val (.int p3), .val (.int p4), .val (.int 2), .val (.int 2), .val (.int ((p0 &&& (255 : Int32)).toUInt32.toUInt16.toUInt32.toInt32)), .val (.int ((((p0.toUInt32 >>> ((8 : Int32) &&& 31).toUInt32).toInt32) &&& (255 : Int32)).toUInt32.toUInt16.toUInt32.toInt32)), .val (.int d0), .val (.int d1), .val (.int i1), .val (.int i2), .unset, .unset, .unset, .unset, .unset, .unset, .unset, .unset, .unset, .unset, .unset] [(.int 2)])) _
    refine own_go (fun _ k => XS.iload X0.here hx rfl (hb hby at_97) rfl (XS.iload X0.here hx rfl (hb hby at_99) rfl k)) ?_
    show own_Fin p e below (s₁.setTop (mkF m 101 #[.val (.int p0), .val (.int p1), .val (.int p2), .val (.int p3), .val (.int p4), .val (.int 2), .val (.int 2), .val (.int ((p0 &&& (255 : Int32)).toUInt32.toUInt16.toUInt32.toInt32)), .val (.int ((((p0.toUInt32 >>> ((8 : Int32) &&& 31).toUInt32).toInt32) &&& (255 : Int32)).toUInt32.toUInt16.toUInt32.toInt32)), .val (.int d0), .val (.int d1), .val (.int i1), .val (.int i2), .unset, .unset, .unset, .unset, .unset, .unset, .unset, .unset, .unset, .unset, .unset] [(.int ((((p0.toUInt32 >>> ((8 : Int32) &&& 31).toUInt32).toInt32) &&& (255 : Int32)).toUInt32.toUInt16.toUInt32.toInt32)), (.int ((p0 &&& (255 : Int32)).toUInt32.toUInt16.toUInt32.toInt32)), (.int 2)])) _
    obtain ⟨_, _, ⟨T141, L141, k141, n141⟩, -, X141, ⟨Lc141, hQ141, l141, y141, z141⟩, st141⟩ := Jvm.LawKit.callS X0 hx (y := (⟨"com/example/lokahi/lokahi/UnitEqualsPinLaw", "mk", "(ICC)Ljava/lang/String;"⟩ : MethodName)) hown (mvT hZ (ow hw 1)) (mvT hZ (ow hw 2)) (mvT hZ (ow hw 3)) (mvT hZ (ow hw 4)) (by decide) (backOf (W := 0) (rmk2 l Z a0 hw [] (2 : Int32) ((p0 &&& (255 : Int32)).toUInt32.toUInt16.toUInt32.toInt32) ((((p0.toUInt32 >>> ((8 : Int32) &&& 31).toUInt32).toInt32) &&& (255 : Int32)).toUInt32.toUInt16.toUInt32.toInt32) z h0 n0 O S_String_COMPACT_STRINGS hz (by decide) (own_255 _) (own_255 _)) hZ (ow hw 4) (ow hw 3) (by decide) (by decide)) (g := (mkF m 101 #[.val (.int p0), .val (.int p1), .val (.int p2), .val (.int p3), .val (.int p4), .val (.int 2), .val (.int 2), .val (.int ((p0 &&& (255 : Int32)).toUInt32.toUInt16.toUInt32.toInt32)), .val (.int ((((p0.toUInt32 >>> ((8 : Int32) &&& 31).toUInt32).toInt32) &&& (255 : Int32)).toUInt32.toUInt16.toUInt32.toInt32)), .val (.int d0), .val (.int d1), .val (.int i1), .val (.int i2), .unset, .unset, .unset, .unset, .unset, .unset, .unset, .unset, .unset, .unset, .unset] [(.int ((((p0.toUInt32 >>> ((8 : Int32) &&& 31).toUInt32).toInt32) &&& (255 : Int32)).toUInt32.toUInt16.toUInt32.toInt32)), (.int ((p0 &&& (255 : Int32)).toUInt32.toUInt16.toUInt32.toInt32)), (.int 2)])) rfl (by rw [hml]; rfl) (argsL := [(.int 2), (.int ((p0 &&& (255 : Int32)).toUInt32.toUInt16.toUInt32.toInt32)), (.int ((((p0.toUInt32 >>> ((8 : Int32) &&& 31).toUInt32).toInt32) &&& (255 : Int32)).toUInt32.toUInt16.toUInt32.toInt32))]) (rest := []) (lenOf pd_4 rfl) rfl (by show 2 * 0 + _ ≤ _; exact Nat.le_of_eq rfl) (hb hby at_101) (fun _ _ => ⟨rfl, e0, (by decide : 0 + 3 ≤ _), (by decide : 0 + 8 ≤ _)⟩)
    dsimp only [Pt.U, Pt.locs, Pt.cells, Pt.slots] at X141 l141 y141 z141 st141 hQ141
    subst l141 y141 z141
    obtain ⟨s_142, t_143, kb_144, rfl, N141q, Kq141, P141_0, P141_1, P141_2, P141_3, P141_4, P141_5, P141_6⟩ := hQ141
    refine own_go (fun _ k => st141 _ k) ?_
    have N141 := Fr.app N0 N141q
    have g_s_142 : n0 ≤ s_142 := Nat.le_trans (own_osz O) P141_0
    have sz_s_142 : h0.size ≤ s_142 := Nat.le_trans K0.1 P141_0
    have g_t_143 : n0 ≤ t_143 := Nat.le_trans (own_osz O) P141_1
    have sz_t_143 : h0.size ≤ t_143 := Nat.le_trans K0.1 P141_1
    have O := O.keep Kq141 all0
    have K145 := K0.trans Kq141 all0
    have hk := Nat.le_trans hk Kq141.1
    have E_s_142 := P141_3
    have F_s_142_String_coder := P141_4
    have F_s_142_String_value := P141_5
    have V_t_143 := P141_6
    show own_Fin p e below (T141.setTop (mkF m 104 #[.val (.int p0), .val (.int p1), .val (.int p2), .val (.int p3), .val (.int p4), .val (.int 2), .val (.int 2), .val (.int ((p0 &&& (255 : Int32)).toUInt32.toUInt16.toUInt32.toInt32)), .val (.int ((((p0.toUInt32 >>> ((8 : Int32) &&& 31).toUInt32).toInt32) &&& (255 : Int32)).toUInt32.toUInt16.toUInt32.toInt32)), .val (.int d0), .val (.int d1), .val (.int i1), .val (.int i2), .unset, .unset, .unset, .unset, .unset, .unset, .unset, .unset, .unset, .unset, .unset] [(.ref s_142)])) _
    refine own_go (fun _ k => XS.astore X141.here hx rfl (hb hby at_104) rfl rfl (l' := #[.val (.int p0), .val (.int p1), .val (.int p2), .val (.int p3), .val (.int p4), .val (.int 2), .val (.int 2), .val (.int ((p0 &&& (255 : Int32)).toUInt32.toUInt16.toUInt32.toInt32)), .val (.int ((((p0.toUInt32 >>> ((8 : Int32) &&& 31).toUInt32).toInt32) &&& (255 : Int32)).toUInt32.toUInt16.toUInt32.toInt32)), .val (.int d0), .val (.int d1), .val (.int i1), .val (.int i2), .val (.ref s_142), .unset, .unset, .unset, .unset, .unset, .unset, .unset, .unset, .unset, .unset]) rfl (XS.iload X141.here hx rfl (hb hby at_106) rfl (XS.iload X141.here hx rfl (hb hby at_108) rfl (XS.iload X141.here hx rfl (hb hby at_110) rfl k)))) ?_
    show own_Fin p e below (T141.setTop (mkF m 112 #[.val (.int p0), .val (.int p1), .val (.int p2), .val (.int p3), .val (.int p4), .val (.int 2), .val (.int 2), .val (.int ((p0 &&& (255 : Int32)).toUInt32.toUInt16.toUInt32.toInt32)), .val (.int ((((p0.toUInt32 >>> ((8 : Int32) &&& 31).toUInt32).toInt32) &&& (255 : Int32)).toUInt32.toUInt16.toUInt32.toInt32)), .val (.int d0), .val (.int d1), .val (.int i1), .val (.int i2), .val (.ref s_142), .unset, .unset, .unset, .unset, .unset, .unset, .unset, .unset, .unset, .unset] [(.int d1), (.int d0), (.int 2)])) _
    obtain ⟨_, _, ⟨T146, L146, k146, n146⟩, -, X146, ⟨Lc146, hQ146, l146, y146, z146⟩, st146⟩ := Jvm.LawKit.callS X141 hx (y := (⟨"com/example/lokahi/lokahi/UnitEqualsPinLaw", "mk", "(ICC)Ljava/lang/String;"⟩ : MethodName)) hown (mvT hZ (ow hw 1)) (mvT hZ (ow hw 2)) (mvT hZ (ow hw 3)) (mvT hZ (ow hw 4)) (by decide) (backOf (W := 0) (rmk2 l Z a0 hw [] (2 : Int32) d0 d1 z (T141.heap) n0 O S_String_COMPACT_STRINGS hz (by decide) hd0 hd1) hZ (ow hw 4) (ow hw 3) (by decide) (by decide)) (g := (mkF m 112 #[.val (.int p0), .val (.int p1), .val (.int p2), .val (.int p3), .val (.int p4), .val (.int 2), .val (.int 2), .val (.int ((p0 &&& (255 : Int32)).toUInt32.toUInt16.toUInt32.toInt32)), .val (.int ((((p0.toUInt32 >>> ((8 : Int32) &&& 31).toUInt32).toInt32) &&& (255 : Int32)).toUInt32.toUInt16.toUInt32.toInt32)), .val (.int d0), .val (.int d1), .val (.int i1), .val (.int i2), .val (.ref s_142), .unset, .unset, .unset, .unset, .unset, .unset, .unset, .unset, .unset, .unset] [(.int d1), (.int d0), (.int 2)])) rfl (by rw [hml]; rfl) (argsL := [(.int 2), (.int d0), (.int d1)]) (rest := []) (lenOf pd_4 rfl) rfl (by show 2 * 0 + _ ≤ _; exact Nat.le_of_eq rfl) (hb hby at_112) (fun _ _ => ⟨rfl, rfl, (by decide : 3 + 3 ≤ _), (by decide : 8 + 8 ≤ _)⟩)
    dsimp only [Pt.U, Pt.locs, Pt.cells, Pt.slots] at X146 l146 y146 z146 st146 hQ146
    subst l146 y146 z146
    obtain ⟨s_147, t_148, kb_149, rfl, N146q, Kq146, P146_0, P146_1, P146_2, P146_3, P146_4, P146_5, P146_6⟩ := hQ146
    refine own_go (fun _ k => st146 _ k) ?_
    have N146 := Fr.app N141 N146q
    have ne_s_142_s_147 : s_142 ≠ s_147 := Nat.ne_of_lt (Nat.lt_of_lt_of_le E_s_142.lt P146_0)
    have ne_t_143_s_147 : t_143 ≠ s_147 := Nat.ne_of_lt (Nat.lt_of_lt_of_le V_t_143.lt P146_0)
    have g_s_147 : n0 ≤ s_147 := Nat.le_trans (own_osz O) P146_0
    have sz_s_147 : h0.size ≤ s_147 := Nat.le_trans K145.1 P146_0
    have ne_s_142_t_148 : s_142 ≠ t_148 := Nat.ne_of_lt (Nat.lt_of_lt_of_le E_s_142.lt P146_1)
    have ne_t_143_t_148 : t_143 ≠ t_148 := Nat.ne_of_lt (Nat.lt_of_lt_of_le V_t_143.lt P146_1)
    have g_t_148 : n0 ≤ t_148 := Nat.le_trans (own_osz O) P146_1
    have sz_t_148 : h0.size ≤ t_148 := Nat.le_trans K145.1 P146_1
    have E_s_142 := E_s_142.keep Kq146
    have F_s_142_String_coder := F_s_142_String_coder.keep Kq146 nin0
    have F_s_142_String_value := F_s_142_String_value.keep Kq146 nin0
    have V_t_143 := V_t_143.keep Kq146 nin0
    have O := O.keep Kq146 all0
    have K150 := K145.trans Kq146 all0
    have hk := Nat.le_trans hk Kq146.1
    have E_s_147 := P146_3
    have F_s_147_String_coder := P146_4
    have F_s_147_String_value := P146_5
    have V_t_148 := P146_6
    show own_Fin p e below (T146.setTop (mkF m 115 #[.val (.int p0), .val (.int p1), .val (.int p2), .val (.int p3), .val (.int p4), .val (.int 2), .val (.int 2), .val (.int ((p0 &&& (255 : Int32)).toUInt32.toUInt16.toUInt32.toInt32)), .val (.int ((((p0.toUInt32 >>> ((8 : Int32) &&& 31).toUInt32).toInt32) &&& (255 : Int32)).toUInt32.toUInt16.toUInt32.toInt32)), .val (.int d0), .val (.int d1), .val (.int i1), .val (.int i2), .val (.ref s_142), .unset, .unset, .unset, .unset, .unset, .unset, .unset, .unset, .unset, .unset] [(.ref s_147)])) _
    refine own_go (fun _ k => XS.astore X146.here hx rfl (hb hby at_115) rfl rfl (l' := #[.val (.int p0), .val (.int p1), .val (.int p2), .val (.int p3), .val (.int p4), .val (.int 2), .val (.int 2), .val (.int ((p0 &&& (255 : Int32)).toUInt32.toUInt16.toUInt32.toInt32)), .val (.int ((((p0.toUInt32 >>> ((8 : Int32) &&& 31).toUInt32).toInt32) &&& (255 : Int32)).toUInt32.toUInt16.toUInt32.toInt32)), .val (.int d0), .val (.int d1), .val (.int i1), .val (.int i2), .val (.ref s_142), .val (.ref s_147), .unset, .unset, .unset, .unset, .unset, .unset, .unset, .unset, .unset]) rfl k) ?_
    show own_Fin p e below (T146.setTop (mkF m 117 #[.val (.int p0), .val (.int p1), .val (.int p2), .val (.int p3), .val (.int p4), .val (.int 2), .val (.int 2), .val (.int ((p0 &&& (255 : Int32)).toUInt32.toUInt16.toUInt32.toInt32)), .val (.int ((((p0.toUInt32 >>> ((8 : Int32) &&& 31).toUInt32).toInt32) &&& (255 : Int32)).toUInt32.toUInt16.toUInt32.toInt32)), .val (.int d0), .val (.int d1), .val (.int i1), .val (.int i2), .val (.ref s_142), .val (.ref s_147), .unset, .unset, .unset, .unset, .unset, .unset, .unset, .unset, .unset] [])) _
    obtain ⟨T151, h151, X151, e151, E151, A151, D151, -, st151⟩ := newO X146 hx hZ hown (ow hw 35) (ow hw 36) (ow hw 37) rfl (g := (mkF m 117 #[.val (.int p0), .val (.int p1), .val (.int p2), .val (.int p3), .val (.int p4), .val (.int 2), .val (.int 2), .val (.int ((p0 &&& (255 : Int32)).toUInt32.toUInt16.toUInt32.toInt32)), .val (.int ((((p0.toUInt32 >>> ((8 : Int32) &&& 31).toUInt32).toInt32) &&& (255 : Int32)).toUInt32.toUInt16.toUInt32.toInt32)), .val (.int d0), .val (.int d1), .val (.int i1), .val (.int i2), .val (.ref s_142), .val (.ref s_147), .unset, .unset, .unset, .unset, .unset, .unset, .unset, .unset, .unset] [])) rfl (hb hby at_117) (by decide) (by decide)
    obtain ⟨b151, g151⟩ : ∃ z, z = T146.heap.size := ⟨_, rfl⟩
    rw [← g151] at A151 D151 st151
    refine own_go (fun _ k => st151 _ k) ?_
    have ne_s_142_b151 : s_142 ≠ b151 := Nat.ne_of_lt (Nat.lt_of_lt_of_le E_s_142.lt (Nat.le_of_eq g151.symm))
    have ne_t_143_b151 : t_143 ≠ b151 := Nat.ne_of_lt (Nat.lt_of_lt_of_le V_t_143.lt (Nat.le_of_eq g151.symm))
    have ne_s_147_b151 : s_147 ≠ b151 := Nat.ne_of_lt (Nat.lt_of_lt_of_le E_s_147.lt (Nat.le_of_eq g151.symm))
    have ne_t_148_b151 : t_148 ≠ b151 := Nat.ne_of_lt (Nat.lt_of_lt_of_le V_t_148.lt (Nat.le_of_eq g151.symm))
    have g_b151 : n0 ≤ b151 := Nat.le_trans (own_osz O) (Nat.le_of_eq g151.symm)
    have sz_b151 : h0.size ≤ b151 := Nat.le_trans K150.1 (Nat.le_of_eq g151.symm)
    have E_s_142 := E_s_142.ext E151
    have F_s_142_String_coder := F_s_142_String_coder.ext E151
    have F_s_142_String_value := F_s_142_String_value.ext E151
    have V_t_143 := V_t_143.ext E151
    have E_s_147 := E_s_147.ext E151
    have F_s_147_String_coder := F_s_147_String_coder.ext E151
    have F_s_147_String_value := F_s_147_String_value.ext E151
    have V_t_148 := V_t_148.ext E151
    have O := O.ext E151
    have K152 := K150.ext E151
    have hk := Nat.le_trans hk E151.1
    have E_b151 := A151
    have F_b151_Unit_set : Fld Z h151 b151 "com/example/lokahi/lokahi/Unit" "set" "Ljava/lang/String;" .null := D151 (Or.inr (ow hw 55)) (ty := (.object "java/lang/String")) (by decide)
    have F_b151_Unit_index : Fld Z h151 b151 "com/example/lokahi/lokahi/Unit" "index" "I" (.int 0) := D151 (Or.inr (ow hw 57)) (ty := .int) (by decide)
    show own_Fin p e below (T151.setTop (mkF m 120 #[.val (.int p0), .val (.int p1), .val (.int p2), .val (.int p3), .val (.int p4), .val (.int 2), .val (.int 2), .val (.int ((p0 &&& (255 : Int32)).toUInt32.toUInt16.toUInt32.toInt32)), .val (.int ((((p0.toUInt32 >>> ((8 : Int32) &&& 31).toUInt32).toInt32) &&& (255 : Int32)).toUInt32.toUInt16.toUInt32.toInt32)), .val (.int d0), .val (.int d1), .val (.int i1), .val (.int i2), .val (.ref s_142), .val (.ref s_147), .unset, .unset, .unset, .unset, .unset, .unset, .unset, .unset, .unset] [(.ref b151)])) _
    refine own_go (fun _ k => XS.dup X151.here hx rfl (hb hby at_120) rfl rfl (XS.aload X151.here hx rfl (hb hby at_121) rfl rfl (XS.iload X151.here hx rfl (hb hby at_123) rfl k))) ?_
    show own_Fin p e below (T151.setTop (mkF m 125 #[.val (.int p0), .val (.int p1), .val (.int p2), .val (.int p3), .val (.int p4), .val (.int 2), .val (.int 2), .val (.int ((p0 &&& (255 : Int32)).toUInt32.toUInt16.toUInt32.toInt32)), .val (.int ((((p0.toUInt32 >>> ((8 : Int32) &&& 31).toUInt32).toInt32) &&& (255 : Int32)).toUInt32.toUInt16.toUInt32.toInt32)), .val (.int d0), .val (.int d1), .val (.int i1), .val (.int i2), .val (.ref s_142), .val (.ref s_147), .unset, .unset, .unset, .unset, .unset, .unset, .unset, .unset, .unset] [(.int i1), (.ref s_142), (.ref b151), (.ref b151)])) _
    obtain ⟨_, _, ⟨T153, L153, k153, n153⟩, -, X153, hS153, hg153, ⟨Lc153, hQ153, l153, y153, z153⟩, st153⟩ := X151.specialBackS hx (y := (⟨"com/example/lokahi/lokahi/Unit", "<init>", "(Ljava/lang/String;I)V"⟩ : MethodName)) rfl hown (mvT hZ (ow hw 38)) (mvT hZ (ow hw 39)) (mvT hZ (ow hw 40)) (by decide) (backOfS (W := 1) (rmu2 l Z a0 hw [] b151 s_142 i1 t_143 kb_144 (((([(nar .char ((p0 &&& (255 : Int32)).toUInt32.toUInt16.toUInt32.toInt32)), (nar .char ((((p0.toUInt32 >>> ((8 : Int32) &&& 31).toUInt32).toInt32) &&& (255 : Int32)).toUInt32.toUInt16.toUInt32.toInt32))] : List Int32)).map (fun c => c.toInt8.toInt32)).map Value.int) h151 n0 O E_b151 F_b151_Unit_set F_b151_Unit_index g_b151 hi1 E_s_142 F_s_142_String_value V_t_143 ne_s_142_b151 ne_t_143_b151) hZ (ow hw 40) (ow hw 37) (by decide) (by decide)) (g := (mkF m 125 #[.val (.int p0), .val (.int p1), .val (.int p2), .val (.int p3), .val (.int p4), .val (.int 2), .val (.int 2), .val (.int ((p0 &&& (255 : Int32)).toUInt32.toUInt16.toUInt32.toInt32)), .val (.int ((((p0.toUInt32 >>> ((8 : Int32) &&& 31).toUInt32).toInt32) &&& (255 : Int32)).toUInt32.toUInt16.toUInt32.toInt32)), .val (.int d0), .val (.int d1), .val (.int i1), .val (.int i2), .val (.ref s_142), .val (.ref s_147), .unset, .unset, .unset, .unset, .unset, .unset, .unset, .unset, .unset] [(.int i1), (.ref s_142), (.ref b151), (.ref b151)])) rfl (by rw [hml]; rfl) (Steps.refl _) (a := b151) (argsL := [(.ref s_142), (.int i1)]) (rest := [(.ref b151)]) (lenOf pd_5 rfl) rfl (by show 2 * 0 + _ ≤ _; exact Nat.le_of_eq rfl) (hb hby at_125) (fun _ _ => ⟨rfl, e151, (by decide : 7 + 2 ≤ _), (by decide : 18 + 16 ≤ _)⟩)
    dsimp only [Pt.U, Pt.locs, Pt.cells, Pt.slots] at X153 l153 y153 z153 st153 hQ153
    subst l153 y153 z153
    obtain ⟨X153, hS, hZ, hown⟩ := rebS hS (Nat.le_trans hk (Nat.le_of_eq (congrArg Array.size e151).symm)) X153 hS153 hg153 hZ hown
    obtain ⟨rfl, N153q, Kq153, P153_0, P153_1, P153_2⟩ := hQ153
    refine own_go (fun _ k => st153.trans k) ?_
    have N153 := Fr.app N146 N153q
    have E_s_142 := E_s_142.keep Kq153
    have F_s_142_String_coder := F_s_142_String_coder.keep Kq153 (ninS ne_s_142_b151 nin0)
    have F_s_142_String_value := F_s_142_String_value.keep Kq153 (ninS ne_s_142_b151 nin0)
    have V_t_143 := V_t_143.keep Kq153 (ninS ne_t_143_b151 nin0)
    have E_s_147 := E_s_147.keep Kq153
    have F_s_147_String_coder := F_s_147_String_coder.keep Kq153 (ninS ne_s_147_b151 nin0)
    have F_s_147_String_value := F_s_147_String_value.keep Kq153 (ninS ne_s_147_b151 nin0)
    have V_t_148 := V_t_148.keep Kq153 (ninS ne_t_148_b151 nin0)
    have E_b151 := E_b151.keep Kq153
    clear F_b151_Unit_set
    clear F_b151_Unit_index
    have O := O.keep Kq153 (allS g_b151 all0)
    have K154 := K152.trans Kq153 (allS (Or.inr sz_b151) all0)
    have hk := Nat.le_refl T153.heap.size
    have E_b151 := P153_0
    have F_b151_Unit_set := P153_1
    have F_b151_Unit_index := P153_2
    show own_Fin p e below (T153.setTop (mkF m 128 #[.val (.int p0), .val (.int p1), .val (.int p2), .val (.int p3), .val (.int p4), .val (.int 2), .val (.int 2), .val (.int ((p0 &&& (255 : Int32)).toUInt32.toUInt16.toUInt32.toInt32)), .val (.int ((((p0.toUInt32 >>> ((8 : Int32) &&& 31).toUInt32).toInt32) &&& (255 : Int32)).toUInt32.toUInt16.toUInt32.toInt32)), .val (.int d0), .val (.int d1), .val (.int i1), .val (.int i2), .val (.ref s_142), .val (.ref s_147), .unset, .unset, .unset, .unset, .unset, .unset, .unset, .unset, .unset] [(.ref b151)])) _
    refine own_go (fun _ k => XS.astore X153.here hx rfl (hb hby at_128) rfl rfl (l' := #[.val (.int p0), .val (.int p1), .val (.int p2), .val (.int p3), .val (.int p4), .val (.int 2), .val (.int 2), .val (.int ((p0 &&& (255 : Int32)).toUInt32.toUInt16.toUInt32.toInt32)), .val (.int ((((p0.toUInt32 >>> ((8 : Int32) &&& 31).toUInt32).toInt32) &&& (255 : Int32)).toUInt32.toUInt16.toUInt32.toInt32)), .val (.int d0), .val (.int d1), .val (.int i1), .val (.int i2), .val (.ref s_142), .val (.ref s_147), .val (.ref b151), .unset, .unset, .unset, .unset, .unset, .unset, .unset, .unset]) rfl k) ?_
    show own_Fin p e below (T153.setTop (mkF m 130 #[.val (.int p0), .val (.int p1), .val (.int p2), .val (.int p3), .val (.int p4), .val (.int 2), .val (.int 2), .val (.int ((p0 &&& (255 : Int32)).toUInt32.toUInt16.toUInt32.toInt32)), .val (.int ((((p0.toUInt32 >>> ((8 : Int32) &&& 31).toUInt32).toInt32) &&& (255 : Int32)).toUInt32.toUInt16.toUInt32.toInt32)), .val (.int d0), .val (.int d1), .val (.int i1), .val (.int i2), .val (.ref s_142), .val (.ref s_147), .val (.ref b151), .unset, .unset, .unset, .unset, .unset, .unset, .unset, .unset] [])) _
    obtain ⟨T155, h155, X155, e155, E155, A155, D155, -, st155⟩ := newO X153 hx hZ hown (ow hw 35) (ow hw 36) (ow hw 37) rfl (g := (mkF m 130 #[.val (.int p0), .val (.int p1), .val (.int p2), .val (.int p3), .val (.int p4), .val (.int 2), .val (.int 2), .val (.int ((p0 &&& (255 : Int32)).toUInt32.toUInt16.toUInt32.toInt32)), .val (.int ((((p0.toUInt32 >>> ((8 : Int32) &&& 31).toUInt32).toInt32) &&& (255 : Int32)).toUInt32.toUInt16.toUInt32.toInt32)), .val (.int d0), .val (.int d1), .val (.int i1), .val (.int i2), .val (.ref s_142), .val (.ref s_147), .val (.ref b151), .unset, .unset, .unset, .unset, .unset, .unset, .unset, .unset] [])) rfl (hb hby at_130) (by decide) (by decide)
    obtain ⟨b155, g155⟩ : ∃ z, z = T153.heap.size := ⟨_, rfl⟩
    rw [← g155] at A155 D155 st155
    refine own_go (fun _ k => st155 _ k) ?_
    have ne_s_142_b155 : s_142 ≠ b155 := Nat.ne_of_lt (Nat.lt_of_lt_of_le E_s_142.lt (Nat.le_of_eq g155.symm))
    have ne_t_143_b155 : t_143 ≠ b155 := Nat.ne_of_lt (Nat.lt_of_lt_of_le V_t_143.lt (Nat.le_of_eq g155.symm))
    have ne_s_147_b155 : s_147 ≠ b155 := Nat.ne_of_lt (Nat.lt_of_lt_of_le E_s_147.lt (Nat.le_of_eq g155.symm))
    have ne_t_148_b155 : t_148 ≠ b155 := Nat.ne_of_lt (Nat.lt_of_lt_of_le V_t_148.lt (Nat.le_of_eq g155.symm))
    have ne_b151_b155 : b151 ≠ b155 := Nat.ne_of_lt (Nat.lt_of_lt_of_le E_b151.lt (Nat.le_of_eq g155.symm))
    have g_b155 : n0 ≤ b155 := Nat.le_trans (own_osz O) (Nat.le_of_eq g155.symm)
    have sz_b155 : h0.size ≤ b155 := Nat.le_trans K154.1 (Nat.le_of_eq g155.symm)
    have E_s_142 := E_s_142.ext E155
    have F_s_142_String_coder := F_s_142_String_coder.ext E155
    have F_s_142_String_value := F_s_142_String_value.ext E155
    have V_t_143 := V_t_143.ext E155
    have E_s_147 := E_s_147.ext E155
    have F_s_147_String_coder := F_s_147_String_coder.ext E155
    have F_s_147_String_value := F_s_147_String_value.ext E155
    have V_t_148 := V_t_148.ext E155
    have E_b151 := E_b151.ext E155
    have F_b151_Unit_set := F_b151_Unit_set.ext E155
    have F_b151_Unit_index := F_b151_Unit_index.ext E155
    have O := O.ext E155
    have K156 := K154.ext E155
    have hk := Nat.le_trans hk E155.1
    have E_b155 := A155
    have F_b155_Unit_set : Fld Z h155 b155 "com/example/lokahi/lokahi/Unit" "set" "Ljava/lang/String;" .null := D155 (Or.inr (ow hw 55)) (ty := (.object "java/lang/String")) (by decide)
    have F_b155_Unit_index : Fld Z h155 b155 "com/example/lokahi/lokahi/Unit" "index" "I" (.int 0) := D155 (Or.inr (ow hw 57)) (ty := .int) (by decide)
    show own_Fin p e below (T155.setTop (mkF m 133 #[.val (.int p0), .val (.int p1), .val (.int p2), .val (.int p3), .val (.int p4), .val (.int 2), .val (.int 2), .val (.int ((p0 &&& (255 : Int32)).toUInt32.toUInt16.toUInt32.toInt32)), .val (.int ((((p0.toUInt32 >>> ((8 : Int32) &&& 31).toUInt32).toInt32) &&& (255 : Int32)).toUInt32.toUInt16.toUInt32.toInt32)), .val (.int d0), .val (.int d1), .val (.int i1), .val (.int i2), .val (.ref s_142), .val (.ref s_147), .val (.ref b151), .unset, .unset, .unset, .unset, .unset, .unset, .unset, .unset] [(.ref b155)])) _
    refine own_go (fun _ k => XS.dup X155.here hx rfl (hb hby at_133) rfl rfl (XS.aload X155.here hx rfl (hb hby at_134) rfl rfl (XS.iload X155.here hx rfl (hb hby at_136) rfl k))) ?_
    show own_Fin p e below (T155.setTop (mkF m 138 #[.val (.int p0), .val (.int p1), .val (.int p2), .val (.int p3), .val (.int p4), .val (.int 2), .val (.int 2), .val (.int ((p0 &&& (255 : Int32)).toUInt32.toUInt16.toUInt32.toInt32)), .val (.int ((((p0.toUInt32 >>> ((8 : Int32) &&& 31).toUInt32).toInt32) &&& (255 : Int32)).toUInt32.toUInt16.toUInt32.toInt32)), .val (.int d0), .val (.int d1), .val (.int i1), .val (.int i2), .val (.ref s_142), .val (.ref s_147), .val (.ref b151), .unset, .unset, .unset, .unset, .unset, .unset, .unset, .unset] [(.int i2), (.ref s_147), (.ref b155), (.ref b155)])) _
    obtain ⟨_, _, ⟨T157, L157, k157, n157⟩, -, X157, hS157, hg157, ⟨Lc157, hQ157, l157, y157, z157⟩, st157⟩ := X155.specialBackS hx (y := (⟨"com/example/lokahi/lokahi/Unit", "<init>", "(Ljava/lang/String;I)V"⟩ : MethodName)) rfl hown (mvT hZ (ow hw 38)) (mvT hZ (ow hw 39)) (mvT hZ (ow hw 40)) (by decide) (backOfS (W := 1) (rmu2 l Z a0 hw [] b155 s_147 i2 t_148 kb_149 (((([(nar .char d0), (nar .char d1)] : List Int32)).map (fun c => c.toInt8.toInt32)).map Value.int) h155 n0 O E_b155 F_b155_Unit_set F_b155_Unit_index g_b155 hi2 E_s_147 F_s_147_String_value V_t_148 ne_s_147_b155 ne_t_148_b155) hZ (ow hw 40) (ow hw 37) (by decide) (by decide)) (g := (mkF m 138 #[.val (.int p0), .val (.int p1), .val (.int p2), .val (.int p3), .val (.int p4), .val (.int 2), .val (.int 2), .val (.int ((p0 &&& (255 : Int32)).toUInt32.toUInt16.toUInt32.toInt32)), .val (.int ((((p0.toUInt32 >>> ((8 : Int32) &&& 31).toUInt32).toInt32) &&& (255 : Int32)).toUInt32.toUInt16.toUInt32.toInt32)), .val (.int d0), .val (.int d1), .val (.int i1), .val (.int i2), .val (.ref s_142), .val (.ref s_147), .val (.ref b151), .unset, .unset, .unset, .unset, .unset, .unset, .unset, .unset] [(.int i2), (.ref s_147), (.ref b155), (.ref b155)])) rfl (by rw [hml]; rfl) (Steps.refl _) (a := b155) (argsL := [(.ref s_147), (.int i2)]) (rest := [(.ref b155)]) (lenOf pd_5 rfl) rfl (by show 2 * 0 + _ ≤ _; exact Nat.le_of_eq rfl) (hb hby at_138) (fun _ _ => ⟨rfl, e155, (by decide : 10 + 2 ≤ _), (by decide : 36 + 16 ≤ _)⟩)
    dsimp only [Pt.U, Pt.locs, Pt.cells, Pt.slots] at X157 l157 y157 z157 st157 hQ157
    subst l157 y157 z157
    obtain ⟨X157, hS, hZ, hown⟩ := rebS hS (Nat.le_trans hk (Nat.le_of_eq (congrArg Array.size e155).symm)) X157 hS157 hg157 hZ hown
    obtain ⟨rfl, N157q, Kq157, P157_0, P157_1, P157_2⟩ := hQ157
    refine own_go (fun _ k => st157.trans k) ?_
    have N157 := Fr.app N153 N157q
    have E_s_142 := E_s_142.keep Kq157
    have F_s_142_String_coder := F_s_142_String_coder.keep Kq157 (ninS ne_s_142_b155 nin0)
    have F_s_142_String_value := F_s_142_String_value.keep Kq157 (ninS ne_s_142_b155 nin0)
    have V_t_143 := V_t_143.keep Kq157 (ninS ne_t_143_b155 nin0)
    have E_s_147 := E_s_147.keep Kq157
    have F_s_147_String_coder := F_s_147_String_coder.keep Kq157 (ninS ne_s_147_b155 nin0)
    have F_s_147_String_value := F_s_147_String_value.keep Kq157 (ninS ne_s_147_b155 nin0)
    have V_t_148 := V_t_148.keep Kq157 (ninS ne_t_148_b155 nin0)
    have E_b151 := E_b151.keep Kq157
    have F_b151_Unit_set := F_b151_Unit_set.keep Kq157 (ninS ne_b151_b155 nin0)
    have F_b151_Unit_index := F_b151_Unit_index.keep Kq157 (ninS ne_b151_b155 nin0)
    have E_b155 := E_b155.keep Kq157
    clear F_b155_Unit_set
    clear F_b155_Unit_index
    have O := O.keep Kq157 (allS g_b155 all0)
    have K158 := K156.trans Kq157 (allS (Or.inr sz_b155) all0)
    have hk := Nat.le_refl T157.heap.size
    have E_b155 := P157_0
    have F_b155_Unit_set := P157_1
    have F_b155_Unit_index := P157_2
    show own_Fin p e below (T157.setTop (mkF m 141 #[.val (.int p0), .val (.int p1), .val (.int p2), .val (.int p3), .val (.int p4), .val (.int 2), .val (.int 2), .val (.int ((p0 &&& (255 : Int32)).toUInt32.toUInt16.toUInt32.toInt32)), .val (.int ((((p0.toUInt32 >>> ((8 : Int32) &&& 31).toUInt32).toInt32) &&& (255 : Int32)).toUInt32.toUInt16.toUInt32.toInt32)), .val (.int d0), .val (.int d1), .val (.int i1), .val (.int i2), .val (.ref s_142), .val (.ref s_147), .val (.ref b151), .unset, .unset, .unset, .unset, .unset, .unset, .unset, .unset] [(.ref b155)])) _
    refine own_go (fun _ k => XS.astore X157.here hx rfl (hb hby at_141) rfl rfl (l' := #[.val (.int p0), .val (.int p1), .val (.int p2), .val (.int p3), .val (.int p4), .val (.int 2), .val (.int 2), .val (.int ((p0 &&& (255 : Int32)).toUInt32.toUInt16.toUInt32.toInt32)), .val (.int ((((p0.toUInt32 >>> ((8 : Int32) &&& 31).toUInt32).toInt32) &&& (255 : Int32)).toUInt32.toUInt16.toUInt32.toInt32)), .val (.int d0), .val (.int d1), .val (.int i1), .val (.int i2), .val (.ref s_142), .val (.ref s_147), .val (.ref b151), .val (.ref b155), .unset, .unset, .unset, .unset, .unset, .unset, .unset]) rfl k) ?_
    show own_Fin p e below (T157.setTop (mkF m 143 #[.val (.int p0), .val (.int p1), .val (.int p2), .val (.int p3), .val (.int p4), .val (.int 2), .val (.int 2), .val (.int ((p0 &&& (255 : Int32)).toUInt32.toUInt16.toUInt32.toInt32)), .val (.int ((((p0.toUInt32 >>> ((8 : Int32) &&& 31).toUInt32).toInt32) &&& (255 : Int32)).toUInt32.toUInt16.toUInt32.toInt32)), .val (.int d0), .val (.int d1), .val (.int i1), .val (.int i2), .val (.ref s_142), .val (.ref s_147), .val (.ref b151), .val (.ref b155), .unset, .unset, .unset, .unset, .unset, .unset, .unset] [])) _
    have j2 : ∀ (f17 : Int32) (ex : Int32), ex = own_bi (i1 = i2 ∧ ([(nar .char ((p0 &&& (255 : Int32)).toUInt32.toUInt16.toUInt32.toInt32)), (nar .char ((((p0.toUInt32 >>> ((8 : Int32) &&& 31).toUInt32).toInt32) &&& (255 : Int32)).toUInt32.toUInt16.toUInt32.toInt32))] : List Int32) = ([(nar .char d0), (nar .char d1)] : List Int32)) → own_Fin p e below (T157.setTop (mkF m 196 #[.val (.int p0), .val (.int p1), .val (.int p2), .val (.int p3), .val (.int p4), .val (.int 2), .val (.int 2), .val (.int ((p0 &&& (255 : Int32)).toUInt32.toUInt16.toUInt32.toInt32)), .val (.int ((((p0.toUInt32 >>> ((8 : Int32) &&& 31).toUInt32).toInt32) &&& (255 : Int32)).toUInt32.toUInt16.toUInt32.toInt32)), .val (.int d0), .val (.int d1), .val (.int i1), .val (.int i2), .val (.ref s_142), .val (.ref s_147), .val (.ref b151), .val (.ref b155), .val (.int f17), .val (.int ex), .unset, .unset, .unset, .unset, .unset] [])) (fun o' t' => ∃ v' L', o' = .returned v' ∧ Qrm0 Z p0 p1 p2 p3 p4 z h0 n0 v' t'.heap L' ∧ ReturnedEndW s o' t' L' 12 52) := by
     intro f17 ex hex
     show own_Fin p e below (T157.setTop (mkF m 196 #[.val (.int p0), .val (.int p1), .val (.int p2), .val (.int p3), .val (.int p4), .val (.int 2), .val (.int 2), .val (.int ((p0 &&& (255 : Int32)).toUInt32.toUInt16.toUInt32.toInt32)), .val (.int ((((p0.toUInt32 >>> ((8 : Int32) &&& 31).toUInt32).toInt32) &&& (255 : Int32)).toUInt32.toUInt16.toUInt32.toInt32)), .val (.int d0), .val (.int d1), .val (.int i1), .val (.int i2), .val (.ref s_142), .val (.ref s_147), .val (.ref b151), .val (.ref b155), .val (.int f17), .val (.int ex), .unset, .unset, .unset, .unset, .unset] [])) _
     refine own_go (fun _ k => XS.aload X157.here hx rfl (hb hby at_196) rfl rfl (XS.aload X157.here hx rfl (hb hby at_198) rfl rfl k)) ?_
     show own_Fin p e below (T157.setTop (mkF m 200 #[.val (.int p0), .val (.int p1), .val (.int p2), .val (.int p3), .val (.int p4), .val (.int 2), .val (.int 2), .val (.int ((p0 &&& (255 : Int32)).toUInt32.toUInt16.toUInt32.toInt32)), .val (.int ((((p0.toUInt32 >>> ((8 : Int32) &&& 31).toUInt32).toInt32) &&& (255 : Int32)).toUInt32.toUInt16.toUInt32.toInt32)), .val (.int d0), .val (.int d1), .val (.int i1), .val (.int i2), .val (.ref s_142), .val (.ref s_147), .val (.ref b151), .val (.ref b155), .val (.int f17), .val (.int ex), .unset, .unset, .unset, .unset, .unset] [(.ref b155), (.ref b151)])) _
     obtain ⟨cq159, kq159, q159a, q159b, q159c⟩ := isOf hZ rfl E_b151
     obtain ⟨_, _, ⟨T159, L159, k159, n159⟩, -, X159, ⟨Lc159, hQ159, l159, y159, z159⟩, st159⟩ := X157.virtualBack hx (y := (⟨"com/example/lokahi/lokahi/Unit", "equals", "(Ljava/lang/Object;)Z"⟩ : MethodName)) (z := (⟨"com/example/lokahi/lokahi/Unit", "equals", "(Ljava/lang/Object;)Z"⟩ : MethodName)) hown (mvT hZ (ow hw 58)) (mvT hZ (ow hw 59)) (notFace_of_selects (args := #[]) (mvT hZ (ow hw 61))) (mvT hZ (ow hw 61)) (mvT hZ (ow hw 60)) (by decide) (backOf (W := 0) (rmeU l Z a0 hw [] b151 b155 i1 i2 s_142 t_143 kb_144 ([(nar .char ((p0 &&& (255 : Int32)).toUInt32.toUInt16.toUInt32.toInt32)), (nar .char ((((p0.toUInt32 >>> ((8 : Int32) &&& 31).toUInt32).toInt32) &&& (255 : Int32)).toUInt32.toUInt16.toUInt32.toInt32))] : List Int32) s_147 t_148 kb_149 ([(nar .char d0), (nar .char d1)] : List Int32) z (T157.heap) n0 O S_String_COMPACT_STRINGS hz E_b151 E_b155 F_b151_Unit_set F_b151_Unit_index F_b155_Unit_set F_b155_Unit_index E_s_142 F_s_142_String_coder F_s_142_String_value V_t_143 E_s_147 F_s_147_String_coder F_s_147_String_value V_t_148 ne_b151_b155 (own_hp2 (own_255 _) (own_255 _)) (own_hp2 hd0 hd1) (Nat.le_of_ble_eq_true rfl) (Nat.le_of_ble_eq_true rfl)) hZ (ow hw 62) (ow hw 37) (by decide) (by decide)) q159a q159c (g := (mkF m 200 #[.val (.int p0), .val (.int p1), .val (.int p2), .val (.int p3), .val (.int p4), .val (.int 2), .val (.int 2), .val (.int ((p0 &&& (255 : Int32)).toUInt32.toUInt16.toUInt32.toInt32)), .val (.int ((((p0.toUInt32 >>> ((8 : Int32) &&& 31).toUInt32).toInt32) &&& (255 : Int32)).toUInt32.toUInt16.toUInt32.toInt32)), .val (.int d0), .val (.int d1), .val (.int i1), .val (.int i2), .val (.ref s_142), .val (.ref s_147), .val (.ref b151), .val (.ref b155), .val (.int f17), .val (.int ex), .unset, .unset, .unset, .unset, .unset] [(.ref b155), (.ref b151)])) rfl (by rw [hml]; rfl) (Steps.refl _) (argsL := [(.ref b155)]) (rest := []) (lenOf pd_3 rfl) rfl (by show 2 * 0 + _ ≤ _; exact Nat.le_of_eq rfl) (hb hby at_200) (fun _ _ => ⟨rfl, rfl, (by decide : 12 + 0 ≤ _), (by decide : 52 + 0 ≤ _)⟩)
     dsimp only [Pt.U, Pt.locs, Pt.cells, Pt.slots] at X159 l159 y159 z159 st159 hQ159
     subst l159 y159 z159
     obtain ⟨rfl, N159q, e159⟩ := hQ159
     refine own_go (fun _ k => st159.trans k) ?_
     have N159 := Fr.app N157 N159q
     show own_Fin p e below (T159.setTop (mkF m 203 #[.val (.int p0), .val (.int p1), .val (.int p2), .val (.int p3), .val (.int p4), .val (.int 2), .val (.int 2), .val (.int ((p0 &&& (255 : Int32)).toUInt32.toUInt16.toUInt32.toInt32)), .val (.int ((((p0.toUInt32 >>> ((8 : Int32) &&& 31).toUInt32).toInt32) &&& (255 : Int32)).toUInt32.toUInt16.toUInt32.toInt32)), .val (.int d0), .val (.int d1), .val (.int i1), .val (.int i2), .val (.ref s_142), .val (.ref s_147), .val (.ref b151), .val (.ref b155), .val (.int f17), .val (.int ex), .unset, .unset, .unset, .unset, .unset] [(.int (own_bi (i1 = i2 ∧ ([(nar .char ((p0 &&& (255 : Int32)).toUInt32.toUInt16.toUInt32.toInt32)), (nar .char ((((p0.toUInt32 >>> ((8 : Int32) &&& 31).toUInt32).toInt32) &&& (255 : Int32)).toUInt32.toUInt16.toUInt32.toInt32))] : List Int32) = ([(nar .char d0), (nar .char d1)] : List Int32))))])) _
     refine own_go (fun _ k => XS.istore X159.here hx rfl (hb hby at_203) rfl (l' := #[.val (.int p0), .val (.int p1), .val (.int p2), .val (.int p3), .val (.int p4), .val (.int 2), .val (.int 2), .val (.int ((p0 &&& (255 : Int32)).toUInt32.toUInt16.toUInt32.toInt32)), .val (.int ((((p0.toUInt32 >>> ((8 : Int32) &&& 31).toUInt32).toInt32) &&& (255 : Int32)).toUInt32.toUInt16.toUInt32.toInt32)), .val (.int d0), .val (.int d1), .val (.int i1), .val (.int i2), .val (.ref s_142), .val (.ref s_147), .val (.ref b151), .val (.ref b155), .val (.int f17), .val (.int ex), .val (.int (own_bi (i1 = i2 ∧ ([(nar .char ((p0 &&& (255 : Int32)).toUInt32.toUInt16.toUInt32.toInt32)), (nar .char ((((p0.toUInt32 >>> ((8 : Int32) &&& 31).toUInt32).toInt32) &&& (255 : Int32)).toUInt32.toUInt16.toUInt32.toInt32))] : List Int32) = ([(nar .char d0), (nar .char d1)] : List Int32)))), .unset, .unset, .unset, .unset]) rfl (XS.aload X159.here hx rfl (hb hby at_205) rfl rfl (XS.aload X159.here hx rfl (hb hby at_207) rfl rfl k))) ?_
     show own_Fin p e below (T159.setTop (mkF m 209 #[.val (.int p0), .val (.int p1), .val (.int p2), .val (.int p3), .val (.int p4), .val (.int 2), .val (.int 2), .val (.int ((p0 &&& (255 : Int32)).toUInt32.toUInt16.toUInt32.toInt32)), .val (.int ((((p0.toUInt32 >>> ((8 : Int32) &&& 31).toUInt32).toInt32) &&& (255 : Int32)).toUInt32.toUInt16.toUInt32.toInt32)), .val (.int d0), .val (.int d1), .val (.int i1), .val (.int i2), .val (.ref s_142), .val (.ref s_147), .val (.ref b151), .val (.ref b155), .val (.int f17), .val (.int ex), .val (.int (own_bi (i1 = i2 ∧ ([(nar .char ((p0 &&& (255 : Int32)).toUInt32.toUInt16.toUInt32.toInt32)), (nar .char ((((p0.toUInt32 >>> ((8 : Int32) &&& 31).toUInt32).toInt32) &&& (255 : Int32)).toUInt32.toUInt16.toUInt32.toInt32))] : List Int32) = ([(nar .char d0), (nar .char d1)] : List Int32)))), .unset, .unset, .unset, .unset] [(.ref b151), (.ref b155)])) _
     obtain ⟨cq160, kq160, q160a, q160b, q160c⟩ := isOf hZ e159 E_b155
     obtain ⟨_, _, ⟨T160, L160, k160, n160⟩, -, X160, ⟨Lc160, hQ160, l160, y160, z160⟩, st160⟩ := X159.virtualBack hx (y := (⟨"com/example/lokahi/lokahi/Unit", "equals", "(Ljava/lang/Object;)Z"⟩ : MethodName)) (z := (⟨"com/example/lokahi/lokahi/Unit", "equals", "(Ljava/lang/Object;)Z"⟩ : MethodName)) hown (mvT hZ (ow hw 58)) (mvT hZ (ow hw 59)) (notFace_of_selects (args := #[]) (mvT hZ (ow hw 61))) (mvT hZ (ow hw 61)) (mvT hZ (ow hw 60)) (by decide) (backOf (W := 0) (rmeU l Z a0 hw [] b155 b151 i2 i1 s_147 t_148 kb_149 ([(nar .char d0), (nar .char d1)] : List Int32) s_142 t_143 kb_144 ([(nar .char ((p0 &&& (255 : Int32)).toUInt32.toUInt16.toUInt32.toInt32)), (nar .char ((((p0.toUInt32 >>> ((8 : Int32) &&& 31).toUInt32).toInt32) &&& (255 : Int32)).toUInt32.toUInt16.toUInt32.toInt32))] : List Int32) z (T157.heap) n0 O S_String_COMPACT_STRINGS hz E_b155 E_b151 F_b155_Unit_set F_b155_Unit_index F_b151_Unit_set F_b151_Unit_index E_s_147 F_s_147_String_coder F_s_147_String_value V_t_148 E_s_142 F_s_142_String_coder F_s_142_String_value V_t_143 (Ne.symm ne_b151_b155) (own_hp2 hd0 hd1) (own_hp2 (own_255 _) (own_255 _)) (Nat.le_of_ble_eq_true rfl) (Nat.le_of_ble_eq_true rfl)) hZ (ow hw 62) (ow hw 37) (by decide) (by decide)) q160a q160c (g := (mkF m 209 #[.val (.int p0), .val (.int p1), .val (.int p2), .val (.int p3), .val (.int p4), .val (.int 2), .val (.int 2), .val (.int ((p0 &&& (255 : Int32)).toUInt32.toUInt16.toUInt32.toInt32)), .val (.int ((((p0.toUInt32 >>> ((8 : Int32) &&& 31).toUInt32).toInt32) &&& (255 : Int32)).toUInt32.toUInt16.toUInt32.toInt32)), .val (.int d0), .val (.int d1), .val (.int i1), .val (.int i2), .val (.ref s_142), .val (.ref s_147), .val (.ref b151), .val (.ref b155), .val (.int f17), .val (.int ex), .val (.int (own_bi (i1 = i2 ∧ ([(nar .char ((p0 &&& (255 : Int32)).toUInt32.toUInt16.toUInt32.toInt32)), (nar .char ((((p0.toUInt32 >>> ((8 : Int32) &&& 31).toUInt32).toInt32) &&& (255 : Int32)).toUInt32.toUInt16.toUInt32.toInt32))] : List Int32) = ([(nar .char d0), (nar .char d1)] : List Int32)))), .unset, .unset, .unset, .unset] [(.ref b151), (.ref b155)])) rfl (by rw [hml]; rfl) (Steps.refl _) (argsL := [(.ref b151)]) (rest := []) (lenOf pd_3 rfl) rfl (by show 2 * 0 + _ ≤ _; exact Nat.le_of_eq rfl) (hb hby at_209) (fun _ _ => ⟨rfl, e159, (by decide : 12 + 0 ≤ _), (by decide : 52 + 0 ≤ _)⟩)
     dsimp only [Pt.U, Pt.locs, Pt.cells, Pt.slots] at X160 l160 y160 z160 st160 hQ160
     subst l160 y160 z160
     obtain ⟨rfl, N160q, e160⟩ := hQ160
     refine own_go (fun _ k => st160.trans k) ?_
     have N160 := Fr.app N159 N160q
     show own_Fin p e below (T160.setTop (mkF m 212 #[.val (.int p0), .val (.int p1), .val (.int p2), .val (.int p3), .val (.int p4), .val (.int 2), .val (.int 2), .val (.int ((p0 &&& (255 : Int32)).toUInt32.toUInt16.toUInt32.toInt32)), .val (.int ((((p0.toUInt32 >>> ((8 : Int32) &&& 31).toUInt32).toInt32) &&& (255 : Int32)).toUInt32.toUInt16.toUInt32.toInt32)), .val (.int d0), .val (.int d1), .val (.int i1), .val (.int i2), .val (.ref s_142), .val (.ref s_147), .val (.ref b151), .val (.ref b155), .val (.int f17), .val (.int ex), .val (.int (own_bi (i1 = i2 ∧ ([(nar .char ((p0 &&& (255 : Int32)).toUInt32.toUInt16.toUInt32.toInt32)), (nar .char ((((p0.toUInt32 >>> ((8 : Int32) &&& 31).toUInt32).toInt32) &&& (255 : Int32)).toUInt32.toUInt16.toUInt32.toInt32))] : List Int32) = ([(nar .char d0), (nar .char d1)] : List Int32)))), .unset, .unset, .unset, .unset] [(.int (own_bi (i2 = i1 ∧ ([(nar .char d0), (nar .char d1)] : List Int32) = ([(nar .char ((p0 &&& (255 : Int32)).toUInt32.toUInt16.toUInt32.toInt32)), (nar .char ((((p0.toUInt32 >>> ((8 : Int32) &&& 31).toUInt32).toInt32) &&& (255 : Int32)).toUInt32.toUInt16.toUInt32.toInt32))] : List Int32))))])) _
     refine own_go (fun _ k => XS.istore X160.here hx rfl (hb hby at_212) rfl (l' := #[.val (.int p0), .val (.int p1), .val (.int p2), .val (.int p3), .val (.int p4), .val (.int 2), .val (.int 2), .val (.int ((p0 &&& (255 : Int32)).toUInt32.toUInt16.toUInt32.toInt32)), .val (.int ((((p0.toUInt32 >>> ((8 : Int32) &&& 31).toUInt32).toInt32) &&& (255 : Int32)).toUInt32.toUInt16.toUInt32.toInt32)), .val (.int d0), .val (.int d1), .val (.int i1), .val (.int i2), .val (.ref s_142), .val (.ref s_147), .val (.ref b151), .val (.ref b155), .val (.int f17), .val (.int ex), .val (.int (own_bi (i1 = i2 ∧ ([(nar .char ((p0 &&& (255 : Int32)).toUInt32.toUInt16.toUInt32.toInt32)), (nar .char ((((p0.toUInt32 >>> ((8 : Int32) &&& 31).toUInt32).toInt32) &&& (255 : Int32)).toUInt32.toUInt16.toUInt32.toInt32))] : List Int32) = ([(nar .char d0), (nar .char d1)] : List Int32)))), .val (.int (own_bi (i2 = i1 ∧ ([(nar .char d0), (nar .char d1)] : List Int32) = ([(nar .char ((p0 &&& (255 : Int32)).toUInt32.toUInt16.toUInt32.toInt32)), (nar .char ((((p0.toUInt32 >>> ((8 : Int32) &&& 31).toUInt32).toInt32) &&& (255 : Int32)).toUInt32.toUInt16.toUInt32.toInt32))] : List Int32)))), .unset, .unset, .unset]) rfl (XS.aload X160.here hx rfl (hb hby at_214) rfl rfl (XS.aload X160.here hx rfl (hb hby at_216) rfl rfl k))) ?_
     show own_Fin p e below (T160.setTop (mkF m 218 #[.val (.int p0), .val (.int p1), .val (.int p2), .val (.int p3), .val (.int p4), .val (.int 2), .val (.int 2), .val (.int ((p0 &&& (255 : Int32)).toUInt32.toUInt16.toUInt32.toInt32)), .val (.int ((((p0.toUInt32 >>> ((8 : Int32) &&& 31).toUInt32).toInt32) &&& (255 : Int32)).toUInt32.toUInt16.toUInt32.toInt32)), .val (.int d0), .val (.int d1), .val (.int i1), .val (.int i2), .val (.ref s_142), .val (.ref s_147), .val (.ref b151), .val (.ref b155), .val (.int f17), .val (.int ex), .val (.int (own_bi (i1 = i2 ∧ ([(nar .char ((p0 &&& (255 : Int32)).toUInt32.toUInt16.toUInt32.toInt32)), (nar .char ((((p0.toUInt32 >>> ((8 : Int32) &&& 31).toUInt32).toInt32) &&& (255 : Int32)).toUInt32.toUInt16.toUInt32.toInt32))] : List Int32) = ([(nar .char d0), (nar .char d1)] : List Int32)))), .val (.int (own_bi (i2 = i1 ∧ ([(nar .char d0), (nar .char d1)] : List Int32) = ([(nar .char ((p0 &&& (255 : Int32)).toUInt32.toUInt16.toUInt32.toInt32)), (nar .char ((((p0.toUInt32 >>> ((8 : Int32) &&& 31).toUInt32).toInt32) &&& (255 : Int32)).toUInt32.toUInt16.toUInt32.toInt32))] : List Int32)))), .unset, .unset, .unset] [(.ref b151), (.ref b151)])) _
     obtain ⟨cq161, kq161, q161a, q161b, q161c⟩ := isOf hZ e160 E_b151
     obtain ⟨_, _, ⟨T161, L161, k161, n161⟩, -, X161, ⟨Lc161, hQ161, l161, y161, z161⟩, st161⟩ := X160.virtualBack hx (y := (⟨"com/example/lokahi/lokahi/Unit", "equals", "(Ljava/lang/Object;)Z"⟩ : MethodName)) (z := (⟨"com/example/lokahi/lokahi/Unit", "equals", "(Ljava/lang/Object;)Z"⟩ : MethodName)) hown (mvT hZ (ow hw 58)) (mvT hZ (ow hw 59)) (notFace_of_selects (args := #[]) (mvT hZ (ow hw 61))) (mvT hZ (ow hw 61)) (mvT hZ (ow hw 60)) (by decide) (backOf (W := 0) (rmeS l Z a0 hw [] b151 (T157.heap) n0 O ) hZ (ow hw 62) (ow hw 37) (by decide) (by decide)) q161a q161c (g := (mkF m 218 #[.val (.int p0), .val (.int p1), .val (.int p2), .val (.int p3), .val (.int p4), .val (.int 2), .val (.int 2), .val (.int ((p0 &&& (255 : Int32)).toUInt32.toUInt16.toUInt32.toInt32)), .val (.int ((((p0.toUInt32 >>> ((8 : Int32) &&& 31).toUInt32).toInt32) &&& (255 : Int32)).toUInt32.toUInt16.toUInt32.toInt32)), .val (.int d0), .val (.int d1), .val (.int i1), .val (.int i2), .val (.ref s_142), .val (.ref s_147), .val (.ref b151), .val (.ref b155), .val (.int f17), .val (.int ex), .val (.int (own_bi (i1 = i2 ∧ ([(nar .char ((p0 &&& (255 : Int32)).toUInt32.toUInt16.toUInt32.toInt32)), (nar .char ((((p0.toUInt32 >>> ((8 : Int32) &&& 31).toUInt32).toInt32) &&& (255 : Int32)).toUInt32.toUInt16.toUInt32.toInt32))] : List Int32) = ([(nar .char d0), (nar .char d1)] : List Int32)))), .val (.int (own_bi (i2 = i1 ∧ ([(nar .char d0), (nar .char d1)] : List Int32) = ([(nar .char ((p0 &&& (255 : Int32)).toUInt32.toUInt16.toUInt32.toInt32)), (nar .char ((((p0.toUInt32 >>> ((8 : Int32) &&& 31).toUInt32).toInt32) &&& (255 : Int32)).toUInt32.toUInt16.toUInt32.toInt32))] : List Int32)))), .unset, .unset, .unset] [(.ref b151), (.ref b151)])) rfl (by rw [hml]; rfl) (Steps.refl _) (argsL := [(.ref b151)]) (rest := []) (lenOf pd_3 rfl) rfl (by show 2 * 0 + _ ≤ _; exact Nat.le_of_eq rfl) (hb hby at_218) (fun _ _ => ⟨rfl, e160, (by decide : 12 + 0 ≤ _), (by decide : 52 + 0 ≤ _)⟩)
     dsimp only [Pt.U, Pt.locs, Pt.cells, Pt.slots] at X161 l161 y161 z161 st161 hQ161
     subst l161 y161 z161
     obtain ⟨rfl, N161q, e161⟩ := hQ161
     refine own_go (fun _ k => st161.trans k) ?_
     have N161 := Fr.app N160 N161q
     show own_Fin p e below (T161.setTop (mkF m 221 #[.val (.int p0), .val (.int p1), .val (.int p2), .val (.int p3), .val (.int p4), .val (.int 2), .val (.int 2), .val (.int ((p0 &&& (255 : Int32)).toUInt32.toUInt16.toUInt32.toInt32)), .val (.int ((((p0.toUInt32 >>> ((8 : Int32) &&& 31).toUInt32).toInt32) &&& (255 : Int32)).toUInt32.toUInt16.toUInt32.toInt32)), .val (.int d0), .val (.int d1), .val (.int i1), .val (.int i2), .val (.ref s_142), .val (.ref s_147), .val (.ref b151), .val (.ref b155), .val (.int f17), .val (.int ex), .val (.int (own_bi (i1 = i2 ∧ ([(nar .char ((p0 &&& (255 : Int32)).toUInt32.toUInt16.toUInt32.toInt32)), (nar .char ((((p0.toUInt32 >>> ((8 : Int32) &&& 31).toUInt32).toInt32) &&& (255 : Int32)).toUInt32.toUInt16.toUInt32.toInt32))] : List Int32) = ([(nar .char d0), (nar .char d1)] : List Int32)))), .val (.int (own_bi (i2 = i1 ∧ ([(nar .char d0), (nar .char d1)] : List Int32) = ([(nar .char ((p0 &&& (255 : Int32)).toUInt32.toUInt16.toUInt32.toInt32)), (nar .char ((((p0.toUInt32 >>> ((8 : Int32) &&& 31).toUInt32).toInt32) &&& (255 : Int32)).toUInt32.toUInt16.toUInt32.toInt32))] : List Int32)))), .unset, .unset, .unset] [(.int 1)])) _
     refine own_go (fun _ k => XS.istore X161.here hx rfl (hb hby at_221) rfl (l' := #[.val (.int p0), .val (.int p1), .val (.int p2), .val (.int p3), .val (.int p4), .val (.int 2), .val (.int 2), .val (.int ((p0 &&& (255 : Int32)).toUInt32.toUInt16.toUInt32.toInt32)), .val (.int ((((p0.toUInt32 >>> ((8 : Int32) &&& 31).toUInt32).toInt32) &&& (255 : Int32)).toUInt32.toUInt16.toUInt32.toInt32)), .val (.int d0), .val (.int d1), .val (.int i1), .val (.int i2), .val (.ref s_142), .val (.ref s_147), .val (.ref b151), .val (.ref b155), .val (.int f17), .val (.int ex), .val (.int (own_bi (i1 = i2 ∧ ([(nar .char ((p0 &&& (255 : Int32)).toUInt32.toUInt16.toUInt32.toInt32)), (nar .char ((((p0.toUInt32 >>> ((8 : Int32) &&& 31).toUInt32).toInt32) &&& (255 : Int32)).toUInt32.toUInt16.toUInt32.toInt32))] : List Int32) = ([(nar .char d0), (nar .char d1)] : List Int32)))), .val (.int (own_bi (i2 = i1 ∧ ([(nar .char d0), (nar .char d1)] : List Int32) = ([(nar .char ((p0 &&& (255 : Int32)).toUInt32.toUInt16.toUInt32.toInt32)), (nar .char ((((p0.toUInt32 >>> ((8 : Int32) &&& 31).toUInt32).toInt32) &&& (255 : Int32)).toUInt32.toUInt16.toUInt32.toInt32))] : List Int32)))), .val (.int 1), .unset, .unset]) rfl (XS.aload X161.here hx rfl (hb hby at_223) rfl rfl (XS.aconstNull X161.here hx rfl (hb hby at_225) k))) ?_
     show own_Fin p e below (T161.setTop (mkF m 226 #[.val (.int p0), .val (.int p1), .val (.int p2), .val (.int p3), .val (.int p4), .val (.int 2), .val (.int 2), .val (.int ((p0 &&& (255 : Int32)).toUInt32.toUInt16.toUInt32.toInt32)), .val (.int ((((p0.toUInt32 >>> ((8 : Int32) &&& 31).toUInt32).toInt32) &&& (255 : Int32)).toUInt32.toUInt16.toUInt32.toInt32)), .val (.int d0), .val (.int d1), .val (.int i1), .val (.int i2), .val (.ref s_142), .val (.ref s_147), .val (.ref b151), .val (.ref b155), .val (.int f17), .val (.int ex), .val (.int (own_bi (i1 = i2 ∧ ([(nar .char ((p0 &&& (255 : Int32)).toUInt32.toUInt16.toUInt32.toInt32)), (nar .char ((((p0.toUInt32 >>> ((8 : Int32) &&& 31).toUInt32).toInt32) &&& (255 : Int32)).toUInt32.toUInt16.toUInt32.toInt32))] : List Int32) = ([(nar .char d0), (nar .char d1)] : List Int32)))), .val (.int (own_bi (i2 = i1 ∧ ([(nar .char d0), (nar .char d1)] : List Int32) = ([(nar .char ((p0 &&& (255 : Int32)).toUInt32.toUInt16.toUInt32.toInt32)), (nar .char ((((p0.toUInt32 >>> ((8 : Int32) &&& 31).toUInt32).toInt32) &&& (255 : Int32)).toUInt32.toUInt16.toUInt32.toInt32))] : List Int32)))), .val (.int 1), .unset, .unset] [.null, (.ref b151)])) _
     obtain ⟨cq162, kq162, q162a, q162b, q162c⟩ := isOf hZ e161 E_b151
     obtain ⟨_, _, ⟨T162, L162, k162, n162⟩, -, X162, ⟨Lc162, hQ162, l162, y162, z162⟩, st162⟩ := X161.virtualBack hx (y := (⟨"com/example/lokahi/lokahi/Unit", "equals", "(Ljava/lang/Object;)Z"⟩ : MethodName)) (z := (⟨"com/example/lokahi/lokahi/Unit", "equals", "(Ljava/lang/Object;)Z"⟩ : MethodName)) hown (mvT hZ (ow hw 58)) (mvT hZ (ow hw 59)) (notFace_of_selects (args := #[]) (mvT hZ (ow hw 61))) (mvT hZ (ow hw 61)) (mvT hZ (ow hw 60)) (by decide) (backOf (W := 0) (rmeN l Z a0 hw [] b151 (T157.heap) n0 O ) hZ (ow hw 62) (ow hw 37) (by decide) (by decide)) q162a q162c (g := (mkF m 226 #[.val (.int p0), .val (.int p1), .val (.int p2), .val (.int p3), .val (.int p4), .val (.int 2), .val (.int 2), .val (.int ((p0 &&& (255 : Int32)).toUInt32.toUInt16.toUInt32.toInt32)), .val (.int ((((p0.toUInt32 >>> ((8 : Int32) &&& 31).toUInt32).toInt32) &&& (255 : Int32)).toUInt32.toUInt16.toUInt32.toInt32)), .val (.int d0), .val (.int d1), .val (.int i1), .val (.int i2), .val (.ref s_142), .val (.ref s_147), .val (.ref b151), .val (.ref b155), .val (.int f17), .val (.int ex), .val (.int (own_bi (i1 = i2 ∧ ([(nar .char ((p0 &&& (255 : Int32)).toUInt32.toUInt16.toUInt32.toInt32)), (nar .char ((((p0.toUInt32 >>> ((8 : Int32) &&& 31).toUInt32).toInt32) &&& (255 : Int32)).toUInt32.toUInt16.toUInt32.toInt32))] : List Int32) = ([(nar .char d0), (nar .char d1)] : List Int32)))), .val (.int (own_bi (i2 = i1 ∧ ([(nar .char d0), (nar .char d1)] : List Int32) = ([(nar .char ((p0 &&& (255 : Int32)).toUInt32.toUInt16.toUInt32.toInt32)), (nar .char ((((p0.toUInt32 >>> ((8 : Int32) &&& 31).toUInt32).toInt32) &&& (255 : Int32)).toUInt32.toUInt16.toUInt32.toInt32))] : List Int32)))), .val (.int 1), .unset, .unset] [.null, (.ref b151)])) rfl (by rw [hml]; rfl) (Steps.refl _) (argsL := [.null]) (rest := []) (lenOf pd_3 rfl) rfl (by show 2 * 0 + _ ≤ _; exact Nat.le_of_eq rfl) (hb hby at_226) (fun _ _ => ⟨rfl, e161, (by decide : 12 + 0 ≤ _), (by decide : 52 + 0 ≤ _)⟩)
     dsimp only [Pt.U, Pt.locs, Pt.cells, Pt.slots] at X162 l162 y162 z162 st162 hQ162
     subst l162 y162 z162
     obtain ⟨rfl, N162q, e162⟩ := hQ162
     refine own_go (fun _ k => st162.trans k) ?_
     have N162 := Fr.app N161 N162q
     show own_Fin p e below (T162.setTop (mkF m 229 #[.val (.int p0), .val (.int p1), .val (.int p2), .val (.int p3), .val (.int p4), .val (.int 2), .val (.int 2), .val (.int ((p0 &&& (255 : Int32)).toUInt32.toUInt16.toUInt32.toInt32)), .val (.int ((((p0.toUInt32 >>> ((8 : Int32) &&& 31).toUInt32).toInt32) &&& (255 : Int32)).toUInt32.toUInt16.toUInt32.toInt32)), .val (.int d0), .val (.int d1), .val (.int i1), .val (.int i2), .val (.ref s_142), .val (.ref s_147), .val (.ref b151), .val (.ref b155), .val (.int f17), .val (.int ex), .val (.int (own_bi (i1 = i2 ∧ ([(nar .char ((p0 &&& (255 : Int32)).toUInt32.toUInt16.toUInt32.toInt32)), (nar .char ((((p0.toUInt32 >>> ((8 : Int32) &&& 31).toUInt32).toInt32) &&& (255 : Int32)).toUInt32.toUInt16.toUInt32.toInt32))] : List Int32) = ([(nar .char d0), (nar .char d1)] : List Int32)))), .val (.int (own_bi (i2 = i1 ∧ ([(nar .char d0), (nar .char d1)] : List Int32) = ([(nar .char ((p0 &&& (255 : Int32)).toUInt32.toUInt16.toUInt32.toInt32)), (nar .char ((((p0.toUInt32 >>> ((8 : Int32) &&& 31).toUInt32).toInt32) &&& (255 : Int32)).toUInt32.toUInt16.toUInt32.toInt32))] : List Int32)))), .val (.int 1), .unset, .unset] [(.int 0)])) _
     refine own_go (fun _ k => XS.istore X162.here hx rfl (hb hby at_229) rfl (l' := #[.val (.int p0), .val (.int p1), .val (.int p2), .val (.int p3), .val (.int p4), .val (.int 2), .val (.int 2), .val (.int ((p0 &&& (255 : Int32)).toUInt32.toUInt16.toUInt32.toInt32)), .val (.int ((((p0.toUInt32 >>> ((8 : Int32) &&& 31).toUInt32).toInt32) &&& (255 : Int32)).toUInt32.toUInt16.toUInt32.toInt32)), .val (.int d0), .val (.int d1), .val (.int i1), .val (.int i2), .val (.ref s_142), .val (.ref s_147), .val (.ref b151), .val (.ref b155), .val (.int f17), .val (.int ex), .val (.int (own_bi (i1 = i2 ∧ ([(nar .char ((p0 &&& (255 : Int32)).toUInt32.toUInt16.toUInt32.toInt32)), (nar .char ((((p0.toUInt32 >>> ((8 : Int32) &&& 31).toUInt32).toInt32) &&& (255 : Int32)).toUInt32.toUInt16.toUInt32.toInt32))] : List Int32) = ([(nar .char d0), (nar .char d1)] : List Int32)))), .val (.int (own_bi (i2 = i1 ∧ ([(nar .char d0), (nar .char d1)] : List Int32) = ([(nar .char ((p0 &&& (255 : Int32)).toUInt32.toUInt16.toUInt32.toInt32)), (nar .char ((((p0.toUInt32 >>> ((8 : Int32) &&& 31).toUInt32).toInt32) &&& (255 : Int32)).toUInt32.toUInt16.toUInt32.toInt32))] : List Int32)))), .val (.int 1), .val (.int 0), .unset]) rfl (XS.aload X162.here hx rfl (hb hby at_231) rfl rfl (XS.aload X162.here hx rfl (hb hby at_233) rfl rfl k))) ?_
     show own_Fin p e below (T162.setTop (mkF m 235 #[.val (.int p0), .val (.int p1), .val (.int p2), .val (.int p3), .val (.int p4), .val (.int 2), .val (.int 2), .val (.int ((p0 &&& (255 : Int32)).toUInt32.toUInt16.toUInt32.toInt32)), .val (.int ((((p0.toUInt32 >>> ((8 : Int32) &&& 31).toUInt32).toInt32) &&& (255 : Int32)).toUInt32.toUInt16.toUInt32.toInt32)), .val (.int d0), .val (.int d1), .val (.int i1), .val (.int i2), .val (.ref s_142), .val (.ref s_147), .val (.ref b151), .val (.ref b155), .val (.int f17), .val (.int ex), .val (.int (own_bi (i1 = i2 ∧ ([(nar .char ((p0 &&& (255 : Int32)).toUInt32.toUInt16.toUInt32.toInt32)), (nar .char ((((p0.toUInt32 >>> ((8 : Int32) &&& 31).toUInt32).toInt32) &&& (255 : Int32)).toUInt32.toUInt16.toUInt32.toInt32))] : List Int32) = ([(nar .char d0), (nar .char d1)] : List Int32)))), .val (.int (own_bi (i2 = i1 ∧ ([(nar .char d0), (nar .char d1)] : List Int32) = ([(nar .char ((p0 &&& (255 : Int32)).toUInt32.toUInt16.toUInt32.toInt32)), (nar .char ((((p0.toUInt32 >>> ((8 : Int32) &&& 31).toUInt32).toInt32) &&& (255 : Int32)).toUInt32.toUInt16.toUInt32.toInt32))] : List Int32)))), .val (.int 1), .val (.int 0), .unset] [(.ref s_142), (.ref b151)])) _
     obtain ⟨cq163, kq163, q163a, q163b, q163c⟩ := isOf hZ e162 E_b151
     obtain ⟨_, _, ⟨T163, L163, k163, n163⟩, -, X163, ⟨Lc163, hQ163, l163, y163, z163⟩, st163⟩ := X162.virtualBack hx (y := (⟨"com/example/lokahi/lokahi/Unit", "equals", "(Ljava/lang/Object;)Z"⟩ : MethodName)) (z := (⟨"com/example/lokahi/lokahi/Unit", "equals", "(Ljava/lang/Object;)Z"⟩ : MethodName)) hown (mvT hZ (ow hw 58)) (mvT hZ (ow hw 59)) (notFace_of_selects (args := #[]) (mvT hZ (ow hw 61))) (mvT hZ (ow hw 61)) (mvT hZ (ow hw 60)) (by decide) (backOf (W := 0) (rmeT l Z a0 hw [] b151 s_142 (T157.heap) n0 O E_s_142 (Ne.symm ne_s_142_b151)) hZ (ow hw 62) (ow hw 37) (by decide) (by decide)) q163a q163c (g := (mkF m 235 #[.val (.int p0), .val (.int p1), .val (.int p2), .val (.int p3), .val (.int p4), .val (.int 2), .val (.int 2), .val (.int ((p0 &&& (255 : Int32)).toUInt32.toUInt16.toUInt32.toInt32)), .val (.int ((((p0.toUInt32 >>> ((8 : Int32) &&& 31).toUInt32).toInt32) &&& (255 : Int32)).toUInt32.toUInt16.toUInt32.toInt32)), .val (.int d0), .val (.int d1), .val (.int i1), .val (.int i2), .val (.ref s_142), .val (.ref s_147), .val (.ref b151), .val (.ref b155), .val (.int f17), .val (.int ex), .val (.int (own_bi (i1 = i2 ∧ ([(nar .char ((p0 &&& (255 : Int32)).toUInt32.toUInt16.toUInt32.toInt32)), (nar .char ((((p0.toUInt32 >>> ((8 : Int32) &&& 31).toUInt32).toInt32) &&& (255 : Int32)).toUInt32.toUInt16.toUInt32.toInt32))] : List Int32) = ([(nar .char d0), (nar .char d1)] : List Int32)))), .val (.int (own_bi (i2 = i1 ∧ ([(nar .char d0), (nar .char d1)] : List Int32) = ([(nar .char ((p0 &&& (255 : Int32)).toUInt32.toUInt16.toUInt32.toInt32)), (nar .char ((((p0.toUInt32 >>> ((8 : Int32) &&& 31).toUInt32).toInt32) &&& (255 : Int32)).toUInt32.toUInt16.toUInt32.toInt32))] : List Int32)))), .val (.int 1), .val (.int 0), .unset] [(.ref s_142), (.ref b151)])) rfl (by rw [hml]; rfl) (Steps.refl _) (argsL := [(.ref s_142)]) (rest := []) (lenOf pd_3 rfl) rfl (by show 2 * 0 + _ ≤ _; exact Nat.le_of_eq rfl) (hb hby at_235) (fun _ _ => ⟨rfl, e162, (by decide : 12 + 0 ≤ _), (by decide : 52 + 0 ≤ _)⟩)
     dsimp only [Pt.U, Pt.locs, Pt.cells, Pt.slots] at X163 l163 y163 z163 st163 hQ163
     subst l163 y163 z163
     obtain ⟨rfl, N163q, e163⟩ := hQ163
     refine own_go (fun _ k => st163.trans k) ?_
     have N163 := Fr.app N162 N163q
     show own_Fin p e below (T163.setTop (mkF m 238 #[.val (.int p0), .val (.int p1), .val (.int p2), .val (.int p3), .val (.int p4), .val (.int 2), .val (.int 2), .val (.int ((p0 &&& (255 : Int32)).toUInt32.toUInt16.toUInt32.toInt32)), .val (.int ((((p0.toUInt32 >>> ((8 : Int32) &&& 31).toUInt32).toInt32) &&& (255 : Int32)).toUInt32.toUInt16.toUInt32.toInt32)), .val (.int d0), .val (.int d1), .val (.int i1), .val (.int i2), .val (.ref s_142), .val (.ref s_147), .val (.ref b151), .val (.ref b155), .val (.int f17), .val (.int ex), .val (.int (own_bi (i1 = i2 ∧ ([(nar .char ((p0 &&& (255 : Int32)).toUInt32.toUInt16.toUInt32.toInt32)), (nar .char ((((p0.toUInt32 >>> ((8 : Int32) &&& 31).toUInt32).toInt32) &&& (255 : Int32)).toUInt32.toUInt16.toUInt32.toInt32))] : List Int32) = ([(nar .char d0), (nar .char d1)] : List Int32)))), .val (.int (own_bi (i2 = i1 ∧ ([(nar .char d0), (nar .char d1)] : List Int32) = ([(nar .char ((p0 &&& (255 : Int32)).toUInt32.toUInt16.toUInt32.toInt32)), (nar .char ((((p0.toUInt32 >>> ((8 : Int32) &&& 31).toUInt32).toInt32) &&& (255 : Int32)).toUInt32.toUInt16.toUInt32.toInt32))] : List Int32)))), .val (.int 1), .val (.int 0), .unset] [(.int 0)])) _
     refine own_go (fun _ k => XS.istore X163.here hx rfl (hb hby at_238) rfl (l' := #[.val (.int p0), .val (.int p1), .val (.int p2), .val (.int p3), .val (.int p4), .val (.int 2), .val (.int 2), .val (.int ((p0 &&& (255 : Int32)).toUInt32.toUInt16.toUInt32.toInt32)), .val (.int ((((p0.toUInt32 >>> ((8 : Int32) &&& 31).toUInt32).toInt32) &&& (255 : Int32)).toUInt32.toUInt16.toUInt32.toInt32)), .val (.int d0), .val (.int d1), .val (.int i1), .val (.int i2), .val (.ref s_142), .val (.ref s_147), .val (.ref b151), .val (.ref b155), .val (.int f17), .val (.int ex), .val (.int (own_bi (i1 = i2 ∧ ([(nar .char ((p0 &&& (255 : Int32)).toUInt32.toUInt16.toUInt32.toInt32)), (nar .char ((((p0.toUInt32 >>> ((8 : Int32) &&& 31).toUInt32).toInt32) &&& (255 : Int32)).toUInt32.toUInt16.toUInt32.toInt32))] : List Int32) = ([(nar .char d0), (nar .char d1)] : List Int32)))), .val (.int (own_bi (i2 = i1 ∧ ([(nar .char d0), (nar .char d1)] : List Int32) = ([(nar .char ((p0 &&& (255 : Int32)).toUInt32.toUInt16.toUInt32.toInt32)), (nar .char ((((p0.toUInt32 >>> ((8 : Int32) &&& 31).toUInt32).toInt32) &&& (255 : Int32)).toUInt32.toUInt16.toUInt32.toInt32))] : List Int32)))), .val (.int 1), .val (.int 0), .val (.int 0)]) rfl (XS.iload X163.here hx rfl (hb hby at_240) rfl (XS.iload X163.here hx rfl (hb hby at_242) rfl (XS.icmpNo X163.here hx rfl (hb hby at_244) rfl (teq (by rw [hex] : (own_bi (i1 = i2 ∧ ([(nar .char ((p0 &&& (255 : Int32)).toUInt32.toUInt16.toUInt32.toInt32)), (nar .char ((((p0.toUInt32 >>> ((8 : Int32) &&& 31).toUInt32).toInt32) &&& (255 : Int32)).toUInt32.toUInt16.toUInt32.toInt32))] : List Int32) = ([(nar .char d0), (nar .char d1)] : List Int32))) = ex)).2 (XS.iload X163.here hx rfl (hb hby at_247) rfl (XS.iload X163.here hx rfl (hb hby at_249) rfl (XS.icmpNo X163.here hx rfl (hb hby at_251) rfl (teq (by rw [hex]; unfold own_bi; simp only [eq_comm] : (own_bi (i2 = i1 ∧ ([(nar .char d0), (nar .char d1)] : List Int32) = ([(nar .char ((p0 &&& (255 : Int32)).toUInt32.toUInt16.toUInt32.toInt32)), (nar .char ((((p0.toUInt32 >>> ((8 : Int32) &&& 31).toUInt32).toInt32) &&& (255 : Int32)).toUInt32.toUInt16.toUInt32.toInt32))] : List Int32))) = ex)).2 (XS.iload X163.here hx rfl (hb hby at_254) rfl (XS.ifNo X163.here hx rfl (hb hby at_256) rfl ((if0 _ _).trans (feq (by decide : ¬ ((1 : Int32) = (0 : Int32)))).1) (XS.iload X163.here hx rfl (hb hby at_259) rfl k)))))))))) ?_
     show own_Fin p e below (T163.setTop (mkF m 261 #[.val (.int p0), .val (.int p1), .val (.int p2), .val (.int p3), .val (.int p4), .val (.int 2), .val (.int 2), .val (.int ((p0 &&& (255 : Int32)).toUInt32.toUInt16.toUInt32.toInt32)), .val (.int ((((p0.toUInt32 >>> ((8 : Int32) &&& 31).toUInt32).toInt32) &&& (255 : Int32)).toUInt32.toUInt16.toUInt32.toInt32)), .val (.int d0), .val (.int d1), .val (.int i1), .val (.int i2), .val (.ref s_142), .val (.ref s_147), .val (.ref b151), .val (.ref b155), .val (.int f17), .val (.int ex), .val (.int (own_bi (i1 = i2 ∧ ([(nar .char ((p0 &&& (255 : Int32)).toUInt32.toUInt16.toUInt32.toInt32)), (nar .char ((((p0.toUInt32 >>> ((8 : Int32) &&& 31).toUInt32).toInt32) &&& (255 : Int32)).toUInt32.toUInt16.toUInt32.toInt32))] : List Int32) = ([(nar .char d0), (nar .char d1)] : List Int32)))), .val (.int (own_bi (i2 = i1 ∧ ([(nar .char d0), (nar .char d1)] : List Int32) = ([(nar .char ((p0 &&& (255 : Int32)).toUInt32.toUInt16.toUInt32.toInt32)), (nar .char ((((p0.toUInt32 >>> ((8 : Int32) &&& 31).toUInt32).toInt32) &&& (255 : Int32)).toUInt32.toUInt16.toUInt32.toInt32))] : List Int32)))), .val (.int 1), .val (.int 0), .val (.int 0)] [(.int 0)])) _
     refine own_go (fun _ k => XS.ifNo X163.here hx rfl (hb hby at_261) rfl ((if0 _ _).trans (teq (by decide : (0 : Int32) = (0 : Int32))).2) (XS.iload X163.here hx rfl (hb hby at_264) rfl (XS.ifNo X163.here hx rfl (hb hby at_266) rfl ((if0 _ _).trans (teq (by decide : (0 : Int32) = (0 : Int32))).2) (XS.iconst X163.here hx rfl (hb hby at_269) (XS.goto X163.here hx rfl (pc0 := 270) (pc' := 274) rfl (hb hby at_270) (by decide) (by decide) k))))) ?_
     show own_Fin p e below (T163.setTop (mkF m 274 #[.val (.int p0), .val (.int p1), .val (.int p2), .val (.int p3), .val (.int p4), .val (.int 2), .val (.int 2), .val (.int ((p0 &&& (255 : Int32)).toUInt32.toUInt16.toUInt32.toInt32)), .val (.int ((((p0.toUInt32 >>> ((8 : Int32) &&& 31).toUInt32).toInt32) &&& (255 : Int32)).toUInt32.toUInt16.toUInt32.toInt32)), .val (.int d0), .val (.int d1), .val (.int i1), .val (.int i2), .val (.ref s_142), .val (.ref s_147), .val (.ref b151), .val (.ref b155), .val (.int f17), .val (.int ex), .val (.int (own_bi (i1 = i2 ∧ ([(nar .char ((p0 &&& (255 : Int32)).toUInt32.toUInt16.toUInt32.toInt32)), (nar .char ((((p0.toUInt32 >>> ((8 : Int32) &&& 31).toUInt32).toInt32) &&& (255 : Int32)).toUInt32.toUInt16.toUInt32.toInt32))] : List Int32) = ([(nar .char d0), (nar .char d1)] : List Int32)))), .val (.int (own_bi (i2 = i1 ∧ ([(nar .char d0), (nar .char d1)] : List Int32) = ([(nar .char ((p0 &&& (255 : Int32)).toUInt32.toUInt16.toUInt32.toInt32)), (nar .char ((((p0.toUInt32 >>> ((8 : Int32) &&& 31).toUInt32).toInt32) &&& (255 : Int32)).toUInt32.toUInt16.toUInt32.toInt32))] : List Int32)))), .val (.int 1), .val (.int 0), .val (.int 0)] [(.int 1)])) _
     obtain ⟨fs, hr, hrun, hended, hE⟩ := X163.leaveW hS (Nat.le_trans hk (Nat.le_of_eq (congrArg Array.size e163).symm)) (v := some (.int 1)) (fun h => by rw [Bd.returns] at h; cases h)
     refine ⟨_, _, ?_, hrun, hended, _, _, rfl, ?_, ⟨_, rfl⟩, hE.2.1, hE.2.2.1, hE.2.2.2.mono (by decide) (by decide)⟩
     ·exact retN X163 hx (t := .boolean) Bd.returns (by simp) (hb hby at_274) hr
     ·show Qrm0 Z p0 p1 p2 p3 p4 z h0 n0 _ T163.heap _
      rw [e163]
      exact ⟨rfl, N163, K158⟩
    show own_Fin p e below (T157.setTop (mkF m 143 #[.val (.int p0), .val (.int p1), .val (.int p2), .val (.int p3), .val (.int p4), .val (.int 2), .val (.int 2), .val (.int ((p0 &&& (255 : Int32)).toUInt32.toUInt16.toUInt32.toInt32)), .val (.int ((((p0.toUInt32 >>> ((8 : Int32) &&& 31).toUInt32).toInt32) &&& (255 : Int32)).toUInt32.toUInt16.toUInt32.toInt32)), .val (.int d0), .val (.int d1), .val (.int i1), .val (.int i2), .val (.ref s_142), .val (.ref s_147), .val (.ref b151), .val (.ref b155), .unset, .unset, .unset, .unset, .unset, .unset, .unset] [])) _
    refine own_go (fun _ k => XS.iload X157.here hx rfl (hb hby at_143) rfl (XS.iload X157.here hx rfl (hb hby at_145) rfl (XS.icmpNo X157.here hx rfl (hb hby at_147) rfl (teq (by decide : (2 : Int32) = (2 : Int32))).2 (XS.iload X157.here hx rfl (hb hby at_150) rfl (XS.iload X157.here hx rfl (hb hby at_152) rfl k))))) ?_
    show own_Fin p e below (T157.setTop (mkF m 154 #[.val (.int p0), .val (.int p1), .val (.int p2), .val (.int p3), .val (.int p4), .val (.int 2), .val (.int 2), .val (.int ((p0 &&& (255 : Int32)).toUInt32.toUInt16.toUInt32.toInt32)), .val (.int ((((p0.toUInt32 >>> ((8 : Int32) &&& 31).toUInt32).toInt32) &&& (255 : Int32)).toUInt32.toUInt16.toUInt32.toInt32)), .val (.int d0), .val (.int d1), .val (.int i1), .val (.int i2), .val (.ref s_142), .val (.ref s_147), .val (.ref b151), .val (.ref b155), .unset, .unset, .unset, .unset, .unset, .unset, .unset] [(.int d0), (.int ((p0 &&& (255 : Int32)).toUInt32.toUInt16.toUInt32.toInt32))])) _
    by_cases hc154_165 : ((p0 &&& (255 : Int32)).toUInt32.toUInt16.toUInt32.toInt32) = d0
    ·refine own_go (fun _ k => XS.icmpNo X157.here hx rfl (hb hby at_154) rfl (teq hc154_165).2 (XS.iload X157.here hx rfl (hb hby at_157) rfl (XS.iconst X157.here hx rfl (hb hby at_159) (XS.icmpNo X157.here hx rfl (hb hby at_160) rfl (feq (by decide : ¬ ((2 : Int32) = (1 : Int32)))).1 (XS.iload X157.here hx rfl (hb hby at_163) rfl (XS.iload X157.here hx rfl (hb hby at_165) rfl k)))))) ?_
     show own_Fin p e below (T157.setTop (mkF m 167 #[.val (.int p0), .val (.int p1), .val (.int p2), .val (.int p3), .val (.int p4), .val (.int 2), .val (.int 2), .val (.int ((p0 &&& (255 : Int32)).toUInt32.toUInt16.toUInt32.toInt32)), .val (.int ((((p0.toUInt32 >>> ((8 : Int32) &&& 31).toUInt32).toInt32) &&& (255 : Int32)).toUInt32.toUInt16.toUInt32.toInt32)), .val (.int d0), .val (.int d1), .val (.int i1), .val (.int i2), .val (.ref s_142), .val (.ref s_147), .val (.ref b151), .val (.ref b155), .unset, .unset, .unset, .unset, .unset, .unset, .unset] [(.int d1), (.int ((((p0.toUInt32 >>> ((8 : Int32) &&& 31).toUInt32).toInt32) &&& (255 : Int32)).toUInt32.toUInt16.toUInt32.toInt32))])) _
     by_cases hc167_166 : ((((p0.toUInt32 >>> ((8 : Int32) &&& 31).toUInt32).toInt32) &&& (255 : Int32)).toUInt32.toUInt16.toUInt32.toInt32) = d1
     ·refine own_go (fun _ k => XS.icmpNo X157.here hx rfl (hb hby at_167) rfl (teq hc167_166).2 (XS.iconst X157.here hx rfl (hb hby at_170) (XS.goto X157.here hx rfl (pc0 := 171) (pc' := 175) rfl (hb hby at_171) (by decide) (by decide) (XS.istore X157.here hx rfl (hb hby at_175) rfl (l' := #[.val (.int p0), .val (.int p1), .val (.int p2), .val (.int p3), .val (.int p4), .val (.int 2), .val (.int 2), .val (.int ((p0 &&& (255 : Int32)).toUInt32.toUInt16.toUInt32.toInt32)), .val (.int ((((p0.toUInt32 >>> ((8 : Int32) &&& 31).toUInt32).toInt32) &&& (255 : Int32)).toUInt32.toUInt16.toUInt32.toInt32)), .val (.int d0), .val (.int d1), .val (.int i1), .val (.int i2), .val (.ref s_142), .val (.ref s_147), .val (.ref b151), .val (.ref b155), .val (.int 1), .unset, .unset, .unset, .unset, .unset, .unset]) rfl (XS.iload X157.here hx rfl (hb hby at_177) rfl (XS.ifNo X157.here hx rfl (hb hby at_179) rfl ((if0 _ _).trans (feq (by decide : ¬ ((1 : Int32) = (0 : Int32)))).1) (XS.iload X157.here hx rfl (hb hby at_182) rfl (XS.iload X157.here hx rfl (hb hby at_184) rfl k)))))))) ?_
      show own_Fin p e below (T157.setTop (mkF m 186 #[.val (.int p0), .val (.int p1), .val (.int p2), .val (.int p3), .val (.int p4), .val (.int 2), .val (.int 2), .val (.int ((p0 &&& (255 : Int32)).toUInt32.toUInt16.toUInt32.toInt32)), .val (.int ((((p0.toUInt32 >>> ((8 : Int32) &&& 31).toUInt32).toInt32) &&& (255 : Int32)).toUInt32.toUInt16.toUInt32.toInt32)), .val (.int d0), .val (.int d1), .val (.int i1), .val (.int i2), .val (.ref s_142), .val (.ref s_147), .val (.ref b151), .val (.ref b155), .val (.int 1), .unset, .unset, .unset, .unset, .unset, .unset] [(.int i2), (.int i1)])) _
      by_cases hc186_167 : i1 = i2
      ·refine own_go (fun _ k => XS.icmpNo X157.here hx rfl (hb hby at_186) rfl (teq hc186_167).2 (XS.iconst X157.here hx rfl (hb hby at_189) (XS.goto X157.here hx rfl (pc0 := 190) (pc' := 194) rfl (hb hby at_190) (by decide) (by decide) (XS.istore X157.here hx rfl (hb hby at_194) rfl (l' := #[.val (.int p0), .val (.int p1), .val (.int p2), .val (.int p3), .val (.int p4), .val (.int 2), .val (.int 2), .val (.int ((p0 &&& (255 : Int32)).toUInt32.toUInt16.toUInt32.toInt32)), .val (.int ((((p0.toUInt32 >>> ((8 : Int32) &&& 31).toUInt32).toInt32) &&& (255 : Int32)).toUInt32.toUInt16.toUInt32.toInt32)), .val (.int d0), .val (.int d1), .val (.int i1), .val (.int i2), .val (.ref s_142), .val (.ref s_147), .val (.ref b151), .val (.ref b155), .val (.int 1), .val (.int 1), .unset, .unset, .unset, .unset, .unset]) rfl k)))) ?_
       show own_Fin p e below (T157.setTop (mkF m 196 #[.val (.int p0), .val (.int p1), .val (.int p2), .val (.int p3), .val (.int p4), .val (.int 2), .val (.int 2), .val (.int ((p0 &&& (255 : Int32)).toUInt32.toUInt16.toUInt32.toInt32)), .val (.int ((((p0.toUInt32 >>> ((8 : Int32) &&& 31).toUInt32).toInt32) &&& (255 : Int32)).toUInt32.toUInt16.toUInt32.toInt32)), .val (.int d0), .val (.int d1), .val (.int i1), .val (.int i2), .val (.ref s_142), .val (.ref s_147), .val (.ref b151), .val (.ref b155), .val (.int 1), .val (.int 1), .unset, .unset, .unset, .unset, .unset] [])) _
       exact j2 (1 : Int32) (1 : Int32) (by first | (simp only [own_bi, own_narid (own_255 _), own_narid hd0, own_narid hd1, hc154_165, hc167_166, hc186_167, List.cons.injEq, and_true, true_and, and_self, and_false, false_and, ↓reduceIte]; done) | simp [own_bi, own_narid (own_255 _), own_narid hd0, own_narid hd1, hc154_165, hc167_166, hc186_167])
      ·refine own_go (fun _ k => XS.icmpYes X157.here hx rfl (pc0 := 186) (pc' := 193) rfl (hb hby at_186) rfl (feq hc186_167).2 (by decide) (by decide) (XS.iconst X157.here hx rfl (hb hby at_193) (XS.istore X157.here hx rfl (hb hby at_194) rfl (l' := #[.val (.int p0), .val (.int p1), .val (.int p2), .val (.int p3), .val (.int p4), .val (.int 2), .val (.int 2), .val (.int ((p0 &&& (255 : Int32)).toUInt32.toUInt16.toUInt32.toInt32)), .val (.int ((((p0.toUInt32 >>> ((8 : Int32) &&& 31).toUInt32).toInt32) &&& (255 : Int32)).toUInt32.toUInt16.toUInt32.toInt32)), .val (.int d0), .val (.int d1), .val (.int i1), .val (.int i2), .val (.ref s_142), .val (.ref s_147), .val (.ref b151), .val (.ref b155), .val (.int 1), .val (.int 0), .unset, .unset, .unset, .unset, .unset]) rfl k))) ?_
       show own_Fin p e below (T157.setTop (mkF m 196 #[.val (.int p0), .val (.int p1), .val (.int p2), .val (.int p3), .val (.int p4), .val (.int 2), .val (.int 2), .val (.int ((p0 &&& (255 : Int32)).toUInt32.toUInt16.toUInt32.toInt32)), .val (.int ((((p0.toUInt32 >>> ((8 : Int32) &&& 31).toUInt32).toInt32) &&& (255 : Int32)).toUInt32.toUInt16.toUInt32.toInt32)), .val (.int d0), .val (.int d1), .val (.int i1), .val (.int i2), .val (.ref s_142), .val (.ref s_147), .val (.ref b151), .val (.ref b155), .val (.int 1), .val (.int 0), .unset, .unset, .unset, .unset, .unset] [])) _
       exact j2 (1 : Int32) (0 : Int32) (by first | (simp only [own_bi, own_narid (own_255 _), own_narid hd0, own_narid hd1, hc154_165, hc167_166, hc186_167, List.cons.injEq, and_true, true_and, and_self, and_false, false_and, ↓reduceIte]; done) | simp [own_bi, own_narid (own_255 _), own_narid hd0, own_narid hd1, hc154_165, hc167_166, hc186_167])
     ·refine own_go (fun _ k => XS.icmpYes X157.here hx rfl (pc0 := 167) (pc' := 174) rfl (hb hby at_167) rfl (feq hc167_166).2 (by decide) (by decide) (XS.iconst X157.here hx rfl (hb hby at_174) (XS.istore X157.here hx rfl (hb hby at_175) rfl (l' := #[.val (.int p0), .val (.int p1), .val (.int p2), .val (.int p3), .val (.int p4), .val (.int 2), .val (.int 2), .val (.int ((p0 &&& (255 : Int32)).toUInt32.toUInt16.toUInt32.toInt32)), .val (.int ((((p0.toUInt32 >>> ((8 : Int32) &&& 31).toUInt32).toInt32) &&& (255 : Int32)).toUInt32.toUInt16.toUInt32.toInt32)), .val (.int d0), .val (.int d1), .val (.int i1), .val (.int i2), .val (.ref s_142), .val (.ref s_147), .val (.ref b151), .val (.ref b155), .val (.int 0), .unset, .unset, .unset, .unset, .unset, .unset]) rfl (XS.iload X157.here hx rfl (hb hby at_177) rfl (XS.ifYes X157.here hx rfl (pc0 := 179) (pc' := 193) rfl (hb hby at_179) rfl ((if0 _ _).trans (teq (by decide : (0 : Int32) = (0 : Int32))).1) (by decide) (by decide) (XS.iconst X157.here hx rfl (hb hby at_193) (XS.istore X157.here hx rfl (hb hby at_194) rfl (l' := #[.val (.int p0), .val (.int p1), .val (.int p2), .val (.int p3), .val (.int p4), .val (.int 2), .val (.int 2), .val (.int ((p0 &&& (255 : Int32)).toUInt32.toUInt16.toUInt32.toInt32)), .val (.int ((((p0.toUInt32 >>> ((8 : Int32) &&& 31).toUInt32).toInt32) &&& (255 : Int32)).toUInt32.toUInt16.toUInt32.toInt32)), .val (.int d0), .val (.int d1), .val (.int i1), .val (.int i2), .val (.ref s_142), .val (.ref s_147), .val (.ref b151), .val (.ref b155), .val (.int 0), .val (.int 0), .unset, .unset, .unset, .unset, .unset]) rfl k))))))) ?_
      show own_Fin p e below (T157.setTop (mkF m 196 #[.val (.int p0), .val (.int p1), .val (.int p2), .val (.int p3), .val (.int p4), .val (.int 2), .val (.int 2), .val (.int ((p0 &&& (255 : Int32)).toUInt32.toUInt16.toUInt32.toInt32)), .val (.int ((((p0.toUInt32 >>> ((8 : Int32) &&& 31).toUInt32).toInt32) &&& (255 : Int32)).toUInt32.toUInt16.toUInt32.toInt32)), .val (.int d0), .val (.int d1), .val (.int i1), .val (.int i2), .val (.ref s_142), .val (.ref s_147), .val (.ref b151), .val (.ref b155), .val (.int 0), .val (.int 0), .unset, .unset, .unset, .unset, .unset] [])) _
      exact j2 (0 : Int32) (0 : Int32) (by first | (simp only [own_bi, own_narid (own_255 _), own_narid hd0, own_narid hd1, hc154_165, hc167_166, List.cons.injEq, and_true, true_and, and_self, and_false, false_and, ↓reduceIte]; done) | simp [own_bi, own_narid (own_255 _), own_narid hd0, own_narid hd1, hc154_165, hc167_166])
    ·refine own_go (fun _ k => XS.icmpYes X157.here hx rfl (pc0 := 154) (pc' := 174) rfl (hb hby at_154) rfl (feq hc154_165).2 (by decide) (by decide) (XS.iconst X157.here hx rfl (hb hby at_174) (XS.istore X157.here hx rfl (hb hby at_175) rfl (l' := #[.val (.int p0), .val (.int p1), .val (.int p2), .val (.int p3), .val (.int p4), .val (.int 2), .val (.int 2), .val (.int ((p0 &&& (255 : Int32)).toUInt32.toUInt16.toUInt32.toInt32)), .val (.int ((((p0.toUInt32 >>> ((8 : Int32) &&& 31).toUInt32).toInt32) &&& (255 : Int32)).toUInt32.toUInt16.toUInt32.toInt32)), .val (.int d0), .val (.int d1), .val (.int i1), .val (.int i2), .val (.ref s_142), .val (.ref s_147), .val (.ref b151), .val (.ref b155), .val (.int 0), .unset, .unset, .unset, .unset, .unset, .unset]) rfl (XS.iload X157.here hx rfl (hb hby at_177) rfl (XS.ifYes X157.here hx rfl (pc0 := 179) (pc' := 193) rfl (hb hby at_179) rfl ((if0 _ _).trans (teq (by decide : (0 : Int32) = (0 : Int32))).1) (by decide) (by decide) (XS.iconst X157.here hx rfl (hb hby at_193) (XS.istore X157.here hx rfl (hb hby at_194) rfl (l' := #[.val (.int p0), .val (.int p1), .val (.int p2), .val (.int p3), .val (.int p4), .val (.int 2), .val (.int 2), .val (.int ((p0 &&& (255 : Int32)).toUInt32.toUInt16.toUInt32.toInt32)), .val (.int ((((p0.toUInt32 >>> ((8 : Int32) &&& 31).toUInt32).toInt32) &&& (255 : Int32)).toUInt32.toUInt16.toUInt32.toInt32)), .val (.int d0), .val (.int d1), .val (.int i1), .val (.int i2), .val (.ref s_142), .val (.ref s_147), .val (.ref b151), .val (.ref b155), .val (.int 0), .val (.int 0), .unset, .unset, .unset, .unset, .unset]) rfl k))))))) ?_
     show own_Fin p e below (T157.setTop (mkF m 196 #[.val (.int p0), .val (.int p1), .val (.int p2), .val (.int p3), .val (.int p4), .val (.int 2), .val (.int 2), .val (.int ((p0 &&& (255 : Int32)).toUInt32.toUInt16.toUInt32.toInt32)), .val (.int ((((p0.toUInt32 >>> ((8 : Int32) &&& 31).toUInt32).toInt32) &&& (255 : Int32)).toUInt32.toUInt16.toUInt32.toInt32)), .val (.int d0), .val (.int d1), .val (.int i1), .val (.int i2), .val (.ref s_142), .val (.ref s_147), .val (.ref b151), .val (.ref b155), .val (.int 0), .val (.int 0), .unset, .unset, .unset, .unset, .unset] [])) _
     exact j2 (0 : Int32) (0 : Int32) (by first | (simp only [own_bi, own_narid (own_255 _), own_narid hd0, own_narid hd1, hc154_165, List.cons.injEq, and_true, true_and, and_self, and_false, false_and, ↓reduceIte]; done) | simp [own_bi, own_narid (own_255 _), own_narid hd0, own_narid hd1, hc154_165])
  show own_Fin p e below (s₁.setTop (mkF m 56 #[.val (.int p0), .val (.int p1), .val (.int p2), .val (.int p3), .val (.int p4), .val (.int ((1 : Int32) + (p4 &&& (1 : Int32)))), .val (.int ((1 : Int32) + ((p4 >>> ((1 : Int32) &&& 31)) &&& (1 : Int32)))), .val (.int ((p0 &&& (255 : Int32)).toUInt32.toUInt16.toUInt32.toInt32)), .val (.int ((((p0.toUInt32 >>> ((8 : Int32) &&& 31).toUInt32).toInt32) &&& (255 : Int32)).toUInt32.toUInt16.toUInt32.toInt32)), .val (.int ((p1 &&& (255 : Int32)).toUInt32.toUInt16.toUInt32.toInt32)), .val (.int ((((p1.toUInt32 >>> ((8 : Int32) &&& 31).toUInt32).toInt32) &&& (255 : Int32)).toUInt32.toUInt16.toUInt32.toInt32)), .unset, .unset, .unset, .unset, .unset, .unset, .unset, .unset, .unset, .unset, .unset, .unset, .unset] [])) _
  refine own_go (fun _ k => XS.iload X0.here hx rfl (hb hby at_56) rfl (XS.iconst X0.here hx rfl (hb hby at_58) (XS.iand X0.here hx rfl (hb hby at_59) rfl k))) ?_
  show own_Fin p e below (s₁.setTop (mkF m 60 #[.val (.int p0), .val (.int p1), .val (.int p2), .val (.int p3), .val (.int p4), .val (.int ((1 : Int32) + (p4 &&& (1 : Int32)))), .val (.int ((1 : Int32) + ((p4 >>> ((1 : Int32) &&& 31)) &&& (1 : Int32)))), .val (.int ((p0 &&& (255 : Int32)).toUInt32.toUInt16.toUInt32.toInt32)), .val (.int ((((p0.toUInt32 >>> ((8 : Int32) &&& 31).toUInt32).toInt32) &&& (255 : Int32)).toUInt32.toUInt16.toUInt32.toInt32)), .val (.int ((p1 &&& (255 : Int32)).toUInt32.toUInt16.toUInt32.toInt32)), .val (.int ((((p1.toUInt32 >>> ((8 : Int32) &&& 31).toUInt32).toInt32) &&& (255 : Int32)).toUInt32.toUInt16.toUInt32.toInt32)), .unset, .unset, .unset, .unset, .unset, .unset, .unset, .unset, .unset, .unset, .unset, .unset, .unset] [(.int (p4 &&& (4 : Int32)))])) _
  by_cases hc60_168 : (p4 &&& (4 : Int32)) = (0 : Int32)
  ·refine own_go (fun _ k => XS.ifYes X0.here hx rfl (pc0 := 60) (pc' := 71) rfl (hb hby at_60) rfl ((if0 _ _).trans (teq hc60_168).1) (by decide) (by decide) (XS.iloadN X0.here hx rfl (hb hby at_71) rfl k)) ?_
   show own_Fin p e below (s₁.setTop (mkF m 72 #[.val (.int p0), .val (.int p1), .val (.int p2), .val (.int p3), .val (.int p4), .val (.int ((1 : Int32) + (p4 &&& (1 : Int32)))), .val (.int ((1 : Int32) + ((p4 >>> ((1 : Int32) &&& 31)) &&& (1 : Int32)))), .val (.int ((p0 &&& (255 : Int32)).toUInt32.toUInt16.toUInt32.toInt32)), .val (.int ((((p0.toUInt32 >>> ((8 : Int32) &&& 31).toUInt32).toInt32) &&& (255 : Int32)).toUInt32.toUInt16.toUInt32.toInt32)), .val (.int ((p1 &&& (255 : Int32)).toUInt32.toUInt16.toUInt32.toInt32)), .val (.int ((((p1.toUInt32 >>> ((8 : Int32) &&& 31).toUInt32).toInt32) &&& (255 : Int32)).toUInt32.toUInt16.toUInt32.toInt32)), .unset, .unset, .unset, .unset, .unset, .unset, .unset, .unset, .unset, .unset, .unset, .unset, .unset] [(.int p2)])) _
   refine own_go (fun _ k => X0.ldcInt hx hown (mvT hZ (ow hw 0)) (g := (mkF m 72 #[.val (.int p0), .val (.int p1), .val (.int p2), .val (.int p3), .val (.int p4), .val (.int ((1 : Int32) + (p4 &&& (1 : Int32)))), .val (.int ((1 : Int32) + ((p4 >>> ((1 : Int32) &&& 31)) &&& (1 : Int32)))), .val (.int ((p0 &&& (255 : Int32)).toUInt32.toUInt16.toUInt32.toInt32)), .val (.int ((((p0.toUInt32 >>> ((8 : Int32) &&& 31).toUInt32).toInt32) &&& (255 : Int32)).toUInt32.toUInt16.toUInt32.toInt32)), .val (.int ((p1 &&& (255 : Int32)).toUInt32.toUInt16.toUInt32.toInt32)), .val (.int ((((p1.toUInt32 >>> ((8 : Int32) &&& 31).toUInt32).toInt32) &&& (255 : Int32)).toUInt32.toUInt16.toUInt32.toInt32)), .unset, .unset, .unset, .unset, .unset, .unset, .unset, .unset, .unset, .unset, .unset, .unset, .unset] [(.int p2)])) rfl (hb hby at_72) _ k) ?_
   show own_Fin p e below (s₁.setTop (mkF m 74 #[.val (.int p0), .val (.int p1), .val (.int p2), .val (.int p3), .val (.int p4), .val (.int ((1 : Int32) + (p4 &&& (1 : Int32)))), .val (.int ((1 : Int32) + ((p4 >>> ((1 : Int32) &&& 31)) &&& (1 : Int32)))), .val (.int ((p0 &&& (255 : Int32)).toUInt32.toUInt16.toUInt32.toInt32)), .val (.int ((((p0.toUInt32 >>> ((8 : Int32) &&& 31).toUInt32).toInt32) &&& (255 : Int32)).toUInt32.toUInt16.toUInt32.toInt32)), .val (.int ((p1 &&& (255 : Int32)).toUInt32.toUInt16.toUInt32.toInt32)), .val (.int ((((p1.toUInt32 >>> ((8 : Int32) &&& 31).toUInt32).toInt32) &&& (255 : Int32)).toUInt32.toUInt16.toUInt32.toInt32)), .unset, .unset, .unset, .unset, .unset, .unset, .unset, .unset, .unset, .unset, .unset, .unset, .unset] [(.int 2147483647), (.int p2)])) _
   refine own_go (fun _ k => XS.iand X0.here hx rfl (hb hby at_74) rfl (XS.istore X0.here hx rfl (hb hby at_75) rfl (l' := #[.val (.int p0), .val (.int p1), .val (.int p2), .val (.int p3), .val (.int p4), .val (.int ((1 : Int32) + (p4 &&& (1 : Int32)))), .val (.int ((1 : Int32) + ((p4 >>> ((1 : Int32) &&& 31)) &&& (1 : Int32)))), .val (.int ((p0 &&& (255 : Int32)).toUInt32.toUInt16.toUInt32.toInt32)), .val (.int ((((p0.toUInt32 >>> ((8 : Int32) &&& 31).toUInt32).toInt32) &&& (255 : Int32)).toUInt32.toUInt16.toUInt32.toInt32)), .val (.int ((p1 &&& (255 : Int32)).toUInt32.toUInt16.toUInt32.toInt32)), .val (.int ((((p1.toUInt32 >>> ((8 : Int32) &&& 31).toUInt32).toInt32) &&& (255 : Int32)).toUInt32.toUInt16.toUInt32.toInt32)), .val (.int (p2 &&& (2147483647 : Int32))), .unset, .unset, .unset, .unset, .unset, .unset, .unset, .unset, .unset, .unset, .unset, .unset]) rfl (XS.iloadN X0.here hx rfl (hb hby at_77) rfl k))) ?_
   show own_Fin p e below (s₁.setTop (mkF m 78 #[.val (.int p0), .val (.int p1), .val (.int p2), .val (.int p3), .val (.int p4), .val (.int ((1 : Int32) + (p4 &&& (1 : Int32)))), .val (.int ((1 : Int32) + ((p4 >>> ((1 : Int32) &&& 31)) &&& (1 : Int32)))), .val (.int ((p0 &&& (255 : Int32)).toUInt32.toUInt16.toUInt32.toInt32)), .val (.int ((((p0.toUInt32 >>> ((8 : Int32) &&& 31).toUInt32).toInt32) &&& (255 : Int32)).toUInt32.toUInt16.toUInt32.toInt32)), .val (.int ((p1 &&& (255 : Int32)).toUInt32.toUInt16.toUInt32.toInt32)), .val (.int ((((p1.toUInt32 >>> ((8 : Int32) &&& 31).toUInt32).toInt32) &&& (255 : Int32)).toUInt32.toUInt16.toUInt32.toInt32)), .val (.int (p2 &&& (2147483647 : Int32))), .unset, .unset, .unset, .unset, .unset, .unset, .unset, .unset, .unset, .unset, .unset, .unset] [(.int p3)])) _
   refine own_go (fun _ k => X0.ldcInt hx hown (mvT hZ (ow hw 0)) (g := (mkF m 78 #[.val (.int p0), .val (.int p1), .val (.int p2), .val (.int p3), .val (.int p4), .val (.int ((1 : Int32) + (p4 &&& (1 : Int32)))), .val (.int ((1 : Int32) + ((p4 >>> ((1 : Int32) &&& 31)) &&& (1 : Int32)))), .val (.int ((p0 &&& (255 : Int32)).toUInt32.toUInt16.toUInt32.toInt32)), .val (.int ((((p0.toUInt32 >>> ((8 : Int32) &&& 31).toUInt32).toInt32) &&& (255 : Int32)).toUInt32.toUInt16.toUInt32.toInt32)), .val (.int ((p1 &&& (255 : Int32)).toUInt32.toUInt16.toUInt32.toInt32)), .val (.int ((((p1.toUInt32 >>> ((8 : Int32) &&& 31).toUInt32).toInt32) &&& (255 : Int32)).toUInt32.toUInt16.toUInt32.toInt32)), .val (.int (p2 &&& (2147483647 : Int32))), .unset, .unset, .unset, .unset, .unset, .unset, .unset, .unset, .unset, .unset, .unset, .unset] [(.int p3)])) rfl (hb hby at_78) _ k) ?_
   show own_Fin p e below (s₁.setTop (mkF m 80 #[.val (.int p0), .val (.int p1), .val (.int p2), .val (.int p3), .val (.int p4), .val (.int ((1 : Int32) + (p4 &&& (1 : Int32)))), .val (.int ((1 : Int32) + ((p4 >>> ((1 : Int32) &&& 31)) &&& (1 : Int32)))), .val (.int ((p0 &&& (255 : Int32)).toUInt32.toUInt16.toUInt32.toInt32)), .val (.int ((((p0.toUInt32 >>> ((8 : Int32) &&& 31).toUInt32).toInt32) &&& (255 : Int32)).toUInt32.toUInt16.toUInt32.toInt32)), .val (.int ((p1 &&& (255 : Int32)).toUInt32.toUInt16.toUInt32.toInt32)), .val (.int ((((p1.toUInt32 >>> ((8 : Int32) &&& 31).toUInt32).toInt32) &&& (255 : Int32)).toUInt32.toUInt16.toUInt32.toInt32)), .val (.int (p2 &&& (2147483647 : Int32))), .unset, .unset, .unset, .unset, .unset, .unset, .unset, .unset, .unset, .unset, .unset, .unset] [(.int 2147483647), (.int p3)])) _
   refine own_go (fun _ k => XS.iand X0.here hx rfl (hb hby at_80) rfl (XS.istore X0.here hx rfl (hb hby at_81) rfl (l' := #[.val (.int p0), .val (.int p1), .val (.int p2), .val (.int p3), .val (.int p4), .val (.int ((1 : Int32) + (p4 &&& (1 : Int32)))), .val (.int ((1 : Int32) + ((p4 >>> ((1 : Int32) &&& 31)) &&& (1 : Int32)))), .val (.int ((p0 &&& (255 : Int32)).toUInt32.toUInt16.toUInt32.toInt32)), .val (.int ((((p0.toUInt32 >>> ((8 : Int32) &&& 31).toUInt32).toInt32) &&& (255 : Int32)).toUInt32.toUInt16.toUInt32.toInt32)), .val (.int ((p1 &&& (255 : Int32)).toUInt32.toUInt16.toUInt32.toInt32)), .val (.int ((((p1.toUInt32 >>> ((8 : Int32) &&& 31).toUInt32).toInt32) &&& (255 : Int32)).toUInt32.toUInt16.toUInt32.toInt32)), .val (.int (p2 &&& (2147483647 : Int32))), .val (.int (p3 &&& (2147483647 : Int32))), .unset, .unset, .unset, .unset, .unset, .unset, .unset, .unset, .unset, .unset, .unset]) rfl (XS.iload X0.here hx rfl (hb hby at_83) rfl (XS.bipush X0.here hx rfl (hb hby at_85) (XS.iand X0.here hx rfl (hb hby at_87) rfl k))))) ?_
   show own_Fin p e below (s₁.setTop (mkF m 88 #[.val (.int p0), .val (.int p1), .val (.int p2), .val (.int p3), .val (.int p4), .val (.int ((1 : Int32) + (p4 &&& (1 : Int32)))), .val (.int ((1 : Int32) + ((p4 >>> ((1 : Int32) &&& 31)) &&& (1 : Int32)))), .val (.int ((p0 &&& (255 : Int32)).toUInt32.toUInt16.toUInt32.toInt32)), .val (.int ((((p0.toUInt32 >>> ((8 : Int32) &&& 31).toUInt32).toInt32) &&& (255 : Int32)).toUInt32.toUInt16.toUInt32.toInt32)), .val (.int ((p1 &&& (255 : Int32)).toUInt32.toUInt16.toUInt32.toInt32)), .val (.int ((((p1.toUInt32 >>> ((8 : Int32) &&& 31).toUInt32).toInt32) &&& (255 : Int32)).toUInt32.toUInt16.toUInt32.toInt32)), .val (.int (p2 &&& (2147483647 : Int32))), .val (.int (p3 &&& (2147483647 : Int32))), .unset, .unset, .unset, .unset, .unset, .unset, .unset, .unset, .unset, .unset, .unset] [(.int (p4 &&& (8 : Int32)))])) _
   by_cases hc88_169 : (p4 &&& (8 : Int32)) = (0 : Int32)
   ·refine own_go (fun _ k => XS.ifYes X0.here hx rfl (pc0 := 88) (pc' := 95) rfl (hb hby at_88) rfl ((if0 _ _).trans (teq hc88_169).1) (by decide) (by decide) k) ?_
    show own_Fin p e below (s₁.setTop (mkF m 95 #[.val (.int p0), .val (.int p1), .val (.int p2), .val (.int p3), .val (.int p4), .val (.int ((1 : Int32) + (p4 &&& (1 : Int32)))), .val (.int ((1 : Int32) + ((p4 >>> ((1 : Int32) &&& 31)) &&& (1 : Int32)))), .val (.int ((p0 &&& (255 : Int32)).toUInt32.toUInt16.toUInt32.toInt32)), .val (.int ((((p0.toUInt32 >>> ((8 : Int32) &&& 31).toUInt32).toInt32) &&& (255 : Int32)).toUInt32.toUInt16.toUInt32.toInt32)), .val (.int ((p1 &&& (255 : Int32)).toUInt32.toUInt16.toUInt32.toInt32)), .val (.int ((((p1.toUInt32 >>> ((8 : Int32) &&& 31).toUInt32).toInt32) &&& (255 : Int32)).toUInt32.toUInt16.toUInt32.toInt32)), .val (.int (p2 &&& (2147483647 : Int32))), .val (.int (p3 &&& (2147483647 : Int32))), .unset, .unset, .unset, .unset, .unset, .unset, .unset, .unset, .unset, .unset, .unset] [])) _
    exact j1 ((p1 &&& (255 : Int32)).toUInt32.toUInt16.toUInt32.toInt32) ((((p1.toUInt32 >>> ((8 : Int32) &&& 31).toUInt32).toInt32) &&& (255 : Int32)).toUInt32.toUInt16.toUInt32.toInt32) (p2 &&& (2147483647 : Int32)) (p3 &&& (2147483647 : Int32)) (own_255 _) (own_255 _) (own_pos _) (own_pos _)
   ·refine own_go (fun _ k => XS.ifNo X0.here hx rfl (hb hby at_88) rfl ((if0 _ _).trans (feq hc88_169).1) (XS.iload X0.here hx rfl (hb hby at_91) rfl (XS.istore X0.here hx rfl (hb hby at_93) rfl (l' := #[.val (.int p0), .val (.int p1), .val (.int p2), .val (.int p3), .val (.int p4), .val (.int ((1 : Int32) + (p4 &&& (1 : Int32)))), .val (.int ((1 : Int32) + ((p4 >>> ((1 : Int32) &&& 31)) &&& (1 : Int32)))), .val (.int ((p0 &&& (255 : Int32)).toUInt32.toUInt16.toUInt32.toInt32)), .val (.int ((((p0.toUInt32 >>> ((8 : Int32) &&& 31).toUInt32).toInt32) &&& (255 : Int32)).toUInt32.toUInt16.toUInt32.toInt32)), .val (.int ((p1 &&& (255 : Int32)).toUInt32.toUInt16.toUInt32.toInt32)), .val (.int ((((p1.toUInt32 >>> ((8 : Int32) &&& 31).toUInt32).toInt32) &&& (255 : Int32)).toUInt32.toUInt16.toUInt32.toInt32)), .val (.int (p2 &&& (2147483647 : Int32))), .val (.int (p2 &&& (2147483647 : Int32))), .unset, .unset, .unset, .unset, .unset, .unset, .unset, .unset, .unset, .unset, .unset]) rfl k))) ?_
    show own_Fin p e below (s₁.setTop (mkF m 95 #[.val (.int p0), .val (.int p1), .val (.int p2), .val (.int p3), .val (.int p4), .val (.int ((1 : Int32) + (p4 &&& (1 : Int32)))), .val (.int ((1 : Int32) + ((p4 >>> ((1 : Int32) &&& 31)) &&& (1 : Int32)))), .val (.int ((p0 &&& (255 : Int32)).toUInt32.toUInt16.toUInt32.toInt32)), .val (.int ((((p0.toUInt32 >>> ((8 : Int32) &&& 31).toUInt32).toInt32) &&& (255 : Int32)).toUInt32.toUInt16.toUInt32.toInt32)), .val (.int ((p1 &&& (255 : Int32)).toUInt32.toUInt16.toUInt32.toInt32)), .val (.int ((((p1.toUInt32 >>> ((8 : Int32) &&& 31).toUInt32).toInt32) &&& (255 : Int32)).toUInt32.toUInt16.toUInt32.toInt32)), .val (.int (p2 &&& (2147483647 : Int32))), .val (.int (p2 &&& (2147483647 : Int32))), .unset, .unset, .unset, .unset, .unset, .unset, .unset, .unset, .unset, .unset, .unset] [])) _
    exact j1 ((p1 &&& (255 : Int32)).toUInt32.toUInt16.toUInt32.toInt32) ((((p1.toUInt32 >>> ((8 : Int32) &&& 31).toUInt32).toInt32) &&& (255 : Int32)).toUInt32.toUInt16.toUInt32.toInt32) (p2 &&& (2147483647 : Int32)) (p2 &&& (2147483647 : Int32)) (own_255 _) (own_255 _) (own_pos _) (own_pos _)
  ·refine own_go (fun _ k => XS.ifNo X0.here hx rfl (hb hby at_60) rfl ((if0 _ _).trans (feq hc60_168).1) (XS.iload X0.here hx rfl (hb hby at_63) rfl (XS.istore X0.here hx rfl (hb hby at_65) rfl (l' := #[.val (.int p0), .val (.int p1), .val (.int p2), .val (.int p3), .val (.int p4), .val (.int ((1 : Int32) + (p4 &&& (1 : Int32)))), .val (.int ((1 : Int32) + ((p4 >>> ((1 : Int32) &&& 31)) &&& (1 : Int32)))), .val (.int ((p0 &&& (255 : Int32)).toUInt32.toUInt16.toUInt32.toInt32)), .val (.int ((((p0.toUInt32 >>> ((8 : Int32) &&& 31).toUInt32).toInt32) &&& (255 : Int32)).toUInt32.toUInt16.toUInt32.toInt32)), .val (.int ((p0 &&& (255 : Int32)).toUInt32.toUInt16.toUInt32.toInt32)), .val (.int ((((p1.toUInt32 >>> ((8 : Int32) &&& 31).toUInt32).toInt32) &&& (255 : Int32)).toUInt32.toUInt16.toUInt32.toInt32)), .unset, .unset, .unset, .unset, .unset, .unset, .unset, .unset, .unset, .unset, .unset, .unset, .unset]) rfl (XS.iload X0.here hx rfl (hb hby at_67) rfl (XS.istore X0.here hx rfl (hb hby at_69) rfl (l' := #[.val (.int p0), .val (.int p1), .val (.int p2), .val (.int p3), .val (.int p4), .val (.int ((1 : Int32) + (p4 &&& (1 : Int32)))), .val (.int ((1 : Int32) + ((p4 >>> ((1 : Int32) &&& 31)) &&& (1 : Int32)))), .val (.int ((p0 &&& (255 : Int32)).toUInt32.toUInt16.toUInt32.toInt32)), .val (.int ((((p0.toUInt32 >>> ((8 : Int32) &&& 31).toUInt32).toInt32) &&& (255 : Int32)).toUInt32.toUInt16.toUInt32.toInt32)), .val (.int ((p0 &&& (255 : Int32)).toUInt32.toUInt16.toUInt32.toInt32)), .val (.int ((((p0.toUInt32 >>> ((8 : Int32) &&& 31).toUInt32).toInt32) &&& (255 : Int32)).toUInt32.toUInt16.toUInt32.toInt32)), .unset, .unset, .unset, .unset, .unset, .unset, .unset, .unset, .unset, .unset, .unset, .unset, .unset]) rfl (XS.iloadN X0.here hx rfl (hb hby at_71) rfl k)))))) ?_
   show own_Fin p e below (s₁.setTop (mkF m 72 #[.val (.int p0), .val (.int p1), .val (.int p2), .val (.int p3), .val (.int p4), .val (.int ((1 : Int32) + (p4 &&& (1 : Int32)))), .val (.int ((1 : Int32) + ((p4 >>> ((1 : Int32) &&& 31)) &&& (1 : Int32)))), .val (.int ((p0 &&& (255 : Int32)).toUInt32.toUInt16.toUInt32.toInt32)), .val (.int ((((p0.toUInt32 >>> ((8 : Int32) &&& 31).toUInt32).toInt32) &&& (255 : Int32)).toUInt32.toUInt16.toUInt32.toInt32)), .val (.int ((p0 &&& (255 : Int32)).toUInt32.toUInt16.toUInt32.toInt32)), .val (.int ((((p0.toUInt32 >>> ((8 : Int32) &&& 31).toUInt32).toInt32) &&& (255 : Int32)).toUInt32.toUInt16.toUInt32.toInt32)), .unset, .unset, .unset, .unset, .unset, .unset, .unset, .unset, .unset, .unset, .unset, .unset, .unset] [(.int p2)])) _
   refine own_go (fun _ k => X0.ldcInt hx hown (mvT hZ (ow hw 0)) (g := (mkF m 72 #[.val (.int p0), .val (.int p1), .val (.int p2), .val (.int p3), .val (.int p4), .val (.int ((1 : Int32) + (p4 &&& (1 : Int32)))), .val (.int ((1 : Int32) + ((p4 >>> ((1 : Int32) &&& 31)) &&& (1 : Int32)))), .val (.int ((p0 &&& (255 : Int32)).toUInt32.toUInt16.toUInt32.toInt32)), .val (.int ((((p0.toUInt32 >>> ((8 : Int32) &&& 31).toUInt32).toInt32) &&& (255 : Int32)).toUInt32.toUInt16.toUInt32.toInt32)), .val (.int ((p0 &&& (255 : Int32)).toUInt32.toUInt16.toUInt32.toInt32)), .val (.int ((((p0.toUInt32 >>> ((8 : Int32) &&& 31).toUInt32).toInt32) &&& (255 : Int32)).toUInt32.toUInt16.toUInt32.toInt32)), .unset, .unset, .unset, .unset, .unset, .unset, .unset, .unset, .unset, .unset, .unset, .unset, .unset] [(.int p2)])) rfl (hb hby at_72) _ k) ?_
   show own_Fin p e below (s₁.setTop (mkF m 74 #[.val (.int p0), .val (.int p1), .val (.int p2), .val (.int p3), .val (.int p4), .val (.int ((1 : Int32) + (p4 &&& (1 : Int32)))), .val (.int ((1 : Int32) + ((p4 >>> ((1 : Int32) &&& 31)) &&& (1 : Int32)))), .val (.int ((p0 &&& (255 : Int32)).toUInt32.toUInt16.toUInt32.toInt32)), .val (.int ((((p0.toUInt32 >>> ((8 : Int32) &&& 31).toUInt32).toInt32) &&& (255 : Int32)).toUInt32.toUInt16.toUInt32.toInt32)), .val (.int ((p0 &&& (255 : Int32)).toUInt32.toUInt16.toUInt32.toInt32)), .val (.int ((((p0.toUInt32 >>> ((8 : Int32) &&& 31).toUInt32).toInt32) &&& (255 : Int32)).toUInt32.toUInt16.toUInt32.toInt32)), .unset, .unset, .unset, .unset, .unset, .unset, .unset, .unset, .unset, .unset, .unset, .unset, .unset] [(.int 2147483647), (.int p2)])) _
   refine own_go (fun _ k => XS.iand X0.here hx rfl (hb hby at_74) rfl (XS.istore X0.here hx rfl (hb hby at_75) rfl (l' := #[.val (.int p0), .val (.int p1), .val (.int p2), .val (.int p3), .val (.int p4), .val (.int ((1 : Int32) + (p4 &&& (1 : Int32)))), .val (.int ((1 : Int32) + ((p4 >>> ((1 : Int32) &&& 31)) &&& (1 : Int32)))), .val (.int ((p0 &&& (255 : Int32)).toUInt32.toUInt16.toUInt32.toInt32)), .val (.int ((((p0.toUInt32 >>> ((8 : Int32) &&& 31).toUInt32).toInt32) &&& (255 : Int32)).toUInt32.toUInt16.toUInt32.toInt32)), .val (.int ((p0 &&& (255 : Int32)).toUInt32.toUInt16.toUInt32.toInt32)), .val (.int ((((p0.toUInt32 >>> ((8 : Int32) &&& 31).toUInt32).toInt32) &&& (255 : Int32)).toUInt32.toUInt16.toUInt32.toInt32)), .val (.int (p2 &&& (2147483647 : Int32))), .unset, .unset, .unset, .unset, .unset, .unset, .unset, .unset, .unset, .unset, .unset, .unset]) rfl (XS.iloadN X0.here hx rfl (hb hby at_77) rfl k))) ?_
   show own_Fin p e below (s₁.setTop (mkF m 78 #[.val (.int p0), .val (.int p1), .val (.int p2), .val (.int p3), .val (.int p4), .val (.int ((1 : Int32) + (p4 &&& (1 : Int32)))), .val (.int ((1 : Int32) + ((p4 >>> ((1 : Int32) &&& 31)) &&& (1 : Int32)))), .val (.int ((p0 &&& (255 : Int32)).toUInt32.toUInt16.toUInt32.toInt32)), .val (.int ((((p0.toUInt32 >>> ((8 : Int32) &&& 31).toUInt32).toInt32) &&& (255 : Int32)).toUInt32.toUInt16.toUInt32.toInt32)), .val (.int ((p0 &&& (255 : Int32)).toUInt32.toUInt16.toUInt32.toInt32)), .val (.int ((((p0.toUInt32 >>> ((8 : Int32) &&& 31).toUInt32).toInt32) &&& (255 : Int32)).toUInt32.toUInt16.toUInt32.toInt32)), .val (.int (p2 &&& (2147483647 : Int32))), .unset, .unset, .unset, .unset, .unset, .unset, .unset, .unset, .unset, .unset, .unset, .unset] [(.int p3)])) _
   refine own_go (fun _ k => X0.ldcInt hx hown (mvT hZ (ow hw 0)) (g := (mkF m 78 #[.val (.int p0), .val (.int p1), .val (.int p2), .val (.int p3), .val (.int p4), .val (.int ((1 : Int32) + (p4 &&& (1 : Int32)))), .val (.int ((1 : Int32) + ((p4 >>> ((1 : Int32) &&& 31)) &&& (1 : Int32)))), .val (.int ((p0 &&& (255 : Int32)).toUInt32.toUInt16.toUInt32.toInt32)), .val (.int ((((p0.toUInt32 >>> ((8 : Int32) &&& 31).toUInt32).toInt32) &&& (255 : Int32)).toUInt32.toUInt16.toUInt32.toInt32)), .val (.int ((p0 &&& (255 : Int32)).toUInt32.toUInt16.toUInt32.toInt32)), .val (.int ((((p0.toUInt32 >>> ((8 : Int32) &&& 31).toUInt32).toInt32) &&& (255 : Int32)).toUInt32.toUInt16.toUInt32.toInt32)), .val (.int (p2 &&& (2147483647 : Int32))), .unset, .unset, .unset, .unset, .unset, .unset, .unset, .unset, .unset, .unset, .unset, .unset] [(.int p3)])) rfl (hb hby at_78) _ k) ?_
   show own_Fin p e below (s₁.setTop (mkF m 80 #[.val (.int p0), .val (.int p1), .val (.int p2), .val (.int p3), .val (.int p4), .val (.int ((1 : Int32) + (p4 &&& (1 : Int32)))), .val (.int ((1 : Int32) + ((p4 >>> ((1 : Int32) &&& 31)) &&& (1 : Int32)))), .val (.int ((p0 &&& (255 : Int32)).toUInt32.toUInt16.toUInt32.toInt32)), .val (.int ((((p0.toUInt32 >>> ((8 : Int32) &&& 31).toUInt32).toInt32) &&& (255 : Int32)).toUInt32.toUInt16.toUInt32.toInt32)), .val (.int ((p0 &&& (255 : Int32)).toUInt32.toUInt16.toUInt32.toInt32)), .val (.int ((((p0.toUInt32 >>> ((8 : Int32) &&& 31).toUInt32).toInt32) &&& (255 : Int32)).toUInt32.toUInt16.toUInt32.toInt32)), .val (.int (p2 &&& (2147483647 : Int32))), .unset, .unset, .unset, .unset, .unset, .unset, .unset, .unset, .unset, .unset, .unset, .unset] [(.int 2147483647), (.int p3)])) _
   refine own_go (fun _ k => XS.iand X0.here hx rfl (hb hby at_80) rfl (XS.istore X0.here hx rfl (hb hby at_81) rfl (l' := #[.val (.int p0), .val (.int p1), .val (.int p2), .val (.int p3), .val (.int p4), .val (.int ((1 : Int32) + (p4 &&& (1 : Int32)))), .val (.int ((1 : Int32) + ((p4 >>> ((1 : Int32) &&& 31)) &&& (1 : Int32)))), .val (.int ((p0 &&& (255 : Int32)).toUInt32.toUInt16.toUInt32.toInt32)), .val (.int ((((p0.toUInt32 >>> ((8 : Int32) &&& 31).toUInt32).toInt32) &&& (255 : Int32)).toUInt32.toUInt16.toUInt32.toInt32)), .val (.int ((p0 &&& (255 : Int32)).toUInt32.toUInt16.toUInt32.toInt32)), .val (.int ((((p0.toUInt32 >>> ((8 : Int32) &&& 31).toUInt32).toInt32) &&& (255 : Int32)).toUInt32.toUInt16.toUInt32.toInt32)), .val (.int (p2 &&& (2147483647 : Int32))), .val (.int (p3 &&& (2147483647 : Int32))), .unset, .unset, .unset, .unset, .unset, .unset, .unset, .unset, .unset, .unset, .unset]) rfl (XS.iload X0.here hx rfl (hb hby at_83) rfl (XS.bipush X0.here hx rfl (hb hby at_85) (XS.iand X0.here hx rfl (hb hby at_87) rfl k))))) ?_
   show own_Fin p e below (s₁.setTop (mkF m 88 #[.val (.int p0), .val (.int p1), .val (.int p2), .val (.int p3), .val (.int p4), .val (.int ((1 : Int32) + (p4 &&& (1 : Int32)))), .val (.int ((1 : Int32) + ((p4 >>> ((1 : Int32) &&& 31)) &&& (1 : Int32)))), .val (.int ((p0 &&& (255 : Int32)).toUInt32.toUInt16.toUInt32.toInt32)), .val (.int ((((p0.toUInt32 >>> ((8 : Int32) &&& 31).toUInt32).toInt32) &&& (255 : Int32)).toUInt32.toUInt16.toUInt32.toInt32)), .val (.int ((p0 &&& (255 : Int32)).toUInt32.toUInt16.toUInt32.toInt32)), .val (.int ((((p0.toUInt32 >>> ((8 : Int32) &&& 31).toUInt32).toInt32) &&& (255 : Int32)).toUInt32.toUInt16.toUInt32.toInt32)), .val (.int (p2 &&& (2147483647 : Int32))), .val (.int (p3 &&& (2147483647 : Int32))), .unset, .unset, .unset, .unset, .unset, .unset, .unset, .unset, .unset, .unset, .unset] [(.int (p4 &&& (8 : Int32)))])) _
   by_cases hc88_170 : (p4 &&& (8 : Int32)) = (0 : Int32)
   ·refine own_go (fun _ k => XS.ifYes X0.here hx rfl (pc0 := 88) (pc' := 95) rfl (hb hby at_88) rfl ((if0 _ _).trans (teq hc88_170).1) (by decide) (by decide) k) ?_
    show own_Fin p e below (s₁.setTop (mkF m 95 #[.val (.int p0), .val (.int p1), .val (.int p2), .val (.int p3), .val (.int p4), .val (.int ((1 : Int32) + (p4 &&& (1 : Int32)))), .val (.int ((1 : Int32) + ((p4 >>> ((1 : Int32) &&& 31)) &&& (1 : Int32)))), .val (.int ((p0 &&& (255 : Int32)).toUInt32.toUInt16.toUInt32.toInt32)), .val (.int ((((p0.toUInt32 >>> ((8 : Int32) &&& 31).toUInt32).toInt32) &&& (255 : Int32)).toUInt32.toUInt16.toUInt32.toInt32)), .val (.int ((p0 &&& (255 : Int32)).toUInt32.toUInt16.toUInt32.toInt32)), .val (.int ((((p0.toUInt32 >>> ((8 : Int32) &&& 31).toUInt32).toInt32) &&& (255 : Int32)).toUInt32.toUInt16.toUInt32.toInt32)), .val (.int (p2 &&& (2147483647 : Int32))), .val (.int (p3 &&& (2147483647 : Int32))), .unset, .unset, .unset, .unset, .unset, .unset, .unset, .unset, .unset, .unset, .unset] [])) _
    exact j1 ((p0 &&& (255 : Int32)).toUInt32.toUInt16.toUInt32.toInt32) ((((p0.toUInt32 >>> ((8 : Int32) &&& 31).toUInt32).toInt32) &&& (255 : Int32)).toUInt32.toUInt16.toUInt32.toInt32) (p2 &&& (2147483647 : Int32)) (p3 &&& (2147483647 : Int32)) (own_255 _) (own_255 _) (own_pos _) (own_pos _)
   ·refine own_go (fun _ k => XS.ifNo X0.here hx rfl (hb hby at_88) rfl ((if0 _ _).trans (feq hc88_170).1) (XS.iload X0.here hx rfl (hb hby at_91) rfl (XS.istore X0.here hx rfl (hb hby at_93) rfl (l' := #[.val (.int p0), .val (.int p1), .val (.int p2), .val (.int p3), .val (.int p4), .val (.int ((1 : Int32) + (p4 &&& (1 : Int32)))), .val (.int ((1 : Int32) + ((p4 >>> ((1 : Int32) &&& 31)) &&& (1 : Int32)))), .val (.int ((p0 &&& (255 : Int32)).toUInt32.toUInt16.toUInt32.toInt32)), .val (.int ((((p0.toUInt32 >>> ((8 : Int32) &&& 31).toUInt32).toInt32) &&& (255 : Int32)).toUInt32.toUInt16.toUInt32.toInt32)), .val (.int ((p0 &&& (255 : Int32)).toUInt32.toUInt16.toUInt32.toInt32)), .val (.int ((((p0.toUInt32 >>> ((8 : Int32) &&& 31).toUInt32).toInt32) &&& (255 : Int32)).toUInt32.toUInt16.toUInt32.toInt32)), .val (.int (p2 &&& (2147483647 : Int32))), .val (.int (p2 &&& (2147483647 : Int32))), .unset, .unset, .unset, .unset, .unset, .unset, .unset, .unset, .unset, .unset, .unset]) rfl k))) ?_
    show own_Fin p e below (s₁.setTop (mkF m 95 #[.val (.int p0), .val (.int p1), .val (.int p2), .val (.int p3), .val (.int p4), .val (.int ((1 : Int32) + (p4 &&& (1 : Int32)))), .val (.int ((1 : Int32) + ((p4 >>> ((1 : Int32) &&& 31)) &&& (1 : Int32)))), .val (.int ((p0 &&& (255 : Int32)).toUInt32.toUInt16.toUInt32.toInt32)), .val (.int ((((p0.toUInt32 >>> ((8 : Int32) &&& 31).toUInt32).toInt32) &&& (255 : Int32)).toUInt32.toUInt16.toUInt32.toInt32)), .val (.int ((p0 &&& (255 : Int32)).toUInt32.toUInt16.toUInt32.toInt32)), .val (.int ((((p0.toUInt32 >>> ((8 : Int32) &&& 31).toUInt32).toInt32) &&& (255 : Int32)).toUInt32.toUInt16.toUInt32.toInt32)), .val (.int (p2 &&& (2147483647 : Int32))), .val (.int (p2 &&& (2147483647 : Int32))), .unset, .unset, .unset, .unset, .unset, .unset, .unset, .unset, .unset, .unset, .unset] [])) _
    exact j1 ((p0 &&& (255 : Int32)).toUInt32.toUInt16.toUInt32.toInt32) ((((p0.toUInt32 >>> ((8 : Int32) &&& 31).toUInt32).toInt32) &&& (255 : Int32)).toUInt32.toUInt16.toUInt32.toInt32) (p2 &&& (2147483647 : Int32)) (p2 &&& (2147483647 : Int32)) (own_255 _) (own_255 _) (own_pos _) (own_pos _)
set_option maxRecDepth 65536 in
set_option maxHeartbeats 40000000 in
theorem comes_1 {Post : Tables → Env → Array Value → State → Outcome → State → Prop} (hpost : ∀ tb e args s v u, (limb_1_1.after args s (.returned v) u = true ∧ limb_1_2.after args s (.returned v) u = true ∧ True) → ReturnedEndW s (.returned v) u (Jvm.fieldLocs frame_1_writes args s ++ Jvm.arrayLocs frame_1_arrays args s ++ Jvm.staticLocs frame_1_statics s) 32 1152 → Post tb e args s (.returned v) u) :
    ArmFor flags0 classFile x code maxLocals ret World_1 tables_1 room_1 Calls_1 rest_1 Pre_1 Post := by
  intro l hfl _ _ p e ha hc hk s m args below hf hA hF happ hP
  obtain ⟨hcalls, hrest, hpre⟩ := hP
  obtain ⟨-, -, -, hnamed, -, -, -, hat⟩ := (Spec.applies_iff hf).mp happ
  obtain ⟨hg, hn⟩ := and_e (Cond.before_iff.mp (show (Jvm.Cond.and given_1 narrow_1).before args s = true from hpre))
  obtain ⟨g1, g2⟩ := and_e hg
  obtain ⟨g3, g4⟩ := and_e g2
  obtain ⟨g5, g6⟩ := and_e g4
  obtain ⟨g7, g8⟩ := and_e g6
  obtain ⟨g9, g10⟩ := and_e g8
  obtain ⟨w0, w1, w2, w3, w4, rfl⟩ : ∃ w0 w1 w2 w3 w4 : Value, args = #[w0, w1, w2, w3, w4] := by
    have hs : args.size = 5 := by simpa [Cond.value, given_1] using g1
    obtain ⟨L⟩ := args
    match L, hs with
    | [w0, w1, w2, w3, w4], _ => exact ⟨w0, w1, w2, w3, w4, rfl⟩
  have hw := fun d (hd : d ∈ tables_1) => atoms_spec (ws := Jvm.Cond.code x code maxLocals ret :: tables_1) hat d (List.mem_cons_of_mem _ hd)
  have hfit : Fit s := fun {y c} hc i hi => by
    obtain ⟨ha, rfl⟩ := Array.getElem?_eq_some_iff.mp hc
    have q := List.all_eq_true.mp ((Array.all_eq_true_iff_forall_mem.mp hF) _ (Array.getElem_mem ha)) i (List.mem_range.mpr hi)
    simpa [Array.getElem?_eq_getElem hi] using q
  obtain ⟨hsets, hown0⟩ := atoms_of _ (rest_1_c_eq ▸ (show rest_1_c.before _ s = true from hrest))
  obtain ⟨i0, ei0⟩ := is_v g3
  obtain rfl : w0 = (.int i0) := Option.some.inj ei0
  obtain ⟨i1, ei1⟩ := is_v g5
  obtain rfl : w1 = (.int i1) := Option.some.inj ei1
  obtain ⟨i2, ei2⟩ := is_v g7
  obtain rfl : w2 = (.int i2) := Option.some.inj ei2
  obtain ⟨i3, ei3⟩ := is_v g9
  obtain rfl : w3 = (.int i3) := Option.some.inj ei3
  obtain ⟨i4, ei4⟩ := is_v g10
  obtain rfl : w4 = (.int i4) := Option.some.inj ei4
  obtain ⟨st_COMPACT_STRINGS, ev_st_COMPACT_STRINGS⟩ := is_v (Cond.before_iff.mp (hsets _ (List.mem_of_getElem? (i := 1) rfl)))
  have S_st_COMPACT_STRINGS := Sta.start ev_st_COMPACT_STRINGS (Or.inl (hsets _ (List.mem_of_getElem? (i := 0) rfl)))
  have nz_st_COMPACT_STRINGS := own_nez ev_st_COMPACT_STRINGS (Cond.before_iff.mp (hsets _ (List.mem_of_getElem? (i := 2) rfl)))
  obtain ⟨st_SIOOBE_FORMATTER, ev_st_SIOOBE_FORMATTER, hr_st_SIOOBE_FORMATTER⟩ := isR_v (Cond.before_iff.mp (hsets _ (List.mem_of_getElem? (i := 8) rfl)))
  have S_st_SIOOBE_FORMATTER := Sta.start ev_st_SIOOBE_FORMATTER (Or.inl (hsets _ (List.mem_of_getElem? (i := 7) rfl)))
  obtain ⟨n, o, h1, h2, h3, _, L, rfl, ⟨rfl, N, hK⟩, hq⟩ := rm0 l s _ hw tables_1 i0 i1 i2 i3 i4 st_COMPACT_STRINGS s.heap s.heap.size (Old.start s) S_st_COMPACT_STRINGS nz_st_COMPACT_STRINGS p e ha hc hk s m _ below hf ((Spec.applies_iff_loose hf).mp happ).1 ⟨rfl, State.Warmed39.refl s, rfl⟩ trivial
  refine ⟨n, _, h1, h2, h3, hpost _ _ _ _ _ _ ⟨Cond.after_iff.mpr rfl, Cond.after_iff.mpr (eq_i res_at (Term.int_eval (1)) rfl), trivial⟩ ⟨hq.1, hq.2.1, hq.2.2.1, (hq.2.2.2.sift fun y hy => Or.inr (N y hy)).mono (by decide) (by decide)⟩⟩
theorem main_1_1 : Claimed_1_1 := comes_1 fun _ _ _ _ _ _ h hF => ⟨h.1, hF⟩
theorem main_1_2 : Claimed_1_2 := comes_1 fun _ _ _ _ _ _ h hF => ⟨h.2.1, hF⟩
end Jvm.Pilot.@@N@@
namespace Jvm.Pilot.@@N@@
open Jvm Jvm.ClassFile Sem Op Lib Jvm.Free Jvm.Stand Jvm.Pilot.@@N@@.Jvm.D
/-! MADE BY PROGRAM (witnessworld.py) out of the Statement's table words and the real class files: 21 classes; the members and pool entries that the words name. The judged class is class 1, her method 2. -/
namespace start1
open Jvm.ClassFile
def u (s : String) : CpInfo := .utf8 (stringToUtf16 s)
/-- a pool by its gaps: so many unusable entries, then the entry; so many at the end -/
def gap : Nat → List CpInfo → List CpInfo
  | 0, r => r
  | n + 1, r => .unusable :: gap n r
def poolList (es : List (Nat × CpInfo)) (last : Nat) : List CpInfo := es.foldr (fun e r => gap e.1 (e.2 :: r)) (gap last [])
def pool (es : List (Nat × CpInfo)) (last : Nat) : Array CpInfo := ⟨poolList es last⟩
def fileOf (pool : Array CpInfo) (this : Nat) (attrs : Array Attribute := #[]) (ms : Array MethodInfo := #[]) (fl : Nat := 33) (sup : Nat := 0) (ifs : Array Nat := #[]) (fds : Array FieldInfo := #[]) : ClassFile where
  minorVersion := 0
  majorVersion := 65
  constantPool := pool
  accessFlags := fl
  thisClass := this
  superClass := sup
  interfaces := ifs
  fields := fds
  methods := ms
  attributes := attrs
def plain (name : String) (sup : Option ClassId) : Class where
  name := name
  kind := .ordinary
  loader := none
  accessFlags := 33
  super := sup
  interfaces := #[]
  cf := none
  fields := #[]
  methods := #[]
  instanceTypes := #[]
  staticTypes := #[]
  resolved := #[]
  callSites := []
  init := .initialized
  statics := none
  mirror := none

def pool0 : Array CpInfo := pool [(5, u "<init>"), (0, u "()V"), (1, .class_ 10), (1, u "java/lang/Object")] 113

def k0c0 : Code := { maxStack := 0, maxLocals := 1, code := object_method_1_code, exceptionTable := #[], attributes := #[] }
def k0m0 : Method := { name := "<init>", desc := "()V", sig := { parameters := [], returnType := none }, accessFlags := 1, code := some k0c0 }
/-- java/lang/Object -/
def k0 : Class := { plain "java/lang/Object" none with
  accessFlags := 33
  interfaces := #[]
  cf := some (fileOf pool0 8 #[] #[{ accessFlags := 1, nameIndex := 5, descriptorIndex := 6, attributes := #[] }] 33 0 #[] #[])
  fields := #[]
  methods := #[k0m0]
  instanceTypes := #[]
  staticTypes := #[]
  resolved := Array.replicate 124 none
  statics := none }

def pool1 : Array CpInfo := pool [(2, .class_ 4), (1, u "java/lang/Object"), (0, u "<init>"), (0, u "()V"), (0, .class_ 8), (0, u "java/lang/String"), (0, .methodref 7 10), (0, .nameAndType 5 11), (0, u "([C)V"), (0, .integer 2147483647), (0, .methodref 14 15), (0, .class_ 16), (0, .nameAndType 17 18), (0, u "com/example/lokahi/lokahi/UnitEqualsPinLaw"), (0, u "mk"), (0, u "(ICC)Ljava/lang/String;"), (0, .class_ 20), (0, u "com/example/lokahi/lokahi/Unit"), (0, .methodref 19 22), (0, .nameAndType 5 23), (0, u "(Ljava/lang/String;I)V"), (0, .methodref 19 25), (0, .nameAndType 26 27), (0, u "equals"), (0, u "(Ljava/lang/Object;)Z"), (3, u "law"), (0, u "(IIIII)Z")] 2

def k1m0 : Method := { name := "<init>", desc := "()V", sig := { parameters := [], returnType := none }, accessFlags := 1, code := none }
def k1c1 : Code := { maxStack := 6, maxLocals := 3, code := method_2_code, exceptionTable := #[], attributes := #[] }
def k1m1 : Method := { name := "mk", desc := "(ICC)Ljava/lang/String;", sig := { parameters := [.int, .char, .char], returnType := some (.object "java/lang/String") }, accessFlags := 10, code := some k1c1 }
def k1c2 : Code := { maxStack := 4, maxLocals := 24, code := code, exceptionTable := #[], attributes := #[] }
def k1m2 : Method := { name := "law", desc := "(IIIII)Z", sig := { parameters := [.int, .int, .int, .int, .int], returnType := some .boolean }, accessFlags := 9, code := some k1c2 }
/-- com/example/lokahi/lokahi/UnitEqualsPinLaw -/
def k1 : Class := { plain "com/example/lokahi/lokahi/UnitEqualsPinLaw" (some 0) with
  accessFlags := 49
  interfaces := #[]
  cf := some (fileOf pool1 14 #[] #[{ accessFlags := 1, nameIndex := 5, descriptorIndex := 6, attributes := #[] }, { accessFlags := 10, nameIndex := 17, descriptorIndex := 18, attributes := #[] }, { accessFlags := 9, nameIndex := 31, descriptorIndex := 32, attributes := #[] }] 49 2 #[] #[])
  fields := #[]
  methods := #[k1m0, k1m1, k1m2]
  instanceTypes := #[]
  staticTypes := #[]
  resolved := Array.replicate 35 none
  statics := none }

def pool2 : Array CpInfo := pool [(1, .class_ 2), (0, u "java/io/Serializable"), (0, .class_ 4), (0, u "java/lang/Object")] 2

/-- java/io/Serializable -/
def k2 : Class := { plain "java/io/Serializable" (some 0) with
  accessFlags := 1537
  interfaces := #[]
  cf := some (fileOf pool2 1 #[] #[] 1537 3 #[] #[])
  fields := #[]
  methods := #[]
  instanceTypes := #[]
  staticTypes := #[]
  resolved := Array.replicate 7 none
  statics := none }

def pool3 : Array CpInfo := pool [(1, .class_ 2), (0, u "java/lang/Comparable"), (0, .class_ 4), (0, u "java/lang/Object")] 7

/-- java/lang/Comparable -/
def k3 : Class := { plain "java/lang/Comparable" (some 0) with
  accessFlags := 1537
  interfaces := #[]
  cf := some (fileOf pool3 1 #[] #[] 1537 3 #[] #[])
  fields := #[]
  methods := #[]
  instanceTypes := #[]
  staticTypes := #[]
  resolved := Array.replicate 12 none
  statics := none }

def pool4 : Array CpInfo := pool [(2, .class_ 4), (1, u "java/lang/CharSequence"), (42, .class_ 48), (0, u "java/lang/CharSequence$1CodePointIterator"), (10, .class_ 60), (0, u "java/lang/CharSequence$1CharIterator"), (5, .class_ 67), (0, u "java/lang/Object")] 63

/-- java/lang/CharSequence -/
def k4 : Class := { plain "java/lang/CharSequence" (some 0) with
  accessFlags := 1537
  interfaces := #[]
  cf := some (fileOf pool4 2 #[.nestMembers #[47, 59]] #[] 1537 66 #[] #[])
  fields := #[]
  methods := #[]
  instanceTypes := #[]
  staticTypes := #[]
  resolved := Array.replicate 131 none
  statics := none }

def pool5 : Array CpInfo := pool [(1, .class_ 2), (0, u "java/lang/constant/Constable"), (0, .class_ 4), (0, u "java/lang/Object")] 6

/-- java/lang/constant/Constable -/
def k5 : Class := { plain "java/lang/constant/Constable" (some 0) with
  accessFlags := 1537
  interfaces := #[]
  cf := some (fileOf pool5 1 #[] #[] 1537 3 #[] #[])
  fields := #[]
  methods := #[]
  instanceTypes := #[]
  staticTypes := #[]
  resolved := Array.replicate 11 none
  statics := none }

def pool6 : Array CpInfo := pool [(1, .class_ 2), (0, u "java/lang/constant/ConstantDesc"), (0, .class_ 4), (0, u "java/lang/Object")] 32

/-- java/lang/constant/ConstantDesc -/
def k6 : Class := { plain "java/lang/constant/ConstantDesc" (some 0) with
  accessFlags := 1537
  interfaces := #[]
  cf := some (fileOf pool6 1 #[] #[] 1537 3 #[] #[])
  fields := #[]
  methods := #[]
  instanceTypes := #[]
  staticTypes := #[]
  resolved := Array.replicate 37 none
  statics := none }

def pool7 : Array CpInfo := pool [(1, .methodref 2 3), (0, .class_ 4), (0, .nameAndType 5 6), (0, u "java/lang/Object"), (0, u "<init>"), (0, u "()V"), (2, .fieldref 10 11), (0, .class_ 12), (0, .nameAndType 13 14), (0, u "java/lang/String"), (0, u "value"), (0, u "[B"), (0, .fieldref 10 16), (0, .nameAndType 17 18), (0, u "coder"), (0, u "B"), (2, u "hash"), (0, u "I"), (2, u "hashIsZero"), (0, u "Z"), (0, .methodref 10 28), (0, .nameAndType 5 29), (0, u "([CIILjava/lang/Void;)V"), (8, .fieldref 10 39), (0, .nameAndType 40 26), (0, u "COMPACT_STRINGS"), (1, .class_ 44), (1, u "java/lang/StringUTF16"), (0, u "compress"), (1, .methodref 42 48), (0, .nameAndType 49 50), (0, u "coderFromArrayLen"), (0, u "([BI)B"), (56, .class_ 109), (1, u "java/lang/StringLatin1"), (32, u "()Z"), (34, .methodref 42 178), (0, .nameAndType 45 179), (0, u "([CII)[B"), (361, .methodref 107 542), (0, .nameAndType 543 544), (0, u "equals"), (0, u "([B[B)Z"), (28, u "(Ljava/lang/Object;)Z"), (1, .class_ 576), (0, u "java/lang/CharSequence"), (22, u "CASE_INSENSITIVE_ORDER"), (0, u "Ljava/util/Comparator;"), (91, u "isEmpty"), (317, u "([C)V"), (90, u "serialPersistentFields"), (0, u "[Ljava/io/ObjectStreamField;"), (0, .class_ 1104), (0, u "java/lang/String$CaseInsensitiveComparator"), (1, .class_ 1107), (0, u "java/io/Serializable"), (0, .class_ 1109), (0, u "java/lang/Comparable"), (0, .class_ 1111), (0, u "java/lang/constant/Constable"), (0, .class_ 1113), (0, u "java/lang/constant/ConstantDesc"), (2, u "serialVersionUID"), (0, u "J"), (3, u "REPL"), (0, u "C"), (2, u "LATIN1"), (1, u "UTF16")] 323

def k7m0 : Method := { name := "<init>", desc := "()V", sig := { parameters := [], returnType := none }, accessFlags := 1, code := none }
def k7c1 : Code := { maxStack := 5, maxLocals := 2, code := jdk_42_method_3_code, exceptionTable := #[], attributes := #[] }
def k7m1 : Method := { name := "<init>", desc := "([C)V", sig := { parameters := [(.array .char)], returnType := none }, accessFlags := 1, code := some k7c1 }
def k7c2 : Code := { maxStack := 1, maxLocals := 1, code := jdk_42_method_55_code, exceptionTable := #[], attributes := #[] }
def k7m2 : Method := { name := "isEmpty", desc := "()Z", sig := { parameters := [], returnType := some .boolean }, accessFlags := 1, code := some k7c2 }
def k7c3 : Code := { maxStack := 2, maxLocals := 3, code := jdk_42_method_66_code, exceptionTable := #[], attributes := #[] }
def k7m3 : Method := { name := "equals", desc := "(Ljava/lang/Object;)Z", sig := { parameters := [(.object "java/lang/Object")], returnType := some .boolean }, accessFlags := 1, code := some k7c3 }
def k7c4 : Code := { maxStack := 4, maxLocals := 6, code := jdk_42_method_149_code, exceptionTable := #[], attributes := #[] }
def k7m4 : Method := { name := "<init>", desc := "([CIILjava/lang/Void;)V", sig := { parameters := [(.array .char), .int, .int, (.object "java/lang/Void")], returnType := none }, accessFlags := 2, code := some k7c4 }
/-- java/lang/String -/
def k7 : Class := { plain "java/lang/String" (some 0) with
  accessFlags := 49
  interfaces := #[2, 3, 4, 5, 6]
  cf := some (fileOf pool7 10 #[.nestMembers #[1103]] #[{ accessFlags := 1, nameIndex := 5, descriptorIndex := 6, attributes := #[] }, { accessFlags := 1, nameIndex := 5, descriptorIndex := 1010, attributes := #[] }, { accessFlags := 1, nameIndex := 692, descriptorIndex := 142, attributes := #[] }, { accessFlags := 1, nameIndex := 543, descriptorIndex := 573, attributes := #[] }, { accessFlags := 2, nameIndex := 5, descriptorIndex := 29, attributes := #[] }] 49 2 #[1106, 1108, 575, 1110, 1112] #[{ accessFlags := 18, nameIndex := 13, descriptorIndex := 14, attributes := #[] }, { accessFlags := 18, nameIndex := 17, descriptorIndex := 18, attributes := #[] }, { accessFlags := 2, nameIndex := 21, descriptorIndex := 22, attributes := #[] }, { accessFlags := 2, nameIndex := 25, descriptorIndex := 26, attributes := #[] }, { accessFlags := 26, nameIndex := 1116, descriptorIndex := 1117, attributes := #[] }, { accessFlags := 24, nameIndex := 40, descriptorIndex := 26, attributes := #[] }, { accessFlags := 26, nameIndex := 1101, descriptorIndex := 1102, attributes := #[] }, { accessFlags := 26, nameIndex := 1121, descriptorIndex := 1122, attributes := #[] }, { accessFlags := 25, nameIndex := 599, descriptorIndex := 600, attributes := #[] }, { accessFlags := 24, nameIndex := 1125, descriptorIndex := 18, attributes := #[] }, { accessFlags := 24, nameIndex := 1127, descriptorIndex := 18, attributes := #[] }])
  fields := #[{ name := "value", type := (.array .byte), accessFlags := 18, slot := 0, constantValue := 0 }, { name := "coder", type := .byte, accessFlags := 18, slot := 1, constantValue := 0 }, { name := "hash", type := .int, accessFlags := 2, slot := 2, constantValue := 0 }, { name := "hashIsZero", type := .boolean, accessFlags := 2, slot := 3, constantValue := 0 }, { name := "serialVersionUID", type := .long, accessFlags := 26, slot := 0, constantValue := 0 }, { name := "COMPACT_STRINGS", type := .boolean, accessFlags := 24, slot := 1, constantValue := 0 }, { name := "serialPersistentFields", type := (.array (.object "java/io/ObjectStreamField")), accessFlags := 26, slot := 2, constantValue := 0 }, { name := "REPL", type := .char, accessFlags := 26, slot := 3, constantValue := 0 }, { name := "CASE_INSENSITIVE_ORDER", type := (.object "java/util/Comparator"), accessFlags := 25, slot := 4, constantValue := 0 }, { name := "LATIN1", type := .byte, accessFlags := 24, slot := 5, constantValue := 0 }, { name := "UTF16", type := .byte, accessFlags := 24, slot := 6, constantValue := 0 }]
  methods := #[k7m0, k7m1, k7m2, k7m3, k7m4]
  instanceTypes := #[(.array .byte), .byte, .int, .boolean]
  staticTypes := #[.long, .boolean, (.array (.object "java/io/ObjectStreamField")), .char, (.object "java/util/Comparator"), .byte, .byte]
  resolved := Array.replicate 1451 none
  statics := some 0 }

def pool8 : Array CpInfo := pool [(6, .class_ 8), (1, u "java/lang/Object"), (0, u "<init>"), (0, u "()V"), (1, .class_ 14), (1, u "java/lang/StringUTF16"), (31, u "$assertionsDisabled"), (0, u "Z"), (13, u "HI_BYTE_SHIFT"), (0, u "I"), (2, u "LO_BYTE_SHIFT"), (49, .methodref 12 116), (0, .nameAndType 117 118), (0, u "compress"), (0, u "([CI[BII)I"), (3, u "([CII)[B"), (138, u "coderFromArrayLen"), (0, u "([BI)B"), (106, .class_ 371), (1, u "java/lang/StringUTF16$LinesSpliterator"), (58, u "MAX_LENGTH"), (196, .class_ 628), (0, u "java/lang/StringUTF16$CodePointsSpliterator"), (0, .class_ 630), (0, u "java/lang/StringUTF16$CharsSpliterator")] 4

def k8m0 : Method := { name := "<init>", desc := "()V", sig := { parameters := [], returnType := none }, accessFlags := 0, code := none }
def k8c1 : Code := { maxStack := 2, maxLocals := 2, code := jdk_52_method_15_code, exceptionTable := #[], attributes := #[] }
def k8m1 : Method := { name := "coderFromArrayLen", desc := "([BI)B", sig := { parameters := [(.array .byte), .int], returnType := some .byte }, accessFlags := 8, code := some k8c1 }
def k8c2 : Code := { maxStack := 5, maxLocals := 6, code := jdk_52_method_16_code, exceptionTable := #[], attributes := #[] }
def k8m2 : Method := { name := "compress", desc := "([CII)[B", sig := { parameters := [(.array .char), .int, .int], returnType := some (.array .byte) }, accessFlags := 9, code := some k8c2 }
def k8c3 : Code := { maxStack := 3, maxLocals := 7, code := jdk_52_method_21_code, exceptionTable := #[], attributes := #[] }
def k8m3 : Method := { name := "compress", desc := "([CI[BII)I", sig := { parameters := [(.array .char), .int, (.array .byte), .int, .int], returnType := some .int }, accessFlags := 9, code := some k8c3 }
/-- java/lang/StringUTF16 -/
def k8 : Class := { plain "java/lang/StringUTF16" (some 0) with
  accessFlags := 48
  interfaces := #[]
  cf := some (fileOf pool8 12 #[.nestMembers #[627, 629, 369]] #[{ accessFlags := 0, nameIndex := 9, descriptorIndex := 10, attributes := #[] }, { accessFlags := 8, nameIndex := 261, descriptorIndex := 262, attributes := #[] }, { accessFlags := 9, nameIndex := 117, descriptorIndex := 122, attributes := #[] }, { accessFlags := 9, nameIndex := 117, descriptorIndex := 118, attributes := #[] }] 48 6 #[] #[{ accessFlags := 26, nameIndex := 61, descriptorIndex := 62, attributes := #[] }, { accessFlags := 26, nameIndex := 65, descriptorIndex := 62, attributes := #[] }, { accessFlags := 24, nameIndex := 430, descriptorIndex := 62, attributes := #[] }, { accessFlags := 4120, nameIndex := 46, descriptorIndex := 47, attributes := #[] }])
  fields := #[{ name := "HI_BYTE_SHIFT", type := .int, accessFlags := 26, slot := 0, constantValue := 0 }, { name := "LO_BYTE_SHIFT", type := .int, accessFlags := 26, slot := 1, constantValue := 0 }, { name := "MAX_LENGTH", type := .int, accessFlags := 24, slot := 2, constantValue := 0 }, { name := "$assertionsDisabled", type := .boolean, accessFlags := 4120, slot := 3, constantValue := 0 }]
  methods := #[k8m0, k8m1, k8m2, k8m3]
  instanceTypes := #[]
  staticTypes := #[.int, .int, .int, .boolean]
  resolved := Array.replicate 635 none
  statics := none }

def pool9 : Array CpInfo := pool [(1, .methodref 2 3), (0, .class_ 4), (0, .nameAndType 5 6), (0, u "java/lang/Object"), (0, u "<init>"), (0, u "()V"), (0, .string 8), (0, u "set"), (0, .methodref 10 11), (0, .class_ 12), (0, .nameAndType 13 14), (0, u "java/util/Objects"), (0, u "requireNonNull"), (0, u "(Ljava/lang/Object;Ljava/lang/String;)Ljava/lang/Object;"), (0, .methodref 16 17), (0, .class_ 18), (0, .nameAndType 19 20), (0, u "java/lang/String"), (0, u "isEmpty"), (0, u "()Z"), (11, .fieldref 33 34), (0, .class_ 35), (0, .nameAndType 8 36), (0, u "com/example/lokahi/lokahi/Unit"), (0, u "Ljava/lang/String;"), (0, .fieldref 33 38), (0, .nameAndType 39 40), (0, u "index"), (0, u "I"), (17, u "(Ljava/lang/String;I)V"), (32, .methodref 16 92), (0, .nameAndType 93 94), (0, u "equals"), (0, u "(Ljava/lang/Object;)Z"), (11, .class_ 107), (0, u "java/lang/Comparable")] 35

def k9c0 : Code := { maxStack := 3, maxLocals := 3, code := prog_2_method_1_code, exceptionTable := #[], attributes := #[] }
def k9m0 : Method := { name := "<init>", desc := "(Ljava/lang/String;I)V", sig := { parameters := [(.object "java/lang/String"), .int], returnType := none }, accessFlags := 1, code := some k9c0 }
def k9c1 : Code := { maxStack := 2, maxLocals := 3, code := prog_2_method_9_code, exceptionTable := #[], attributes := #[] }
def k9m1 : Method := { name := "equals", desc := "(Ljava/lang/Object;)Z", sig := { parameters := [(.object "java/lang/Object")], returnType := some .boolean }, accessFlags := 1, code := some k9c1 }
/-- com/example/lokahi/lokahi/Unit -/
def k9 : Class := { plain "com/example/lokahi/lokahi/Unit" (some 0) with
  accessFlags := 33
  interfaces := #[3]
  cf := some (fileOf pool9 33 #[] #[{ accessFlags := 1, nameIndex := 5, descriptorIndex := 58, attributes := #[] }, { accessFlags := 1, nameIndex := 93, descriptorIndex := 94, attributes := #[] }] 33 2 #[106] #[{ accessFlags := 18, nameIndex := 8, descriptorIndex := 36, attributes := #[] }, { accessFlags := 18, nameIndex := 39, descriptorIndex := 40, attributes := #[] }])
  fields := #[{ name := "set", type := (.object "java/lang/String"), accessFlags := 18, slot := 0, constantValue := 0 }, { name := "index", type := .int, accessFlags := 18, slot := 1, constantValue := 0 }]
  methods := #[k9m0, k9m1]
  instanceTypes := #[(.object "java/lang/String"), .int]
  staticTypes := #[]
  resolved := Array.replicate 143 none
  statics := none }

def pool10 : Array CpInfo := pool [(2, .class_ 4), (1, u "java/lang/Object"), (0, u "<init>"), (0, u "()V"), (35, .class_ 44), (1, u "java/util/Objects"), (0, u "requireNonNull"), (48, u "(Ljava/lang/Object;Ljava/lang/String;)Ljava/lang/Object;")] 89

def k10m0 : Method := { name := "<init>", desc := "()V", sig := { parameters := [], returnType := none }, accessFlags := 2, code := none }
def k10c1 : Code := { maxStack := 3, maxLocals := 2, code := jdk_31_method_11_code, exceptionTable := #[], attributes := #[] }
def k10m1 : Method := { name := "requireNonNull", desc := "(Ljava/lang/Object;Ljava/lang/String;)Ljava/lang/Object;", sig := { parameters := [(.object "java/lang/Object"), (.object "java/lang/String")], returnType := some (.object "java/lang/Object") }, accessFlags := 9, code := some k10c1 }
/-- java/util/Objects -/
def k10 : Class := { plain "java/util/Objects" (some 0) with
  accessFlags := 49
  interfaces := #[]
  cf := some (fileOf pool10 42 #[] #[{ accessFlags := 2, nameIndex := 5, descriptorIndex := 6, attributes := #[] }, { accessFlags := 9, nameIndex := 45, descriptorIndex := 94, attributes := #[] }] 49 2 #[] #[])
  fields := #[]
  methods := #[k10m0, k10m1]
  instanceTypes := #[]
  staticTypes := #[]
  resolved := Array.replicate 184 none
  statics := none }

def pool11 : Array CpInfo := pool [(4, .class_ 6), (1, u "java/lang/Object"), (0, u "<init>"), (0, u "()V"), (5, .class_ 16), (1, u "java/lang/StringLatin1"), (104, u "$assertionsDisabled"), (0, u "Z"), (98, .class_ 223), (1, u "java/lang/StringLatin1$LinesSpliterator"), (57, u "equals"), (0, u "([B[B)Z"), (107, .class_ 391), (0, u "java/lang/StringLatin1$CharsSpliterator")] 3

def k11m0 : Method := { name := "<init>", desc := "()V", sig := { parameters := [], returnType := none }, accessFlags := 0, code := none }
def k11c1 : Code := { maxStack := 3, maxLocals := 3, code := jdk_43_method_13_code, exceptionTable := #[], attributes := #[] }
def k11m1 : Method := { name := "equals", desc := "([B[B)Z", sig := { parameters := [(.array .byte), (.array .byte)], returnType := some .boolean }, accessFlags := 9, code := some k11c1 }
/-- java/lang/StringLatin1 -/
def k11 : Class := { plain "java/lang/StringLatin1" (some 0) with
  accessFlags := 48
  interfaces := #[]
  cf := some (fileOf pool11 14 #[.nestMembers #[390, 221]] #[{ accessFlags := 0, nameIndex := 7, descriptorIndex := 8, attributes := #[] }, { accessFlags := 9, nameIndex := 281, descriptorIndex := 282, attributes := #[] }] 48 4 #[] #[{ accessFlags := 4120, nameIndex := 121, descriptorIndex := 122, attributes := #[] }])
  fields := #[{ name := "$assertionsDisabled", type := .boolean, accessFlags := 4120, slot := 0, constantValue := 0 }]
  methods := #[k11m0, k11m1]
  instanceTypes := #[]
  staticTypes := #[.boolean]
  resolved := Array.replicate 395 none
  statics := none }

def pool12 : Array CpInfo := pool [(2, .class_ 4), (1, u "java/lang/Object"), (0, u "<init>"), (0, u "()V"), (17, .class_ 26), (1, u "jdk/internal/util/Preconditions"), (28, .class_ 56), (0, u "jdk/internal/util/Preconditions$4"), (57, .class_ 115), (0, u "jdk/internal/util/Preconditions$1"), (7, u "SIOOBE_FORMATTER"), (0, u "Ljava/util/function/BiFunction;"), (0, .class_ 126), (0, u "jdk/internal/util/Preconditions$2"), (3, u "AIOOBE_FORMATTER"), (0, .class_ 132), (0, u "jdk/internal/util/Preconditions$3"), (3, u "IOOBE_FORMATTER")] 57

def k12m0 : Method := { name := "<init>", desc := "()V", sig := { parameters := [], returnType := none }, accessFlags := 1, code := none }
/-- jdk/internal/util/Preconditions -/
def k12 : Class := { plain "jdk/internal/util/Preconditions" (some 0) with
  accessFlags := 33
  interfaces := #[]
  cf := some (fileOf pool12 24 #[.nestMembers #[55, 131, 125, 114]] #[{ accessFlags := 1, nameIndex := 5, descriptorIndex := 6, attributes := #[] }] 33 2 #[] #[{ accessFlags := 25, nameIndex := 123, descriptorIndex := 124, attributes := #[] }, { accessFlags := 25, nameIndex := 130, descriptorIndex := 124, attributes := #[] }, { accessFlags := 25, nameIndex := 136, descriptorIndex := 124, attributes := #[] }])
  fields := #[{ name := "SIOOBE_FORMATTER", type := (.object "java/util/function/BiFunction"), accessFlags := 25, slot := 0, constantValue := 0 }, { name := "AIOOBE_FORMATTER", type := (.object "java/util/function/BiFunction"), accessFlags := 25, slot := 1, constantValue := 0 }, { name := "IOOBE_FORMATTER", type := (.object "java/util/function/BiFunction"), accessFlags := 25, slot := 2, constantValue := 0 }]
  methods := #[k12m0]
  instanceTypes := #[]
  staticTypes := #[(.object "java/util/function/BiFunction"), (.object "java/util/function/BiFunction"), (.object "java/util/function/BiFunction")]
  resolved := Array.replicate 194 none
  statics := some 1 }

def pool13 : Array CpInfo := pool [(9, u "<init>"), (6, .class_ 18), (1, u "java/lang/Object"), (0, u "()V"), (1, .class_ 23), (1, u "jdk/internal/util/ArraysSupport"), (0, u "LOG2_ARRAY_LONG_INDEX_SCALE"), (0, u "I"), (2, u "U"), (0, u "Ljdk/internal/misc/Unsafe;"), (8, u "BIG_ENDIAN"), (0, u "Z"), (8, u "LOG2_BYTE_BIT_SIZE"), (4, u "LOG2_ARRAY_INT_INDEX_SCALE"), (54, u "JLA"), (0, u "Ljdk/internal/access/JavaLangAccess;"), (11, u "LOG2_ARRAY_BOOLEAN_INDEX_SCALE"), (9, u "LOG2_ARRAY_BYTE_INDEX_SCALE"), (5, u "LOG2_ARRAY_CHAR_INDEX_SCALE"), (5, u "LOG2_ARRAY_SHORT_INDEX_SCALE"), (18, u "LOG2_ARRAY_FLOAT_INDEX_SCALE"), (24, u "LOG2_ARRAY_DOUBLE_INDEX_SCALE"), (89, u "T_BOOLEAN"), (2, u "T_CHAR"), (1, u "T_FLOAT"), (1, u "T_DOUBLE"), (1, u "T_BYTE"), (1, u "T_SHORT"), (1, u "T_INT"), (1, u "T_LONG"), (1, u "SOFT_MAX_ARRAY_LENGTH")] 83

def k13m0 : Method := { name := "<init>", desc := "()V", sig := { parameters := [], returnType := none }, accessFlags := 2, code := none }
/-- jdk/internal/util/ArraysSupport -/
def k13 : Class := { plain "jdk/internal/util/ArraysSupport" (some 0) with
  accessFlags := 33
  interfaces := #[]
  cf := some (fileOf pool13 21 #[] #[{ accessFlags := 2, nameIndex := 9, descriptorIndex := 19, attributes := #[] }] 33 16 #[] #[{ accessFlags := 24, nameIndex := 28, descriptorIndex := 29, attributes := #[] }, { accessFlags := 26, nameIndex := 38, descriptorIndex := 39, attributes := #[] }, { accessFlags := 25, nameIndex := 121, descriptorIndex := 25, attributes := #[] }, { accessFlags := 25, nameIndex := 131, descriptorIndex := 25, attributes := #[] }, { accessFlags := 25, nameIndex := 137, descriptorIndex := 25, attributes := #[] }, { accessFlags := 25, nameIndex := 143, descriptorIndex := 25, attributes := #[] }, { accessFlags := 25, nameIndex := 53, descriptorIndex := 25, attributes := #[] }, { accessFlags := 25, nameIndex := 24, descriptorIndex := 25, attributes := #[] }, { accessFlags := 25, nameIndex := 162, descriptorIndex := 25, attributes := #[] }, { accessFlags := 25, nameIndex := 187, descriptorIndex := 25, attributes := #[] }, { accessFlags := 26, nameIndex := 48, descriptorIndex := 25, attributes := #[] }, { accessFlags := 25, nameIndex := 277, descriptorIndex := 25, attributes := #[] }, { accessFlags := 25, nameIndex := 280, descriptorIndex := 25, attributes := #[] }, { accessFlags := 25, nameIndex := 282, descriptorIndex := 25, attributes := #[] }, { accessFlags := 25, nameIndex := 284, descriptorIndex := 25, attributes := #[] }, { accessFlags := 25, nameIndex := 286, descriptorIndex := 25, attributes := #[] }, { accessFlags := 25, nameIndex := 288, descriptorIndex := 25, attributes := #[] }, { accessFlags := 25, nameIndex := 290, descriptorIndex := 25, attributes := #[] }, { accessFlags := 25, nameIndex := 292, descriptorIndex := 25, attributes := #[] }, { accessFlags := 26, nameIndex := 108, descriptorIndex := 109, attributes := #[] }, { accessFlags := 25, nameIndex := 294, descriptorIndex := 25, attributes := #[] }])
  fields := #[{ name := "U", type := (.object "jdk/internal/misc/Unsafe"), accessFlags := 24, slot := 0, constantValue := 0 }, { name := "BIG_ENDIAN", type := .boolean, accessFlags := 26, slot := 1, constantValue := 0 }, { name := "LOG2_ARRAY_BOOLEAN_INDEX_SCALE", type := .int, accessFlags := 25, slot := 2, constantValue := 0 }, { name := "LOG2_ARRAY_BYTE_INDEX_SCALE", type := .int, accessFlags := 25, slot := 3, constantValue := 0 }, { name := "LOG2_ARRAY_CHAR_INDEX_SCALE", type := .int, accessFlags := 25, slot := 4, constantValue := 0 }, { name := "LOG2_ARRAY_SHORT_INDEX_SCALE", type := .int, accessFlags := 25, slot := 5, constantValue := 0 }, { name := "LOG2_ARRAY_INT_INDEX_SCALE", type := .int, accessFlags := 25, slot := 6, constantValue := 0 }, { name := "LOG2_ARRAY_LONG_INDEX_SCALE", type := .int, accessFlags := 25, slot := 7, constantValue := 0 }, { name := "LOG2_ARRAY_FLOAT_INDEX_SCALE", type := .int, accessFlags := 25, slot := 8, constantValue := 0 }, { name := "LOG2_ARRAY_DOUBLE_INDEX_SCALE", type := .int, accessFlags := 25, slot := 9, constantValue := 0 }, { name := "LOG2_BYTE_BIT_SIZE", type := .int, accessFlags := 26, slot := 10, constantValue := 0 }, { name := "T_BOOLEAN", type := .int, accessFlags := 25, slot := 11, constantValue := 0 }, { name := "T_CHAR", type := .int, accessFlags := 25, slot := 12, constantValue := 0 }, { name := "T_FLOAT", type := .int, accessFlags := 25, slot := 13, constantValue := 0 }, { name := "T_DOUBLE", type := .int, accessFlags := 25, slot := 14, constantValue := 0 }, { name := "T_BYTE", type := .int, accessFlags := 25, slot := 15, constantValue := 0 }, { name := "T_SHORT", type := .int, accessFlags := 25, slot := 16, constantValue := 0 }, { name := "T_INT", type := .int, accessFlags := 25, slot := 17, constantValue := 0 }, { name := "T_LONG", type := .int, accessFlags := 25, slot := 18, constantValue := 0 }, { name := "JLA", type := (.object "jdk/internal/access/JavaLangAccess"), accessFlags := 26, slot := 19, constantValue := 0 }, { name := "SOFT_MAX_ARRAY_LENGTH", type := .int, accessFlags := 25, slot := 20, constantValue := 0 }]
  methods := #[k13m0]
  instanceTypes := #[]
  staticTypes := #[(.object "jdk/internal/misc/Unsafe"), .boolean, .int, .int, .int, .int, .int, .int, .int, .int, .int, .int, .int, .int, .int, .int, .int, .int, .int, (.object "jdk/internal/access/JavaLangAccess"), .int]
  resolved := Array.replicate 378 none
  statics := none }

def pool14 : Array CpInfo := pool [(1, u "java/lang/Cloneable"), (0, .class_ 1), (0, u "java/lang/Object"), (0, .class_ 3)] 3

/-- java/lang/Cloneable -/
def k14 : Class := { plain "java/lang/Cloneable" (some 0) with
  accessFlags := 1537
  interfaces := #[]
  cf := some (fileOf pool14 2 #[] #[] 1537 4 #[] #[])
  fields := #[]
  methods := #[]
  instanceTypes := #[]
  staticTypes := #[]
  resolved := Array.replicate 8 none
  statics := none }

/-- the primitive byte -/
def k15 : Class := { plain "byte" none with kind := .primitive 'B', accessFlags := 0x411 }
/-- [B -/
def k16 : Class := { plain "[B" (some 0) with kind := .array 15 .byte, interfaces := #[14, 2], accessFlags := 1041 }

/-- the primitive char -/
def k17 : Class := { plain "char" none with kind := .primitive 'C', accessFlags := 0x411 }
/-- [C -/
def k18 : Class := { plain "[C" (some 0) with kind := .array 17 .char, interfaces := #[14, 2], accessFlags := 1041 }

/-- the primitive int -/
def k19 : Class := { plain "int" none with kind := .primitive 'I', accessFlags := 0x411 }
/-- [I -/
def k20 : Class := { plain "[I" (some 0) with kind := .array 19 .int, interfaces := #[14, 2], accessFlags := 1041 }

def heap : Heap := #[{ cls := 7, slots := #[.long 0, .int 1, .null, .int 0, .null, .int 0, .int 0], vm := .statics 7 },
  { cls := 12, slots := #[.null, .null, .null], vm := .statics 12 }]
def classes : Array Class := #[k0, k1, k2, k3, k4, k5, k6, k7, k8, k9, k10, k11, k12, k13, k14, k15, k16, k17, k18, k19, k20]
def interned : List (Array UInt16 × Addr) := []
def slotsUsed : Nat := 10
def theMethod : MethodId := ⟨1, 2⟩
def args0 : Array Value := #[.int 1, .int 2, .int 3, .int 4, .int 5]
def aboutOver (below : List Frame) : State where
  vm := { classes := classes, interned := interned.toArray }
  heap := heap
  slotsUsed := slotsUsed
  threads := #[{ frames := .invoking theMethod args0 :: below }]
def below0 : List Frame := [.native { method := ⟨0, 0⟩, args := #[] }]
def about1 : State := aboutOver below0
def p0 : Program := .bare "" "" ""
def e0 : Env := launch0.env 0 0 0
theorem w_frames : about1.frames = Frame.invoking theMethod args0 :: below0 := rfl
set_option maxRecDepth 65536 in
theorem w_args : argsFit about1.vm theMethod args0 = true := by decide +kernel
set_option maxRecDepth 65536 in
theorem w_heap : heapFits about1 = true := by decide +kernel
set_option maxRecDepth 65536 in
theorem w_runnable : about1.curStatus? = some .runnable := by decide +kernel
set_option maxRecDepth 65536 in
theorem w_alone : about1.alone = true := by decide +kernel
set_option maxRecDepth 65536 in
theorem w_named : about1.methodNamed? x = some theMethod := by decide +kernel
set_option maxRecDepth 65536 in
theorem w_hears : about1.hears theMethod below0 = true := by decide +kernel
set_option maxRecDepth 65536 in
theorem w_ripe : about1.ripe theMethod args0 below0 = true := by decide +kernel
theorem w_running : about1.status = .running := rfl
set_option maxRecDepth 65536 in
theorem w_room : about1.hasRoom e0.platform room_1 = true :=
  launch0.hasRoom_least _ room_1 (by decide +kernel) (by decide +kernel) (by decide +kernel) (by decide +kernel) (by decide +kernel) (by decide +kernel)
theorem allAtoms_all (ts : List Jvm.Cond) (a : Array Jvm.Value) (st : Jvm.State) : (allAtoms ts).before a st = ts.all (fun c => c.before a st) := by
  induction ts with
  | nil => rfl
  | cons c t ih =>
    show (Jvm.Cond.and c (allAtoms t)).before a st = _
    rw [Jvm.Cond.before_and, ih, List.all_cons]
def words1 : List Jvm.Cond := Jvm.Cond.code x code maxLocals ret :: tables_1
/-- a 'code' word, met by the world's own term for the bytes: nothing is compared byte by byte -/
theorem code_word {y : MethodName} {bytes : ByteArray} {mx : Nat} {rt : Option FieldType} {a : Array Value} {s : State} {m : MethodId} {meth : Method} {c : Code} (h1 : s.methodNamed? y = some m) (h2 : s.vm.method? m = some meth) (h3 : meth.code = some c) (h4 : c.code = bytes)
    (h5 : (c.maxLocals == mx && c.exceptionTable.isEmpty && decide (c.maxStack ≤ mostOperands) && decide (meth.sig.returnType = rt) && !meth.locks && decide (parseMethodDescriptor y.desc = some meth.sig)) = true) : (Jvm.Cond.code y bytes mx rt).before a s = true := by
  simp only [Bool.and_eq_true, beq_iff_eq, Bool.not_eq_true', decide_eq_true_eq] at h5
  obtain ⟨⟨⟨⟨⟨g1, g2⟩, g3⟩, g4⟩, g5⟩, g6⟩ := h5
  simp [Cond.before, Cond.holds, Cond.value, h1, h2, h3, h4, g1, g2, g3, g4, g5, g6]
def isCode : Jvm.Cond → Bool
  | .code _ _ _ _ => true
  | _ => false
theorem all_split {L : List Jvm.Cond} {P : Jvm.Cond → Bool} (h1 : L.all (fun c => isCode c || P c) = true) (h2 : ∀ c ∈ L.filter isCode, P c = true) : L.all P = true := by
  refine List.all_eq_true.mpr fun c hc => ?_
  have h := List.all_eq_true.mp h1 c hc
  rcases Bool.eq_false_or_eq_true (isCode c) with hi | hi
  · exact h2 c (List.mem_filter.mpr ⟨hc, hi⟩)
  · simpa [hi] using h
set_option maxRecDepth 65536 in
theorem w_c0 : (Jvm.Cond.code x code maxLocals ret).before args0 about1 = true := code_word (m := ⟨1, 2⟩) (meth := k1m2) (c := k1c2) (by decide +kernel) rfl rfl rfl (by decide +kernel)
set_option maxRecDepth 65536 in
theorem w_c1 : (Jvm.Cond.code ({ cls := "com/example/lokahi/lokahi/UnitEqualsPinLaw", name := "mk", desc := "(ICC)Ljava/lang/String;" } : Jvm.MethodName) method_2_code (3 : Nat) (Option.some (Jvm.ClassFile.FieldType.object "java/lang/String"))).before args0 about1 = true := code_word (m := ⟨1, 1⟩) (meth := k1m1) (c := k1c1) (by decide +kernel) rfl rfl rfl (by decide +kernel)
set_option maxRecDepth 65536 in
theorem w_c2 : (Jvm.Cond.code ({ cls := "java/lang/String", name := "<init>", desc := "([C)V" } : Jvm.MethodName) jdk_42_method_3_code (2 : Nat) (Option.none : Option Jvm.ClassFile.FieldType)).before args0 about1 = true := code_word (m := ⟨7, 1⟩) (meth := k7m1) (c := k7c1) (by decide +kernel) rfl rfl rfl (by decide +kernel)
set_option maxRecDepth 65536 in
theorem w_c3 : (Jvm.Cond.code ({ cls := "java/lang/String", name := "<init>", desc := "([CIILjava/lang/Void;)V" } : Jvm.MethodName) jdk_42_method_149_code (6 : Nat) (Option.none : Option Jvm.ClassFile.FieldType)).before args0 about1 = true := code_word (m := ⟨7, 4⟩) (meth := k7m4) (c := k7c4) (by decide +kernel) rfl rfl rfl (by decide +kernel)
set_option maxRecDepth 65536 in
theorem w_c4 : (Jvm.Cond.code ({ cls := "java/lang/Object", name := "<init>", desc := "()V" } : Jvm.MethodName) object_method_1_code (1 : Nat) (Option.none : Option Jvm.ClassFile.FieldType)).before args0 about1 = true := code_word (m := ⟨0, 0⟩) (meth := k0m0) (c := k0c0) (by decide +kernel) rfl rfl rfl (by decide +kernel)
set_option maxRecDepth 65536 in
theorem w_c5 : (Jvm.Cond.code ({ cls := "java/lang/StringUTF16", name := "compress", desc := "([CII)[B" } : Jvm.MethodName) jdk_52_method_16_code (6 : Nat) (Option.some (Jvm.ClassFile.FieldType.array Jvm.ClassFile.FieldType.byte))).before args0 about1 = true := code_word (m := ⟨8, 2⟩) (meth := k8m2) (c := k8c2) (by decide +kernel) rfl rfl rfl (by decide +kernel)
set_option maxRecDepth 65536 in
theorem w_c6 : (Jvm.Cond.code ({ cls := "java/lang/StringUTF16", name := "compress", desc := "([CI[BII)I" } : Jvm.MethodName) jdk_52_method_21_code (7 : Nat) (Option.some Jvm.ClassFile.FieldType.int)).before args0 about1 = true := code_word (m := ⟨8, 3⟩) (meth := k8m3) (c := k8c3) (by decide +kernel) rfl rfl rfl (by decide +kernel)
set_option maxRecDepth 65536 in
theorem w_c7 : (Jvm.Cond.code ({ cls := "java/lang/StringUTF16", name := "coderFromArrayLen", desc := "([BI)B" } : Jvm.MethodName) jdk_52_method_15_code (2 : Nat) (Option.some Jvm.ClassFile.FieldType.byte)).before args0 about1 = true := code_word (m := ⟨8, 1⟩) (meth := k8m1) (c := k8c1) (by decide +kernel) rfl rfl rfl (by decide +kernel)
set_option maxRecDepth 65536 in
theorem w_c8 : (Jvm.Cond.code ({ cls := "com/example/lokahi/lokahi/Unit", name := "<init>", desc := "(Ljava/lang/String;I)V" } : Jvm.MethodName) prog_2_method_1_code (3 : Nat) (Option.none : Option Jvm.ClassFile.FieldType)).before args0 about1 = true := code_word (m := ⟨9, 0⟩) (meth := k9m0) (c := k9c0) (by decide +kernel) rfl rfl rfl (by decide +kernel)
set_option maxRecDepth 65536 in
theorem w_c9 : (Jvm.Cond.code ({ cls := "java/util/Objects", name := "requireNonNull", desc := "(Ljava/lang/Object;Ljava/lang/String;)Ljava/lang/Object;" } : Jvm.MethodName) jdk_31_method_11_code (2 : Nat) (Option.some (Jvm.ClassFile.FieldType.object "java/lang/Object"))).before args0 about1 = true := code_word (m := ⟨10, 1⟩) (meth := k10m1) (c := k10c1) (by decide +kernel) rfl rfl rfl (by decide +kernel)
set_option maxRecDepth 65536 in
theorem w_c10 : (Jvm.Cond.code ({ cls := "java/lang/String", name := "isEmpty", desc := "()Z" } : Jvm.MethodName) jdk_42_method_55_code (1 : Nat) (Option.some Jvm.ClassFile.FieldType.boolean)).before args0 about1 = true := code_word (m := ⟨7, 2⟩) (meth := k7m2) (c := k7c2) (by decide +kernel) rfl rfl rfl (by decide +kernel)
set_option maxRecDepth 65536 in
theorem w_c11 : (Jvm.Cond.code ({ cls := "com/example/lokahi/lokahi/Unit", name := "equals", desc := "(Ljava/lang/Object;)Z" } : Jvm.MethodName) prog_2_method_9_code (3 : Nat) (Option.some Jvm.ClassFile.FieldType.boolean)).before args0 about1 = true := code_word (m := ⟨9, 1⟩) (meth := k9m1) (c := k9c1) (by decide +kernel) rfl rfl rfl (by decide +kernel)
set_option maxRecDepth 65536 in
theorem w_c12 : (Jvm.Cond.code ({ cls := "java/lang/String", name := "equals", desc := "(Ljava/lang/Object;)Z" } : Jvm.MethodName) jdk_42_method_66_code (3 : Nat) (Option.some Jvm.ClassFile.FieldType.boolean)).before args0 about1 = true := code_word (m := ⟨7, 3⟩) (meth := k7m3) (c := k7c3) (by decide +kernel) rfl rfl rfl (by decide +kernel)
set_option maxRecDepth 65536 in
theorem w_c13 : (Jvm.Cond.code ({ cls := "java/lang/StringLatin1", name := "equals", desc := "([B[B)Z" } : Jvm.MethodName) jdk_43_method_13_code (3 : Nat) (Option.some Jvm.ClassFile.FieldType.boolean)).before args0 about1 = true := code_word (m := ⟨11, 1⟩) (meth := k11m1) (c := k11c1) (by decide +kernel) rfl rfl rfl (by decide +kernel)
def codes1 : List Jvm.Cond := [Jvm.Cond.code x code maxLocals ret, Jvm.Cond.code ({ cls := "com/example/lokahi/lokahi/UnitEqualsPinLaw", name := "mk", desc := "(ICC)Ljava/lang/String;" } : Jvm.MethodName) method_2_code (3 : Nat) (Option.some (Jvm.ClassFile.FieldType.object "java/lang/String")), Jvm.Cond.code ({ cls := "java/lang/String", name := "<init>", desc := "([C)V" } : Jvm.MethodName) jdk_42_method_3_code (2 : Nat) (Option.none : Option Jvm.ClassFile.FieldType), Jvm.Cond.code ({ cls := "java/lang/String", name := "<init>", desc := "([CIILjava/lang/Void;)V" } : Jvm.MethodName) jdk_42_method_149_code (6 : Nat) (Option.none : Option Jvm.ClassFile.FieldType), Jvm.Cond.code ({ cls := "java/lang/Object", name := "<init>", desc := "()V" } : Jvm.MethodName) object_method_1_code (1 : Nat) (Option.none : Option Jvm.ClassFile.FieldType), Jvm.Cond.code ({ cls := "java/lang/StringUTF16", name := "compress", desc := "([CII)[B" } : Jvm.MethodName) jdk_52_method_16_code (6 : Nat) (Option.some (Jvm.ClassFile.FieldType.array Jvm.ClassFile.FieldType.byte)), Jvm.Cond.code ({ cls := "java/lang/StringUTF16", name := "compress", desc := "([CI[BII)I" } : Jvm.MethodName) jdk_52_method_21_code (7 : Nat) (Option.some Jvm.ClassFile.FieldType.int), Jvm.Cond.code ({ cls := "java/lang/StringUTF16", name := "coderFromArrayLen", desc := "([BI)B" } : Jvm.MethodName) jdk_52_method_15_code (2 : Nat) (Option.some Jvm.ClassFile.FieldType.byte), Jvm.Cond.code ({ cls := "com/example/lokahi/lokahi/Unit", name := "<init>", desc := "(Ljava/lang/String;I)V" } : Jvm.MethodName) prog_2_method_1_code (3 : Nat) (Option.none : Option Jvm.ClassFile.FieldType), Jvm.Cond.code ({ cls := "java/util/Objects", name := "requireNonNull", desc := "(Ljava/lang/Object;Ljava/lang/String;)Ljava/lang/Object;" } : Jvm.MethodName) jdk_31_method_11_code (2 : Nat) (Option.some (Jvm.ClassFile.FieldType.object "java/lang/Object")), Jvm.Cond.code ({ cls := "java/lang/String", name := "isEmpty", desc := "()Z" } : Jvm.MethodName) jdk_42_method_55_code (1 : Nat) (Option.some Jvm.ClassFile.FieldType.boolean), Jvm.Cond.code ({ cls := "com/example/lokahi/lokahi/Unit", name := "equals", desc := "(Ljava/lang/Object;)Z" } : Jvm.MethodName) prog_2_method_9_code (3 : Nat) (Option.some Jvm.ClassFile.FieldType.boolean), Jvm.Cond.code ({ cls := "java/lang/String", name := "equals", desc := "(Ljava/lang/Object;)Z" } : Jvm.MethodName) jdk_42_method_66_code (3 : Nat) (Option.some Jvm.ClassFile.FieldType.boolean), Jvm.Cond.code ({ cls := "java/lang/StringLatin1", name := "equals", desc := "([B[B)Z" } : Jvm.MethodName) jdk_43_method_13_code (3 : Nat) (Option.some Jvm.ClassFile.FieldType.boolean)]
set_option maxRecDepth 65536 in
theorem codes_eq : words1.filter isCode = codes1 := rfl
theorem w_codes : ∀ c ∈ words1.filter isCode, c.before args0 about1 = true := by
  rw [codes_eq]
  intro c hc
  simp only [codes1, List.mem_cons, List.not_mem_nil, or_false] at hc
  rcases hc with rfl | rfl | rfl | rfl | rfl | rfl | rfl | rfl | rfl | rfl | rfl | rfl | rfl | rfl
  · exact w_c0
  · exact w_c1
  · exact w_c2
  · exact w_c3
  · exact w_c4
  · exact w_c5
  · exact w_c6
  · exact w_c7
  · exact w_c8
  · exact w_c9
  · exact w_c10
  · exact w_c11
  · exact w_c12
  · exact w_c13
set_option maxRecDepth 65536 in
theorem w_t1 : (words1.take 24).all (fun c => isCode c || c.before args0 about1) = true := by decide +kernel
set_option maxRecDepth 65536 in
theorem w_t2 : ((words1.drop 24).take 24).all (fun c => isCode c || c.before args0 about1) = true := by decide +kernel
set_option maxRecDepth 65536 in
theorem w_t3 : (((words1.drop 24).drop 24).take 24).all (fun c => isCode c || c.before args0 about1) = true := by decide +kernel
set_option maxRecDepth 65536 in
theorem w_t4 : (((words1.drop 24).drop 24).drop 24).all (fun c => isCode c || c.before args0 about1) = true := by decide +kernel
theorem w_tables : (allAtoms (Jvm.Cond.code x code maxLocals ret :: tables_1)).before args0 about1 = true := by
  rw [allAtoms_all]
  show words1.all (fun c => c.before args0 about1) = true
  refine all_split ?_ w_codes
  rw [← List.take_append_drop 24 words1, List.all_append, w_t1, ← List.take_append_drop 24 (words1.drop 24), List.all_append, w_t2, ← List.take_append_drop 24 ((words1.drop 24).drop 24), List.all_append, w_t3, w_t4]
  rfl
set_option maxRecDepth 65536 in
theorem w_rest : rest_1_c.before args0 about1 = true := by decide +kernel
set_option maxRecDepth 65536 in
theorem w_case : (Jvm.Cond.and given_1 narrow_1).before args0 about1 = true := by decide +kernel
theorem w_applies : (headSpec (Jvm.Cond.code x code maxLocals ret :: tables_1) room_1).applies x e0.platform about1 = true :=
  (Spec.applies_iff w_frames).mpr ⟨w_running, w_runnable, w_alone, w_named, w_hears, w_ripe, w_room, w_tables⟩
theorem atStart : AtStart classFile x code maxLocals ret World_1 tables_1 room_1 Calls_1 rest_1 Pre_1 launch0 p0 e0 about1 theMethod args0 below0 :=
  ⟨lists_1, trivial, launch0.admits_env _ _ _, launch0.least_env, fairChoices_fair.cas, fairChoices_fair.clock, w_frames, w_args, w_heap, w_applies, trivial, w_rest, w_case⟩
end start1
theorem witness_1 : WitnessClaimed_1 := ⟨start1.p0, start1.e0, start1.about1, start1.theMethod, start1.args0, start1.below0, start1.atStart⟩
end Jvm.Pilot.@@N@@
