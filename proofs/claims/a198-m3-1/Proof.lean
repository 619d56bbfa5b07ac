import JvmDerived
import JvmDerived.Pilot.@@N@@Statement
import JvmDerived.Pilot.@@N@@Code
set_option linter.unusedVariables false
set_option linter.unusedSimpArgs false
@@BLOCK:NumsL.lean.txt@@
namespace Jvm.Pilot.@@N@@
open Jvm Jvm.ClassFile Sem Op Lib Jvm.Free Jvm.Stand Jvm.LawKit Jvm.RoadKit Bundle Jvm.Pilot.@@N@@.Jvm.D
section Own0
variable {p : Program} {l : Launch} {e : Env} {R : Room} {s : State} {m : MethodId} {args : Array Value} {below : List Frame} {meth : Method} {c : Code} {own nm : String} {bytes : ByteArray} {ml : Nat} {ret : Option FieldType} {T : State} {locs : List Loc} {cells slots : Nat} {Z : State} {a0 : Array Value} {h : Heap} {n0 : Nat} {K : State → Outcome → Prop} {pc pc' pt : Nat} {L L' : Array Slot} {S : List Value}
/-- an array, by the list of what it holds -/
def Arx (Z : State) (h : Heap) (a : Addr) (ty : FieldType) (vs : List Value) : Prop := ∃ c : Cell, Arr Z h a c ty ∧ c.slots.toList = vs ∧ vs.length < 2 ^ 31
theorem Arx.keep {h' : Heap} {ws : List Addr} {a : Addr} {ty : FieldType} {vs : List Value} (A : Arx Z h a ty vs) (K : Keep h h' ws) (q : a ∉ ws) : Arx Z h' a ty vs := by obtain ⟨c, A, r⟩ := A; exact ⟨c, ⟨K.2.1 a c A.1 q, A.2⟩, r⟩
theorem Arx.ext {h' : Heap} {a : Addr} {ty : FieldType} {vs : List Value} (A : Arx Z h a ty vs) (E : Ext h h') : Arx Z h' a ty vs := by obtain ⟨c, A, r⟩ := A; exact ⟨c, A.ext E, r⟩
theorem Arx.other {h' : Heap} {a b : Addr} {sl : Nat} {v : Value} {ty : FieldType} {vs : List Value} (A : Arx Z h b ty vs) (W : Wr h h' a sl v) (q : b ≠ a) : Arx Z h' b ty vs := by obtain ⟨c, A, r⟩ := A; exact ⟨c, A.other W q, r⟩
theorem Arx.lt {a : Addr} {ty : FieldType} {vs : List Value} (A : Arx Z h a ty vs) : a < h.size := by obtain ⟨c, A, r⟩ := A; exact A.lt
theorem Arx.le {a : Addr} {ty : FieldType} {vs : List Value} (A : Arx Z h a ty vs) : vs.length < 2 ^ 31 := by obtain ⟨c, A, r, q⟩ := A; exact q
theorem arx_in {cl : Cell} {vs : List Value} (q : cl.slots.toList = vs) {j : Int32} {i : Nat} (hj : j.toInt = (i : Int)) (hi : i < vs.length) : ¬ (j < 0 ∨ cl.slots.size ≤ j.toNatClampNeg) ∧ j.toNatClampNeg = i := by
  have e1 : j.toNatClampNeg = i := by simp only [Int32.toNatClampNeg, hj]; omega
  have e2 : cl.slots.size = vs.length := by rw [← q]; simp
  refine ⟨?_, e1⟩
  rw [e1, e2, Int32.lt_iff_toInt_lt, hj]
  have : (0 : Int32).toInt = 0 := rfl
  omega
theorem arx_at {cl : Cell} {vs : List Value} (q : cl.slots.toList = vs) {i : Nat} {v : Value} (hv : vs[i]? = some v) : cl.slots[i]? = some v := by rw [← q] at hv; simpa using hv
theorem arx_arv {a : Addr} {ty : FieldType} {vs : List Value} {n : Int32} {d : Value} (A : Arx Z h a ty vs) (hn : n.toInt = (vs.length : Int)) (hf : ∀ v ∈ vs, fits ty v = true) : ∃ k, Arv Z h a k ty n vs d := by
  obtain ⟨c, A, q, hl⟩ := A
  have e1 : n.toNatClampNeg = vs.length := by simp only [Int32.toNatClampNeg, hn]; omega
  have e2 : c.slots.size = vs.length := by rw [← q]; simp
  have e3 : ∀ i, i < c.slots.size → vs[i]? = some (vs.getD i d) := fun i hi => by rw [e2] at hi; simp [List.getD_eq_getElem?_getD, hi]
  refine ⟨c.cls, c, A, rfl, e2.trans e1.symm, ?_, fun i hi => ?_, fun i hi => hf _ (List.mem_of_getElem? (e3 i hi))⟩
  · rw [Int32.lt_iff_toInt_lt, hn]; have : (0 : Int32).toInt = 0 := rfl
    omega
  · have := e3 i hi
    rw [← q] at this; rw [← q]; simpa using this
theorem arv_arx {a : Addr} {k : ClassId} {ty : FieldType} {vs : List Value} {n : Int32} {d : Value} (A : Arv Z h a k ty n vs d) (hn : n.toInt = (vs.length : Int)) : Arx Z h a ty vs := by
  obtain ⟨c, A, -, e2, -, H, -⟩ := A
  have e1 : n.toNatClampNeg = vs.length := by simp only [Int32.toNatClampNeg, hn]; omega
  refine ⟨c, A, ?_, by have := n.toInt_lt; omega⟩
  apply List.ext_getElem?
  intro i
  by_cases hi : i < c.slots.size
  · have h1 := H i hi
    rw [e2, e1] at hi
    rw [Array.getElem?_toList, h1]; simp [List.getD_eq_getElem?_getD, hi]
  · rw [List.getElem?_eq_none (by simpa using hi), List.getElem?_eq_none (by rw [← e1, ← e2]; omega)]
theorem arx_new (k : ClassId) (ty : FieldType) (n : Int32) : (newA k ty n).slots.toList = List.replicate n.toNatClampNeg (defaultValue ty) := by simp [newA]
/-- what may lie in an array of the class ad: objects of class C -/
def OV (Z : State) (ad C : String) : Prop := ∃ (cA : ClassId) (k : Class) (comp : ClassId) (t : FieldType), Z.vm.findClass ad = some cA ∧ Z.vm.classes[cA]? = some k ∧ k.kind = .array comp t ∧ Z.vm.findClass C = some comp
theorem own_sto {a y : Addr} {ad C : String} (E : Exa Z h a ad) (O : OV Z ad C) (F : Exa Z h y C) : Sto Z h a (.ref y) := by
  obtain ⟨cell, k0, h1, h2, h3, -, -⟩ := E
  obtain ⟨cA, k, comp, t, o1, o2, o3, o4⟩ := O
  obtain ⟨cv, kv, f1, f2, f3, f4, -⟩ := F
  cases o1.symm.trans h2
  cases o2.symm.trans h3
  cases o4.symm.trans f2
  exact Or.inr ⟨cell, cv, _, kv, kv, cv.cls, t, y, h1, h3, o3, f3, rfl, f1, f4, f3, Vm.assignable_self _ _⟩
theorem own_face {C0 : String} {y : MethodName} (w5 : (Jvm.Cond.selects C0 y y).before a0 Z = true) : ∃ c k, Z.vm.findClass y.cls = some c ∧ Z.vm.classes[c]? = some k ∧ k.isInterface = false := by
  obtain ⟨c2, r2, m2, q1, q2, q3, q4, kP, hkP, hkPi⟩ := Cond.selects_spec w5
  exact ⟨_, kP, findClass_of_methodNamed q3, hkP, hkPi⟩
theorem own_sameM {C0 : String} {y y' : MethodName} (w3 : (Jvm.Cond.instanceMethod y).before a0 Z = true) (w5 : (Jvm.Cond.selects C0 y' y').before a0 Z = true) (hc : y'.cls = y.cls) (hy : y.cls ≠ "java/lang/invoke/MethodHandle" ∧ y.cls ≠ "java/lang/invoke/VarHandle") : (Jvm.Cond.sameMethod y.cls y.cls y.name y.desc).before a0 Z = true := by
  obtain ⟨mk, methM, hnamed, hmethM, -, -⟩ := Cond.instanceMethod_spec w3
  have hfound : Z.methodFound? y.cls y.name y.desc = some mk := State.methodFound?_of_named hnamed hy
  obtain ⟨c, k, e1, e2, e3⟩ := own_face w5
  rw [hc] at e1
  simp only [Cond.before, Cond.holds, Cond.value, e1, hfound, hnamed, e2]
  simp [e3]
theorem own_nf {C1 : String} {y y' : MethodName} (w5 : (Jvm.Cond.selects C1 y' y').before args s = true) (hc : y'.cls = y.cls) : NotFace s y := fun r0 h0 => by
  obtain ⟨c, k, e1, e2, e3⟩ := own_face w5
  rw [hc, findClass_of_methodNamed h0] at e1
  cases e1; exact ⟨k, e2, e3⟩
theorem own_selP {C0 : String} {y : MethodName} (w2 : (Jvm.Cond.instanceMethod y).before a0 Z = true) (wp : (Jvm.Cond.privateMethod y).before a0 Z = true) (w5 : (Jvm.Cond.selects C0 y y).before a0 Z = true) (hy : y.cls ≠ "java/lang/invoke/MethodHandle" ∧ y.cls ≠ "java/lang/invoke/VarHandle") : (Jvm.Cond.selects y.cls y y).before a0 Z = true := by
  obtain ⟨c, k, e1, e2, e3⟩ := own_face w5
  exact selects_self_of_private e1 e2 e3 (Cond.privateMethod_at wp) w2 hy
theorem own_clampN {j : Int32} {i : Nat} (h : j.toInt = (i : Int)) : ¬ j < 0 ∧ j.toNatClampNeg = i := by
  refine ⟨by rw [Int32.lt_iff_toInt_lt]; have : (0 : Int32).toInt = 0 := rfl
             omega, by simp only [Int32.toNatClampNeg]; omega⟩
theorem nm0 {a : Addr} : a ∉ ([] : List Addr) := List.not_mem_nil
theorem nm1 {a b : Addr} (h : a ≠ b) : a ∉ [b] := by simpa using h
theorem nm2 {a b d : Addr} (h : a ≠ b) (h' : a ≠ d) : a ∉ [b, d] := by simp [h, h']
theorem keep_ext {h' : Heap} (E : Ext h h') (ws : List Addr) : Keep h h' ws := (Keep.refl h ws).ext E
theorem ne_new {a b k : Nat} (h1 : a < k) (h2 : b = k) : a ≠ b := by omega
theorem ne_new' {a b k : Nat} (h1 : a < k) (h2 : b = k) : b ≠ a := by omega
end Own0
namespace Nar
section Own
variable {p : Program} {l : Launch} {e : Env} {R : Room} {s : State} {m : MethodId} {args : Array Value} {below : List Frame} {meth : Method} {c : Code} {own nm : String} {bytes : ByteArray} {ml : Nat} {ret : Option FieldType} {T : State} {locs : List Loc} {cells slots : Nat} {Z : State} {a0 : Array Value} {h : Heap} {n0 : Nat} {K : State → Outcome → Prop} {pc pc' pt : Nat} {L L' : Array Slot} {S : List Value}
/-- what is left of a run, from a state on -/
def Go (p : Program) (e : Env) (below : List Frame) (K : State → Outcome → Prop) (U : State) : Prop := ∃ s₂ o, Steps p.tables e below U s₂ ∧ s₂.status = .running ∧ Ended s₂ below o ∧ K s₂ o
theorem Go.of {U U' : State} (g : Go p e below K U') (st : ∀ t, Steps p.tables e below U' t → Steps p.tables e below U t) : Go p e below K U := by
  obtain ⟨s₂, o, h1, h2⟩ := g; exact ⟨s₂, o, st _ h1, h2⟩
/-- where a walk stands -/
def St (Z : State) (n0 : Nat) (p : Program) (l : Launch) (e : Env) (R : Room) (s : State) (m : MethodId) (args : Array Value) (below : List Frame) (meth : Method) (c : Code) (own nm : String) (bytes : ByteArray) (ml : Nat) (ret : Option FieldType) (T : State) (locs : List Loc) (cells slots : Nat) (h : Heap) : Prop :=
  Stand p l e R s m args below meth c T locs cells slots ∧ (p.tables.exec = Jvm.exec ∧ c.code = bytes ∧ c.maxLocals = ml ∧ s.vm.findClass own = some m.cls ∧ Z.Warmed39 s.vm ∧ meth.sig.returnType = ret ∧ meth.locks = false ∧ meth.name = nm) ∧ T.heap = h ∧ Fr n0 locs ∧ Old Z n0 h
theorem St.X (X : St Z n0 p l e R s m args below meth c own nm bytes ml ret T locs cells slots h) : Stand p l e R s m args below meth c T locs cells slots := X.1
theorem St.hx (X : St Z n0 p l e R s m args below meth c own nm bytes ml ret T locs cells slots h) : p.tables.exec = Jvm.exec := X.2.1.1
theorem St.by_ (X : St Z n0 p l e R s m args below meth c own nm bytes ml ret T locs cells slots h) : c.code = bytes := X.2.1.2.1
theorem St.ml_ (X : St Z n0 p l e R s m args below meth c own nm bytes ml ret T locs cells slots h) : c.maxLocals = ml := X.2.1.2.2.1
theorem St.own_ (X : St Z n0 p l e R s m args below meth c own nm bytes ml ret T locs cells slots h) : s.vm.findClass own = some m.cls := X.2.1.2.2.2.1
theorem St.hZ (X : St Z n0 p l e R s m args below meth c own nm bytes ml ret T locs cells slots h) : Z.Warmed39 s.vm := X.2.1.2.2.2.2.1
theorem St.ret_ (X : St Z n0 p l e R s m args below meth c own nm bytes ml ret T locs cells slots h) : meth.sig.returnType = ret := X.2.1.2.2.2.2.2.1
theorem St.lk (X : St Z n0 p l e R s m args below meth c own nm bytes ml ret T locs cells slots h) : meth.locks = false := X.2.1.2.2.2.2.2.2.1
theorem St.nm_ (X : St Z n0 p l e R s m args below meth c own nm bytes ml ret T locs cells slots h) : meth.name = nm := X.2.1.2.2.2.2.2.2.2
theorem St.eT (X : St Z n0 p l e R s m args below meth c own nm bytes ml ret T locs cells slots h) : T.heap = h := X.2.2.1
theorem St.fr (X : St Z n0 p l e R s m args below meth c own nm bytes ml ret T locs cells slots h) : Fr n0 locs := X.2.2.2.1
theorem St.old (X : St Z n0 p l e R s m args below meth c own nm bytes ml ret T locs cells slots h) : Old Z n0 h := X.2.2.2.2
theorem St.sz (X : St Z n0 p l e R s m args below meth c own nm bytes ml ret T locs cells slots h) : n0 ≤ h.size := X.2.2.2.2.1 ▸ X.2.2.2.2.2.1
theorem St.to (X : St Z n0 p l e R s m args below meth c own nm bytes ml ret T locs cells slots h) {T' : State} {locs' : List Loc} {cells' slots' : Nat} {h' : Heap} (Y : Stand p l e R s m args below meth c T' locs' cells' slots') (e' : T'.heap = h') (N : Fr n0 locs') (z : Old Z n0 h') : St Z n0 p l e R s m args below meth c own nm bytes ml ret T' locs' cells' slots' h' := ⟨Y, X.2.1, e', N, z⟩
theorem St.more (X : St Z n0 p l e R s m args below meth c own nm bytes ml ret T locs cells slots h) {c' n' : Nat} (q1 : cells ≤ c') (q2 : slots ≤ n') : St Z n0 p l e R s m args below meth c own nm bytes ml ret T locs c' n' h := ⟨X.X.mono q1 q2, X.2⟩
theorem St.d (X : St Z n0 p l e R s m args below meth c own nm bytes ml ret T locs cells slots h) {r : Except DecodeError (Instr × Nat)} (hd : decode bytes pc = r) : decode c.code pc = r := hb X.by_ hd
/-- a body's contract -/
def Con (l : Launch) (Z : State) (y : MethodName) (bytes : ByteArray) (ml : Nat) (ret : Option FieldType) (ws : List Jvm.Cond) (rm : Room) (C N : Nat) (as' : Array Value) (h : Heap) (Q : Option Value → Heap → List Loc → Prop) : Prop :=
  MetFree l y (head1 (Jvm.Cond.code y bytes ml ret :: ws) rm) (fun a U => a = as' ∧ Z.Warmed39 U.vm ∧ U.heap = h) (fun _ _ _ _ _ => True) (fun _ U o U' => ∃ v L, o = .returned v ∧ Q v U'.heap L ∧ FrameEnd U o U' L C N)
def Kq (s : State) (C N : Nat) (Q : Option Value → Heap → List Loc → Prop) (t : State) (o : Outcome) : Prop := ∃ v L, o = .returned v ∧ Q v t.heap L ∧ FrameEnd s o t L C N
theorem Con.intro {y : MethodName} {ws : List Jvm.Cond} {rm : Room} {C N : Nat} {as' : Array Value} {Q : Option Value → Heap → List Loc → Prop} (hy : plainFor y = true) (ef : ∀ m, entryFrame m as' ml = mkF m 0 L []) (hz : Old Z n0 h)
    (body : ∀ p e s m below meth c T, s.heap = h → St Z n0 p l e rm s m as' below meth c y.cls y.name bytes ml ret T [] 0 0 h → Go p e below (Kq s C N Q) (T.setTop (mkF m 0 L []))) : Con l Z y bytes ml ret ws rm C N as' h Q := by
  refine MetFree.of_bodySF hy hisR ?_
  intro p e s m args below meth c s₁ Bd hml0 hP hK
  obtain ⟨rfl, hZ, hh⟩ := hP
  have e0 : s₁.heap = h := by rw [← hh, Bd.state]; rfl
  obtain ⟨s₂, o, h1, h2, h3, h4⟩ := body p e s m below meth c s₁ hh ⟨Stand.of_body Bd, ⟨Bd.exec, Bd.bytes, hml0, findClass_of_methodNamed Bd.named, hZ, Bd.returns, Bd.notSynchronized, (name_of_methodNamed Bd.named Bd.method).1⟩, e0, Fr.nil n0, hz⟩
  exact ⟨s₂, o, castTop (ef m) h1, h2, h3, h4⟩
theorem go_eq {f g : JFrame} (q : f = g) (k : Go p e below K (T.setTop g)) : Go p e below K (T.setTop f) := q ▸ k
theorem g_iloadN (X : St Z n0 p l e R s m args below meth c own nm bytes ml ret T locs cells slots h) {k : Fin 4} {v : Int32} (hd : decode bytes pc = .ok (.iload_n k, 1)) (hp : pc + 1 = pc') (hl : L[k.val]? = some (.val (.int v))) (k : Go p e below K (T.setTop (mkF m pc' L (.int v :: S)))) : Go p e below K (T.setTop (mkF m pc L S)) := by
  subst hp; exact k.of (fun _ q => XS.iloadN X.X.here X.hx rfl (X.d hd) hl q)
theorem g_iload (X : St Z n0 p l e R s m args below meth c own nm bytes ml ret T locs cells slots h) {k : Nat} {v : Int32} (hd : decode bytes pc = .ok (.iload k, 2)) (hp : pc + 2 = pc') (hl : L[k]? = some (.val (.int v))) (k : Go p e below K (T.setTop (mkF m pc' L (.int v :: S)))) : Go p e below K (T.setTop (mkF m pc L S)) := by
  subst hp; exact k.of (fun _ q => XS.iload X.X.here X.hx rfl (X.d hd) hl q)
theorem g_lloadN (X : St Z n0 p l e R s m args below meth c own nm bytes ml ret T locs cells slots h) {k : Fin 4} {v : Int64} (hd : decode bytes pc = .ok (.lload_n k, 1)) (hp : pc + 1 = pc') (hl : L[k.val]? = some (.val (.long v))) (k : Go p e below K (T.setTop (mkF m pc' L (.long v :: S)))) : Go p e below K (T.setTop (mkF m pc L S)) := by
  subst hp; exact k.of (fun _ q => XS.lloadN X.X.here X.hx rfl (X.d hd) hl q)
theorem g_lload (X : St Z n0 p l e R s m args below meth c own nm bytes ml ret T locs cells slots h) {k : Nat} {v : Int64} (hd : decode bytes pc = .ok (.lload k, 2)) (hp : pc + 2 = pc') (hl : L[k]? = some (.val (.long v))) (k : Go p e below K (T.setTop (mkF m pc' L (.long v :: S)))) : Go p e below K (T.setTop (mkF m pc L S)) := by
  subst hp; exact k.of (fun _ q => XS.lload X.X.here X.hx rfl (X.d hd) hl q)
theorem g_aloadN (X : St Z n0 p l e R s m args below meth c own nm bytes ml ret T locs cells slots h) {k : Fin 4} {v : Value} (hd : decode bytes pc = .ok (.aload_n k, 1)) (hp : pc + 1 = pc') (hl : L[k.val]? = some (.val v)) (hv : v.isRef = true) (k : Go p e below K (T.setTop (mkF m pc' L (v :: S)))) : Go p e below K (T.setTop (mkF m pc L S)) := by
  subst hp; exact k.of (fun _ q => XS.aloadN X.X.here X.hx rfl (X.d hd) hl hv q)
theorem g_aload (X : St Z n0 p l e R s m args below meth c own nm bytes ml ret T locs cells slots h) {k : Nat} {v : Value} (hd : decode bytes pc = .ok (.aload k, 2)) (hp : pc + 2 = pc') (hl : L[k]? = some (.val v)) (hv : v.isRef = true) (k : Go p e below K (T.setTop (mkF m pc' L (v :: S)))) : Go p e below K (T.setTop (mkF m pc L S)) := by
  subst hp; exact k.of (fun _ q => XS.aload X.X.here X.hx rfl (X.d hd) hl hv q)
theorem g_istoreN (X : St Z n0 p l e R s m args below meth c own nm bytes ml ret T locs cells slots h) {k : Fin 4} {v : Int32} (hd : decode bytes pc = .ok (.istore_n k, 1)) (hp : pc + 1 = pc') (hl : storeLocals L k.val (.int v) = some L') (k : Go p e below K (T.setTop (mkF m pc' L' S))) : Go p e below K (T.setTop (mkF m pc L (.int v :: S))) := by
  subst hp; exact k.of (fun _ q => XS.istoreN X.X.here X.hx rfl (X.d hd) rfl hl q)
theorem g_istore (X : St Z n0 p l e R s m args below meth c own nm bytes ml ret T locs cells slots h) {k : Nat} {v : Int32} (hd : decode bytes pc = .ok (.istore k, 2)) (hp : pc + 2 = pc') (hl : storeLocals L k (.int v) = some L') (k : Go p e below K (T.setTop (mkF m pc' L' S))) : Go p e below K (T.setTop (mkF m pc L (.int v :: S))) := by
  subst hp; exact k.of (fun _ q => XS.istore X.X.here X.hx rfl (X.d hd) rfl hl q)
theorem g_lstoreN (X : St Z n0 p l e R s m args below meth c own nm bytes ml ret T locs cells slots h) {k : Fin 4} {v : Int64} (hd : decode bytes pc = .ok (.lstore_n k, 1)) (hp : pc + 1 = pc') (hl : storeLocals L k.val (.long v) = some L') (k : Go p e below K (T.setTop (mkF m pc' L' S))) : Go p e below K (T.setTop (mkF m pc L (.long v :: S))) := by
  subst hp; exact k.of (fun _ q => XS.lstoreN X.X.here X.hx rfl (X.d hd) rfl hl q)
theorem g_lstore (X : St Z n0 p l e R s m args below meth c own nm bytes ml ret T locs cells slots h) {k : Nat} {v : Int64} (hd : decode bytes pc = .ok (.lstore k, 2)) (hp : pc + 2 = pc') (hl : storeLocals L k (.long v) = some L') (k : Go p e below K (T.setTop (mkF m pc' L' S))) : Go p e below K (T.setTop (mkF m pc L (.long v :: S))) := by
  subst hp; exact k.of (fun _ q => XS.lstore X.X.here X.hx rfl (X.d hd) rfl hl q)
theorem g_astoreN (X : St Z n0 p l e R s m args below meth c own nm bytes ml ret T locs cells slots h) {k : Fin 4} {v : Value} (hd : decode bytes pc = .ok (.astore_n k, 1)) (hp : pc + 1 = pc') (hv : v.isRef = true) (hl : storeLocals L k.val v = some L') (k : Go p e below K (T.setTop (mkF m pc' L' S))) : Go p e below K (T.setTop (mkF m pc L (v :: S))) := by
  subst hp; exact k.of (fun _ q => XS.astoreN X.X.here X.hx rfl (X.d hd) rfl hv hl q)
theorem g_astore (X : St Z n0 p l e R s m args below meth c own nm bytes ml ret T locs cells slots h) {k : Nat} {v : Value} (hd : decode bytes pc = .ok (.astore k, 2)) (hp : pc + 2 = pc') (hv : v.isRef = true) (hl : storeLocals L k v = some L') (k : Go p e below K (T.setTop (mkF m pc' L' S))) : Go p e below K (T.setTop (mkF m pc L (v :: S))) := by
  subst hp; exact k.of (fun _ q => XS.astore X.X.here X.hx rfl (X.d hd) rfl hv hl q)
theorem g_iinc (X : St Z n0 p l e R s m args below meth c own nm bytes ml ret T locs cells slots h) {k : Nat} {z : Int} {v : Int32} (hd : decode bytes pc = .ok (.iinc k z, 3)) (hp : pc + 3 = pc') (hl : L[k]? = some (.val (.int v))) (hl' : storeLocals L k (.int (v + Int32.ofInt z)) = some L') (k : Go p e below K (T.setTop (mkF m pc' L' S))) : Go p e below K (T.setTop (mkF m pc L S)) := by
  subst hp; exact k.of (fun _ q => XS.iinc X.X.here X.hx rfl (X.d hd) hl hl' q)
theorem g_iconst (X : St Z n0 p l e R s m args below meth c own nm bytes ml ret T locs cells slots h) {i : Int} {v : Int32} (hd : decode bytes pc = .ok (.iconst i, 1)) (hp : pc + 1 = pc') (hv : Int32.ofInt i = v) (k : Go p e below K (T.setTop (mkF m pc' L (.int v :: S)))) : Go p e below K (T.setTop (mkF m pc L S)) := by
  subst hp; exact k.of (fun _ q => XS.iconst X.X.here X.hx rfl (X.d hd) (hv ▸ q))
theorem g_bipush (X : St Z n0 p l e R s m args below meth c own nm bytes ml ret T locs cells slots h) {i : Int} {v : Int32} (hd : decode bytes pc = .ok (.bipush i, 2)) (hp : pc + 2 = pc') (hv : (Int8.ofInt i).toInt32 = v) (k : Go p e below K (T.setTop (mkF m pc' L (.int v :: S)))) : Go p e below K (T.setTop (mkF m pc L S)) := by
  subst hp; exact k.of (fun _ q => XS.bipush X.X.here X.hx rfl (X.d hd) (hv ▸ q))
theorem g_sipush (X : St Z n0 p l e R s m args below meth c own nm bytes ml ret T locs cells slots h) {i : Int} {v : Int32} (hd : decode bytes pc = .ok (.sipush i, 3)) (hp : pc + 3 = pc') (hv : (Int16.ofInt i).toInt32 = v) (k : Go p e below K (T.setTop (mkF m pc' L (.int v :: S)))) : Go p e below K (T.setTop (mkF m pc L S)) := by
  subst hp; exact k.of (fun _ q => XS.sipush X.X.here X.hx rfl (X.d hd) (hv ▸ q))
theorem g_lconst (X : St Z n0 p l e R s m args below meth c own nm bytes ml ret T locs cells slots h) {i : Fin 2} {v : Int64} (hd : decode bytes pc = .ok (.lconst i, 1)) (hp : pc + 1 = pc') (hv : Int64.ofNat i = v) (k : Go p e below K (T.setTop (mkF m pc' L (.long v :: S)))) : Go p e below K (T.setTop (mkF m pc L S)) := by
  subst hp; exact k.of (fun _ q => XS.lconst X.X.here X.hx rfl (X.d hd) (hv ▸ q))
theorem g_aconst_null (X : St Z n0 p l e R s m args below meth c own nm bytes ml ret T locs cells slots h) (hd : decode bytes pc = .ok (.aconst_null, 1)) (hp : pc + 1 = pc') (k : Go p e below K (T.setTop (mkF m pc' L (.null :: S)))) : Go p e below K (T.setTop (mkF m pc L S)) := by
  subst hp; exact k.of (fun _ q => XS.aconstNull X.X.here X.hx rfl (X.d hd) q)
theorem g_iadd (X : St Z n0 p l e R s m args below meth c own nm bytes ml ret T locs cells slots h) {x y : Int32} (hd : decode bytes pc = .ok (.iadd, 1)) (hp : pc + 1 = pc') (k : Go p e below K (T.setTop (mkF m pc' L (.int (x + y) :: S)))) : Go p e below K (T.setTop (mkF m pc L (.int y :: .int x :: S))) := by
  subst hp; exact k.of (fun _ q => XS.iadd X.X.here X.hx rfl (X.d hd) rfl q)
theorem g_isub (X : St Z n0 p l e R s m args below meth c own nm bytes ml ret T locs cells slots h) {x y : Int32} (hd : decode bytes pc = .ok (.isub, 1)) (hp : pc + 1 = pc') (k : Go p e below K (T.setTop (mkF m pc' L (.int (x - y) :: S)))) : Go p e below K (T.setTop (mkF m pc L (.int y :: .int x :: S))) := by
  subst hp; exact k.of (fun _ q => XS.isub X.X.here X.hx rfl (X.d hd) rfl q)
theorem g_imul (X : St Z n0 p l e R s m args below meth c own nm bytes ml ret T locs cells slots h) {x y : Int32} (hd : decode bytes pc = .ok (.imul, 1)) (hp : pc + 1 = pc') (k : Go p e below K (T.setTop (mkF m pc' L (.int (x * y) :: S)))) : Go p e below K (T.setTop (mkF m pc L (.int y :: .int x :: S))) := by
  subst hp; exact k.of (fun _ q => XS.imul X.X.here X.hx rfl (X.d hd) rfl q)
theorem g_iand (X : St Z n0 p l e R s m args below meth c own nm bytes ml ret T locs cells slots h) {x y : Int32} (hd : decode bytes pc = .ok (.iand, 1)) (hp : pc + 1 = pc') (k : Go p e below K (T.setTop (mkF m pc' L (.int (x &&& y) :: S)))) : Go p e below K (T.setTop (mkF m pc L (.int y :: .int x :: S))) := by
  subst hp; exact k.of (fun _ q => XS.iand X.X.here X.hx rfl (X.d hd) rfl q)
theorem g_ior (X : St Z n0 p l e R s m args below meth c own nm bytes ml ret T locs cells slots h) {x y : Int32} (hd : decode bytes pc = .ok (.ior, 1)) (hp : pc + 1 = pc') (k : Go p e below K (T.setTop (mkF m pc' L (.int (x ||| y) :: S)))) : Go p e below K (T.setTop (mkF m pc L (.int y :: .int x :: S))) := by
  subst hp; exact k.of (fun _ q => XS.ior X.X.here X.hx rfl (X.d hd) rfl q)
theorem g_ixor (X : St Z n0 p l e R s m args below meth c own nm bytes ml ret T locs cells slots h) {x y : Int32} (hd : decode bytes pc = .ok (.ixor, 1)) (hp : pc + 1 = pc') (k : Go p e below K (T.setTop (mkF m pc' L (.int (x ^^^ y) :: S)))) : Go p e below K (T.setTop (mkF m pc L (.int y :: .int x :: S))) := by
  subst hp; exact k.of (fun _ q => XS.ixor X.X.here X.hx rfl (X.d hd) rfl q)
theorem g_ishl (X : St Z n0 p l e R s m args below meth c own nm bytes ml ret T locs cells slots h) {x y : Int32} (hd : decode bytes pc = .ok (.ishl, 1)) (hp : pc + 1 = pc') (k : Go p e below K (T.setTop (mkF m pc' L (.int (x <<< (y &&& 31)) :: S)))) : Go p e below K (T.setTop (mkF m pc L (.int y :: .int x :: S))) := by
  subst hp; exact k.of (fun _ q => XS.ishl X.X.here X.hx rfl (X.d hd) rfl q)
theorem g_ishr (X : St Z n0 p l e R s m args below meth c own nm bytes ml ret T locs cells slots h) {x y : Int32} (hd : decode bytes pc = .ok (.ishr, 1)) (hp : pc + 1 = pc') (k : Go p e below K (T.setTop (mkF m pc' L (.int (x >>> (y &&& 31)) :: S)))) : Go p e below K (T.setTop (mkF m pc L (.int y :: .int x :: S))) := by
  subst hp; exact k.of (fun _ q => XS.ishr X.X.here X.hx rfl (X.d hd) rfl q)
theorem g_iushr (X : St Z n0 p l e R s m args below meth c own nm bytes ml ret T locs cells slots h) {x y : Int32} (hd : decode bytes pc = .ok (.iushr, 1)) (hp : pc + 1 = pc') (k : Go p e below K (T.setTop (mkF m pc' L (.int ((x.toUInt32 >>> (y &&& 31).toUInt32).toInt32) :: S)))) : Go p e below K (T.setTop (mkF m pc L (.int y :: .int x :: S))) := by
  subst hp; exact k.of (fun _ q => XS.iushr X.X.here X.hx rfl (X.d hd) rfl q)
theorem g_idiv (X : St Z n0 p l e R s m args below meth c own nm bytes ml ret T locs cells slots h) {x y : Int32} (hd : decode bytes pc = .ok (.idiv, 1)) (hp : pc + 1 = pc') (hy : y ≠ 0) (k : Go p e below K (T.setTop (mkF m pc' L (.int (x / y) :: S)))) : Go p e below K (T.setTop (mkF m pc L (.int y :: .int x :: S))) := by
  subst hp; exact k.of (fun _ q => XS.idiv X.X.here X.hx rfl (X.d hd) rfl hy q)
theorem g_irem (X : St Z n0 p l e R s m args below meth c own nm bytes ml ret T locs cells slots h) {x y : Int32} (hd : decode bytes pc = .ok (.irem, 1)) (hp : pc + 1 = pc') (hy : y ≠ 0) (k : Go p e below K (T.setTop (mkF m pc' L (.int (x % y) :: S)))) : Go p e below K (T.setTop (mkF m pc L (.int y :: .int x :: S))) := by
  subst hp; exact k.of (fun _ q => iremM X.X X.hx rfl (X.d hd) rfl hy q)
theorem g_ladd (X : St Z n0 p l e R s m args below meth c own nm bytes ml ret T locs cells slots h) {x y : Int64} (hd : decode bytes pc = .ok (.ladd, 1)) (hp : pc + 1 = pc') (k : Go p e below K (T.setTop (mkF m pc' L (.long (x + y) :: S)))) : Go p e below K (T.setTop (mkF m pc L (.long y :: .long x :: S))) := by
  subst hp; exact k.of (fun _ q => XS.ladd X.X.here X.hx rfl (X.d hd) rfl q)
theorem g_lsub (X : St Z n0 p l e R s m args below meth c own nm bytes ml ret T locs cells slots h) {x y : Int64} (hd : decode bytes pc = .ok (.lsub, 1)) (hp : pc + 1 = pc') (k : Go p e below K (T.setTop (mkF m pc' L (.long (x - y) :: S)))) : Go p e below K (T.setTop (mkF m pc L (.long y :: .long x :: S))) := by
  subst hp; exact k.of (fun _ q => XS.lsub X.X.here X.hx rfl (X.d hd) rfl q)
theorem g_lmul (X : St Z n0 p l e R s m args below meth c own nm bytes ml ret T locs cells slots h) {x y : Int64} (hd : decode bytes pc = .ok (.lmul, 1)) (hp : pc + 1 = pc') (k : Go p e below K (T.setTop (mkF m pc' L (.long (x * y) :: S)))) : Go p e below K (T.setTop (mkF m pc L (.long y :: .long x :: S))) := by
  subst hp; exact k.of (fun _ q => XS.lmul X.X.here X.hx rfl (X.d hd) rfl q)
theorem g_land (X : St Z n0 p l e R s m args below meth c own nm bytes ml ret T locs cells slots h) {x y : Int64} (hd : decode bytes pc = .ok (.land, 1)) (hp : pc + 1 = pc') (k : Go p e below K (T.setTop (mkF m pc' L (.long (x &&& y) :: S)))) : Go p e below K (T.setTop (mkF m pc L (.long y :: .long x :: S))) := by
  subst hp; exact k.of (fun _ q => XS.land X.X.here X.hx rfl (X.d hd) rfl q)
theorem g_lor (X : St Z n0 p l e R s m args below meth c own nm bytes ml ret T locs cells slots h) {x y : Int64} (hd : decode bytes pc = .ok (.lor, 1)) (hp : pc + 1 = pc') (k : Go p e below K (T.setTop (mkF m pc' L (.long (x ||| y) :: S)))) : Go p e below K (T.setTop (mkF m pc L (.long y :: .long x :: S))) := by
  subst hp; exact k.of (fun _ q => XS.lor X.X.here X.hx rfl (X.d hd) rfl q)
theorem g_lxor (X : St Z n0 p l e R s m args below meth c own nm bytes ml ret T locs cells slots h) {x y : Int64} (hd : decode bytes pc = .ok (.lxor, 1)) (hp : pc + 1 = pc') (k : Go p e below K (T.setTop (mkF m pc' L (.long (x ^^^ y) :: S)))) : Go p e below K (T.setTop (mkF m pc L (.long y :: .long x :: S))) := by
  subst hp; exact k.of (fun _ q => XS.lxor X.X.here X.hx rfl (X.d hd) rfl q)
theorem g_ldiv (X : St Z n0 p l e R s m args below meth c own nm bytes ml ret T locs cells slots h) {x y : Int64} (hd : decode bytes pc = .ok (.ldiv, 1)) (hp : pc + 1 = pc') (hy : y ≠ 0) (k : Go p e below K (T.setTop (mkF m pc' L (.long (x / y) :: S)))) : Go p e below K (T.setTop (mkF m pc L (.long y :: .long x :: S))) := by
  subst hp; exact k.of (fun _ q => XS.ldiv X.X.here X.hx rfl (X.d hd) rfl hy q)
theorem g_lrem (X : St Z n0 p l e R s m args below meth c own nm bytes ml ret T locs cells slots h) {x y : Int64} (hd : decode bytes pc = .ok (.lrem, 1)) (hp : pc + 1 = pc') (hy : y ≠ 0) (k : Go p e below K (T.setTop (mkF m pc' L (.long (x - (x / y) * y) :: S)))) : Go p e below K (T.setTop (mkF m pc L (.long y :: .long x :: S))) := by
  subst hp; exact k.of (fun _ q => XS.lrem X.X.here X.hx rfl (X.d hd) rfl hy q)
theorem g_lshl (X : St Z n0 p l e R s m args below meth c own nm bytes ml ret T locs cells slots h) {x : Int64} {y : Int32} (hd : decode bytes pc = .ok (.lshl, 1)) (hp : pc + 1 = pc') (k : Go p e below K (T.setTop (mkF m pc' L (.long (x <<< (y &&& 0x3f).toInt64) :: S)))) : Go p e below K (T.setTop (mkF m pc L (.int y :: .long x :: S))) := by
  subst hp; exact k.of (fun _ q => XS.lshl X.X.here X.hx rfl (X.d hd) rfl q)
theorem g_lshr (X : St Z n0 p l e R s m args below meth c own nm bytes ml ret T locs cells slots h) {x : Int64} {y : Int32} (hd : decode bytes pc = .ok (.lshr, 1)) (hp : pc + 1 = pc') (k : Go p e below K (T.setTop (mkF m pc' L (.long (x >>> (y &&& 0x3f).toInt64) :: S)))) : Go p e below K (T.setTop (mkF m pc L (.int y :: .long x :: S))) := by
  subst hp; exact k.of (fun _ q => XS.lshr X.X.here X.hx rfl (X.d hd) rfl q)
theorem g_lushr (X : St Z n0 p l e R s m args below meth c own nm bytes ml ret T locs cells slots h) {x : Int64} {y : Int32} (hd : decode bytes pc = .ok (.lushr, 1)) (hp : pc + 1 = pc') (k : Go p e below K (T.setTop (mkF m pc' L (.long ((x.toUInt64 >>> (y &&& 0x3f).toInt64.toUInt64).toInt64) :: S)))) : Go p e below K (T.setTop (mkF m pc L (.int y :: .long x :: S))) := by
  subst hp; exact k.of (fun _ q => XS.lushr X.X.here X.hx rfl (X.d hd) rfl q)
theorem g_i2b (X : St Z n0 p l e R s m args below meth c own nm bytes ml ret T locs cells slots h) {v : Int32} (hd : decode bytes pc = .ok (.i2b, 1)) (hp : pc + 1 = pc') (k : Go p e below K (T.setTop (mkF m pc' L (.int (v.toInt8.toInt32) :: S)))) : Go p e below K (T.setTop (mkF m pc L (.int v :: S))) := by
  subst hp; exact k.of (fun _ q => XS.i2b X.X.here X.hx rfl (X.d hd) rfl q)
theorem g_i2c (X : St Z n0 p l e R s m args below meth c own nm bytes ml ret T locs cells slots h) {v : Int32} (hd : decode bytes pc = .ok (.i2c, 1)) (hp : pc + 1 = pc') (k : Go p e below K (T.setTop (mkF m pc' L (.int (v.toUInt32.toUInt16.toUInt32.toInt32) :: S)))) : Go p e below K (T.setTop (mkF m pc L (.int v :: S))) := by
  subst hp; exact k.of (fun _ q => XS.i2c X.X.here X.hx rfl (X.d hd) rfl q)
theorem g_i2s (X : St Z n0 p l e R s m args below meth c own nm bytes ml ret T locs cells slots h) {v : Int32} (hd : decode bytes pc = .ok (.i2s, 1)) (hp : pc + 1 = pc') (k : Go p e below K (T.setTop (mkF m pc' L (.int (v.toInt16.toInt32) :: S)))) : Go p e below K (T.setTop (mkF m pc L (.int v :: S))) := by
  subst hp; exact k.of (fun _ q => XS.i2s X.X.here X.hx rfl (X.d hd) rfl q)
theorem g_ineg (X : St Z n0 p l e R s m args below meth c own nm bytes ml ret T locs cells slots h) {v : Int32} (hd : decode bytes pc = .ok (.ineg, 1)) (hp : pc + 1 = pc') (k : Go p e below K (T.setTop (mkF m pc' L (.int (-v) :: S)))) : Go p e below K (T.setTop (mkF m pc L (.int v :: S))) := by
  subst hp; exact k.of (fun _ q => XS.ineg X.X.here X.hx rfl (X.d hd) rfl q)
theorem g_i2l (X : St Z n0 p l e R s m args below meth c own nm bytes ml ret T locs cells slots h) {v : Int32} (hd : decode bytes pc = .ok (.i2l, 1)) (hp : pc + 1 = pc') (k : Go p e below K (T.setTop (mkF m pc' L (.long (v.toInt64) :: S)))) : Go p e below K (T.setTop (mkF m pc L (.int v :: S))) := by
  subst hp; exact k.of (fun _ q => XS.i2l X.X.here X.hx rfl (X.d hd) rfl q)
theorem g_l2i (X : St Z n0 p l e R s m args below meth c own nm bytes ml ret T locs cells slots h) {v : Int64} (hd : decode bytes pc = .ok (.l2i, 1)) (hp : pc + 1 = pc') (k : Go p e below K (T.setTop (mkF m pc' L (.int (v.toInt32) :: S)))) : Go p e below K (T.setTop (mkF m pc L (.long v :: S))) := by
  subst hp; exact k.of (fun _ q => XS.l2i X.X.here X.hx rfl (X.d hd) rfl q)
theorem g_lneg (X : St Z n0 p l e R s m args below meth c own nm bytes ml ret T locs cells slots h) {v : Int64} (hd : decode bytes pc = .ok (.lneg, 1)) (hp : pc + 1 = pc') (k : Go p e below K (T.setTop (mkF m pc' L (.long (-v) :: S)))) : Go p e below K (T.setTop (mkF m pc L (.long v :: S))) := by
  subst hp; exact k.of (fun _ q => XS.lneg X.X.here X.hx rfl (X.d hd) rfl q)
theorem g_lcmp (X : St Z n0 p l e R s m args below meth c own nm bytes ml ret T locs cells slots h) {x y : Int64} (hd : decode bytes pc = .ok (.lcmp, 1)) (hp : pc + 1 = pc') (k : Go p e below K (T.setTop (mkF m pc' L (.int (lcmpW x y) :: S)))) : Go p e below K (T.setTop (mkF m pc L (.long y :: .long x :: S))) := by
  subst hp; exact k.of (fun _ q => XS.lcmp X.X.here X.hx rfl (X.d hd) rfl q)
theorem g_dup (X : St Z n0 p l e R s m args below meth c own nm bytes ml ret T locs cells slots h) {v : Value} (hd : decode bytes pc = .ok (.dup, 1)) (hp : pc + 1 = pc') (hc : v.category = 1) (k : Go p e below K (T.setTop (mkF m pc' L (v :: v :: S)))) : Go p e below K (T.setTop (mkF m pc L (v :: S))) := by
  subst hp; exact k.of (fun _ q => XS.dup X.X.here X.hx rfl (X.d hd) rfl hc q)
theorem g_pop (X : St Z n0 p l e R s m args below meth c own nm bytes ml ret T locs cells slots h) {v : Value} (hd : decode bytes pc = .ok (.pop, 1)) (hp : pc + 1 = pc') (hc : v.category = 1) (k : Go p e below K (T.setTop (mkF m pc' L S))) : Go p e below K (T.setTop (mkF m pc L (v :: S))) := by
  subst hp; exact k.of (fun _ q => XS.pop X.X.here X.hx rfl (X.d hd) rfl hc q)
theorem g_dup_x1 (X : St Z n0 p l e R s m args below meth c own nm bytes ml ret T locs cells slots h) {v w : Value} (hd : decode bytes pc = .ok (.dup_x1, 1)) (hp : pc + 1 = pc') (hc : v.category = 1) (hc2 : w.category = 1) (k : Go p e below K (T.setTop (mkF m pc' L (v :: w :: v :: S)))) : Go p e below K (T.setTop (mkF m pc L (v :: w :: S))) := by
  subst hp; exact k.of (fun _ q => XS.dupX1 X.X.here X.hx rfl (X.d hd) rfl hc hc2 q)
theorem g_dloadN (X : St Z n0 p l e R s m args below meth c own nm bytes ml ret T locs cells slots h) {k : Fin 4} {v : UInt64} (hd : decode bytes pc = .ok (.dload_n k, 1)) (hp : pc + 1 = pc') (hl : L[k.val]? = some (.val (.double v))) (k : Go p e below K (T.setTop (mkF m pc' L (.double v :: S)))) : Go p e below K (T.setTop (mkF m pc L S)) := by
  subst hp; exact k.of (fun _ q => XS.dloadN X.X.here X.hx rfl (X.d hd) hl q)
theorem g_dload (X : St Z n0 p l e R s m args below meth c own nm bytes ml ret T locs cells slots h) {k : Nat} {v : UInt64} (hd : decode bytes pc = .ok (.dload k, 2)) (hp : pc + 2 = pc') (hl : L[k]? = some (.val (.double v))) (k : Go p e below K (T.setTop (mkF m pc' L (.double v :: S)))) : Go p e below K (T.setTop (mkF m pc L S)) := by
  subst hp; exact k.of (fun _ q => XS.dload X.X.here X.hx rfl (X.d hd) hl q)
theorem g_dstoreN (X : St Z n0 p l e R s m args below meth c own nm bytes ml ret T locs cells slots h) {k : Fin 4} {v : UInt64} (hd : decode bytes pc = .ok (.dstore_n k, 1)) (hp : pc + 1 = pc') (hl : storeLocals L k.val (.double v) = some L') (k : Go p e below K (T.setTop (mkF m pc' L' S))) : Go p e below K (T.setTop (mkF m pc L (.double v :: S))) := by
  subst hp; exact k.of (fun _ q => XS.dstoreN X.X.here X.hx rfl (X.d hd) rfl hl q)
theorem g_dstore (X : St Z n0 p l e R s m args below meth c own nm bytes ml ret T locs cells slots h) {k : Nat} {v : UInt64} (hd : decode bytes pc = .ok (.dstore k, 2)) (hp : pc + 2 = pc') (hl : storeLocals L k (.double v) = some L') (k : Go p e below K (T.setTop (mkF m pc' L' S))) : Go p e below K (T.setTop (mkF m pc L (.double v :: S))) := by
  subst hp; exact k.of (fun _ q => XS.dstore X.X.here X.hx rfl (X.d hd) rfl hl q)
theorem g_dconst0 (X : St Z n0 p l e R s m args below meth c own nm bytes ml ret T locs cells slots h) (hd : decode bytes pc = .ok (.dconst 0, 1)) (hp : pc + 1 = pc') (k : Go p e below K (T.setTop (mkF m pc' L (.double FP.dconst0 :: S)))) : Go p e below K (T.setTop (mkF m pc L S)) := by
  subst hp; exact k.of (fun _ q => XS.dconst0 X.X.here X.hx rfl (X.d hd) rfl q)
theorem g_dconst1 (X : St Z n0 p l e R s m args below meth c own nm bytes ml ret T locs cells slots h) (hd : decode bytes pc = .ok (.dconst 1, 1)) (hp : pc + 1 = pc') (k : Go p e below K (T.setTop (mkF m pc' L (.double FP.dconst1 :: S)))) : Go p e below K (T.setTop (mkF m pc L S)) := by
  subst hp; exact k.of (fun _ q => XS.dconst1 X.X.here X.hx rfl (X.d hd) rfl q)
theorem g_i2d (X : St Z n0 p l e R s m args below meth c own nm bytes ml ret T locs cells slots h) {v : Int32} (hd : decode bytes pc = .ok (.i2d, 1)) (hp : pc + 1 = pc') (k : Go p e below K (T.setTop (mkF m pc' L (.double (FP.i2d v) :: S)))) : Go p e below K (T.setTop (mkF m pc L (.int v :: S))) := by
  subst hp; exact k.of (fun _ q => XS.i2dS X.X.here X.hx rfl (X.d hd) rfl rfl q)
theorem g_ddiv (X : St Z n0 p l e R s m args below meth c own nm bytes ml ret T locs cells slots h) {x y : UInt64} (hd : decode bytes pc = .ok (.ddiv, 1)) (hp : pc + 1 = pc') (hn : Jvm.Free.Fl.NoNaN64 (FP.ddiv x y)) (k : Go p e below K (T.setTop (mkF m pc' L (.double (FP.ddiv x y) :: S)))) : Go p e below K (T.setTop (mkF m pc L (.double y :: .double x :: S))) := by
  subst hp; exact k.of (fun _ q => XS.ddivS X.X.here X.hx rfl (X.d hd) rfl hn rfl q)
theorem g_dadd (X : St Z n0 p l e R s m args below meth c own nm bytes ml ret T locs cells slots h) {x y : UInt64} (hd : decode bytes pc = .ok (.dadd, 1)) (hp : pc + 1 = pc') (hn : Jvm.Free.Fl.NoNaN64 (FP.dadd x y)) (k : Go p e below K (T.setTop (mkF m pc' L (.double (FP.dadd x y) :: S)))) : Go p e below K (T.setTop (mkF m pc L (.double y :: .double x :: S))) := by
  subst hp; exact k.of (fun _ q => XS.daddS X.X.here X.hx rfl (X.d hd) rfl hn rfl q)
theorem g_dsub (X : St Z n0 p l e R s m args below meth c own nm bytes ml ret T locs cells slots h) {x y : UInt64} (hd : decode bytes pc = .ok (.dsub, 1)) (hp : pc + 1 = pc') (hn : Jvm.Free.Fl.NoNaN64 (FP.dsub x y)) (k : Go p e below K (T.setTop (mkF m pc' L (.double (FP.dsub x y) :: S)))) : Go p e below K (T.setTop (mkF m pc L (.double y :: .double x :: S))) := by
  subst hp; exact k.of (fun _ q => XS.dsubS X.X.here X.hx rfl (X.d hd) rfl hn rfl q)
theorem g_dmul (X : St Z n0 p l e R s m args below meth c own nm bytes ml ret T locs cells slots h) {x y : UInt64} (hd : decode bytes pc = .ok (.dmul, 1)) (hp : pc + 1 = pc') (hn : Jvm.Free.Fl.NoNaN64 (FP.dmul x y)) (k : Go p e below K (T.setTop (mkF m pc' L (.double (FP.dmul x y) :: S)))) : Go p e below K (T.setTop (mkF m pc L (.double y :: .double x :: S))) := by
  subst hp; exact k.of (fun _ q => XS.dmulS X.X.here X.hx rfl (X.d hd) rfl hn rfl q)
theorem g_dcmp (X : St Z n0 p l e R s m args below meth c own nm bytes ml ret T locs cells slots h) {x y : UInt64} {o : CmpOp} (hd : decode bytes pc = .ok (.dcmp o, 1)) (hp : pc + 1 = pc') (k : Go p e below K (T.setTop (mkF m pc' L (.int (cmpValue (FP.dcmp x y) o) :: S)))) : Go p e below K (T.setTop (mkF m pc L (.double y :: .double x :: S))) := by
  subst hp; exact k.of (fun _ q => XS.dcmpS X.X.here X.hx rfl (X.d hd) rfl rfl q)
theorem g_dneg (X : St Z n0 p l e R s m args below meth c own nm bytes ml ret T locs cells slots h) {x : UInt64} (hd : decode bytes pc = .ok (.dneg, 1)) (hp : pc + 1 = pc') (k : Go p e below K (T.setTop (mkF m pc' L (.double (FP.dneg x) :: S)))) : Go p e below K (T.setTop (mkF m pc L (.double x :: S))) := by
  subst hp; exact k.of (fun _ q => XS.dnegS X.X.here X.hx rfl (X.d hd) rfl rfl q)
theorem g_ldc2D (X : St Z n0 p l e R s m args below meth c own nm bytes ml ret T locs cells slots h) {i : Nat} {v : UInt64} (w : (Jvm.Cond.constantDouble own i v).before a0 Z = true) (hd : decode bytes pc = .ok (.ldc2_w i, 3)) (hp : pc + 3 = pc') (k : Go p e below K (T.setTop (mkF m pc' L (.double v :: S)))) : Go p e below K (T.setTop (mkF m pc L S)) := by
  subst hp; exact k.of (X.X.ldc2DoubleC X.hx X.own_ (mvT X.hZ w) (g := mkF m pc L S) rfl (X.d hd))
theorem g_goto (X : St Z n0 p l e R s m args below meth c own nm bytes ml ret T locs cells slots h) {o : Int} (hd : decode bytes pc = .ok (.goto o, 3)) (ho : (pc : Int) + o = (pt : Int)) (k : Go p e below K (T.setTop (mkF m pt L S))) : Go p e below K (T.setTop (mkF m pc L S)) :=
  k.of (fun _ q => XS.goto X.X.here X.hx rfl rfl (X.d hd) (ho ▸ Int.natCast_nonneg _) (by rw [ho]; rfl) q)
theorem g_icmp_eq_t (X : St Z n0 p l e R s m args below meth c own nm bytes ml ret T locs cells slots h) {x y : Int32} {o : Int} (hd : decode bytes pc = .ok (.if_icmp .eq o, 3)) (ho : (pc : Int) + o = (pt : Int)) (hc : x = y) (k : Go p e below K (T.setTop (mkF m pt L S))) : Go p e below K (T.setTop (mkF m pc L (.int y :: .int x :: S))) :=
  k.of (fun _ q => XS.icmpYes X.X.here X.hx rfl rfl (X.d hd) rfl ((teq hc).1) (ho ▸ Int.natCast_nonneg _) (by rw [ho]; rfl) q)
theorem g_icmp_eq_f (X : St Z n0 p l e R s m args below meth c own nm bytes ml ret T locs cells slots h) {x y : Int32} {o : Int} (hd : decode bytes pc = .ok (.if_icmp .eq o, 3)) (hp : pc + 3 = pc') (hc : ¬ x = y) (k : Go p e below K (T.setTop (mkF m pc' L S))) : Go p e below K (T.setTop (mkF m pc L (.int y :: .int x :: S))) := by
  subst hp; exact k.of (fun _ q => XS.icmpNo X.X.here X.hx rfl (X.d hd) rfl ((feq hc).1) q)
theorem g_icmp_eq (X : St Z n0 p l e R s m args below meth c own nm bytes ml ret T locs cells slots h) {x y : Int32} {o : Int} (hd : decode bytes pc = .ok (.if_icmp .eq o, 3)) (ho : (pc : Int) + o = (pt : Int)) (hp : pc + 3 = pc') (yes : x = y → Go p e below K (T.setTop (mkF m pt L S))) (no : ¬ x = y → Go p e below K (T.setTop (mkF m pc' L S))) : Go p e below K (T.setTop (mkF m pc L (.int y :: .int x :: S))) := by
  by_cases hc : x = y
  · exact g_icmp_eq_t X hd ho hc (yes hc)
  · exact g_icmp_eq_f X hd hp hc (no hc)
theorem g_if_eq_t (X : St Z n0 p l e R s m args below meth c own nm bytes ml ret T locs cells slots h) {x : Int32} {o : Int} (hd : decode bytes pc = .ok (.ifCond .eq o, 3)) (ho : (pc : Int) + o = (pt : Int)) (hc : x = 0) (k : Go p e below K (T.setTop (mkF m pt L S))) : Go p e below K (T.setTop (mkF m pc L (.int x :: S))) :=
  k.of (fun _ q => XS.ifYes X.X.here X.hx rfl rfl (X.d hd) rfl ((if0 _ _).trans ((teq hc).1)) (ho ▸ Int.natCast_nonneg _) (by rw [ho]; rfl) q)
theorem g_if_eq_f (X : St Z n0 p l e R s m args below meth c own nm bytes ml ret T locs cells slots h) {x : Int32} {o : Int} (hd : decode bytes pc = .ok (.ifCond .eq o, 3)) (hp : pc + 3 = pc') (hc : ¬ x = 0) (k : Go p e below K (T.setTop (mkF m pc' L S))) : Go p e below K (T.setTop (mkF m pc L (.int x :: S))) := by
  subst hp; exact k.of (fun _ q => XS.ifNo X.X.here X.hx rfl (X.d hd) rfl ((if0 _ _).trans ((feq hc).1)) q)
theorem g_if_eq (X : St Z n0 p l e R s m args below meth c own nm bytes ml ret T locs cells slots h) {x : Int32} {o : Int} (hd : decode bytes pc = .ok (.ifCond .eq o, 3)) (ho : (pc : Int) + o = (pt : Int)) (hp : pc + 3 = pc') (yes : x = 0 → Go p e below K (T.setTop (mkF m pt L S))) (no : ¬ x = 0 → Go p e below K (T.setTop (mkF m pc' L S))) : Go p e below K (T.setTop (mkF m pc L (.int x :: S))) := by
  by_cases hc : x = 0
  · exact g_if_eq_t X hd ho hc (yes hc)
  · exact g_if_eq_f X hd hp hc (no hc)
theorem g_icmp_ne_t (X : St Z n0 p l e R s m args below meth c own nm bytes ml ret T locs cells slots h) {x y : Int32} {o : Int} (hd : decode bytes pc = .ok (.if_icmp .ne o, 3)) (ho : (pc : Int) + o = (pt : Int)) (hc : ¬ x = y) (k : Go p e below K (T.setTop (mkF m pt L S))) : Go p e below K (T.setTop (mkF m pc L (.int y :: .int x :: S))) :=
  k.of (fun _ q => XS.icmpYes X.X.here X.hx rfl rfl (X.d hd) rfl ((feq hc).2) (ho ▸ Int.natCast_nonneg _) (by rw [ho]; rfl) q)
theorem g_icmp_ne_f (X : St Z n0 p l e R s m args below meth c own nm bytes ml ret T locs cells slots h) {x y : Int32} {o : Int} (hd : decode bytes pc = .ok (.if_icmp .ne o, 3)) (hp : pc + 3 = pc') (hc : x = y) (k : Go p e below K (T.setTop (mkF m pc' L S))) : Go p e below K (T.setTop (mkF m pc L (.int y :: .int x :: S))) := by
  subst hp; exact k.of (fun _ q => XS.icmpNo X.X.here X.hx rfl (X.d hd) rfl ((teq hc).2) q)
theorem g_icmp_ne (X : St Z n0 p l e R s m args below meth c own nm bytes ml ret T locs cells slots h) {x y : Int32} {o : Int} (hd : decode bytes pc = .ok (.if_icmp .ne o, 3)) (ho : (pc : Int) + o = (pt : Int)) (hp : pc + 3 = pc') (yes : ¬ x = y → Go p e below K (T.setTop (mkF m pt L S))) (no : x = y → Go p e below K (T.setTop (mkF m pc' L S))) : Go p e below K (T.setTop (mkF m pc L (.int y :: .int x :: S))) := by
  by_cases hc : x = y
  · exact g_icmp_ne_f X hd hp hc (no hc)
  · exact g_icmp_ne_t X hd ho hc (yes hc)
theorem g_if_ne_t (X : St Z n0 p l e R s m args below meth c own nm bytes ml ret T locs cells slots h) {x : Int32} {o : Int} (hd : decode bytes pc = .ok (.ifCond .ne o, 3)) (ho : (pc : Int) + o = (pt : Int)) (hc : ¬ x = 0) (k : Go p e below K (T.setTop (mkF m pt L S))) : Go p e below K (T.setTop (mkF m pc L (.int x :: S))) :=
  k.of (fun _ q => XS.ifYes X.X.here X.hx rfl rfl (X.d hd) rfl ((if0 _ _).trans ((feq hc).2)) (ho ▸ Int.natCast_nonneg _) (by rw [ho]; rfl) q)
theorem g_if_ne_f (X : St Z n0 p l e R s m args below meth c own nm bytes ml ret T locs cells slots h) {x : Int32} {o : Int} (hd : decode bytes pc = .ok (.ifCond .ne o, 3)) (hp : pc + 3 = pc') (hc : x = 0) (k : Go p e below K (T.setTop (mkF m pc' L S))) : Go p e below K (T.setTop (mkF m pc L (.int x :: S))) := by
  subst hp; exact k.of (fun _ q => XS.ifNo X.X.here X.hx rfl (X.d hd) rfl ((if0 _ _).trans ((teq hc).2)) q)
theorem g_if_ne (X : St Z n0 p l e R s m args below meth c own nm bytes ml ret T locs cells slots h) {x : Int32} {o : Int} (hd : decode bytes pc = .ok (.ifCond .ne o, 3)) (ho : (pc : Int) + o = (pt : Int)) (hp : pc + 3 = pc') (yes : ¬ x = 0 → Go p e below K (T.setTop (mkF m pt L S))) (no : x = 0 → Go p e below K (T.setTop (mkF m pc' L S))) : Go p e below K (T.setTop (mkF m pc L (.int x :: S))) := by
  by_cases hc : x = 0
  · exact g_if_ne_f X hd hp hc (no hc)
  · exact g_if_ne_t X hd ho hc (yes hc)
theorem g_icmp_lt_t (X : St Z n0 p l e R s m args below meth c own nm bytes ml ret T locs cells slots h) {x y : Int32} {o : Int} (hd : decode bytes pc = .ok (.if_icmp .lt o, 3)) (ho : (pc : Int) + o = (pt : Int)) (hc : x < y) (k : Go p e below K (T.setTop (mkF m pt L S))) : Go p e below K (T.setTop (mkF m pc L (.int y :: .int x :: S))) :=
  k.of (fun _ q => XS.icmpYes X.X.here X.hx rfl rfl (X.d hd) rfl ((tlt hc).1) (ho ▸ Int.natCast_nonneg _) (by rw [ho]; rfl) q)
theorem g_icmp_lt_f (X : St Z n0 p l e R s m args below meth c own nm bytes ml ret T locs cells slots h) {x y : Int32} {o : Int} (hd : decode bytes pc = .ok (.if_icmp .lt o, 3)) (hp : pc + 3 = pc') (hc : ¬ x < y) (k : Go p e below K (T.setTop (mkF m pc' L S))) : Go p e below K (T.setTop (mkF m pc L (.int y :: .int x :: S))) := by
  subst hp; exact k.of (fun _ q => XS.icmpNo X.X.here X.hx rfl (X.d hd) rfl ((flt hc).1) q)
theorem g_icmp_lt (X : St Z n0 p l e R s m args below meth c own nm bytes ml ret T locs cells slots h) {x y : Int32} {o : Int} (hd : decode bytes pc = .ok (.if_icmp .lt o, 3)) (ho : (pc : Int) + o = (pt : Int)) (hp : pc + 3 = pc') (yes : x < y → Go p e below K (T.setTop (mkF m pt L S))) (no : ¬ x < y → Go p e below K (T.setTop (mkF m pc' L S))) : Go p e below K (T.setTop (mkF m pc L (.int y :: .int x :: S))) := by
  by_cases hc : x < y
  · exact g_icmp_lt_t X hd ho hc (yes hc)
  · exact g_icmp_lt_f X hd hp hc (no hc)
theorem g_if_lt_t (X : St Z n0 p l e R s m args below meth c own nm bytes ml ret T locs cells slots h) {x : Int32} {o : Int} (hd : decode bytes pc = .ok (.ifCond .lt o, 3)) (ho : (pc : Int) + o = (pt : Int)) (hc : x < 0) (k : Go p e below K (T.setTop (mkF m pt L S))) : Go p e below K (T.setTop (mkF m pc L (.int x :: S))) :=
  k.of (fun _ q => XS.ifYes X.X.here X.hx rfl rfl (X.d hd) rfl ((if0 _ _).trans ((tlt hc).1)) (ho ▸ Int.natCast_nonneg _) (by rw [ho]; rfl) q)
theorem g_if_lt_f (X : St Z n0 p l e R s m args below meth c own nm bytes ml ret T locs cells slots h) {x : Int32} {o : Int} (hd : decode bytes pc = .ok (.ifCond .lt o, 3)) (hp : pc + 3 = pc') (hc : ¬ x < 0) (k : Go p e below K (T.setTop (mkF m pc' L S))) : Go p e below K (T.setTop (mkF m pc L (.int x :: S))) := by
  subst hp; exact k.of (fun _ q => XS.ifNo X.X.here X.hx rfl (X.d hd) rfl ((if0 _ _).trans ((flt hc).1)) q)
theorem g_if_lt (X : St Z n0 p l e R s m args below meth c own nm bytes ml ret T locs cells slots h) {x : Int32} {o : Int} (hd : decode bytes pc = .ok (.ifCond .lt o, 3)) (ho : (pc : Int) + o = (pt : Int)) (hp : pc + 3 = pc') (yes : x < 0 → Go p e below K (T.setTop (mkF m pt L S))) (no : ¬ x < 0 → Go p e below K (T.setTop (mkF m pc' L S))) : Go p e below K (T.setTop (mkF m pc L (.int x :: S))) := by
  by_cases hc : x < 0
  · exact g_if_lt_t X hd ho hc (yes hc)
  · exact g_if_lt_f X hd hp hc (no hc)
theorem g_icmp_ge_t (X : St Z n0 p l e R s m args below meth c own nm bytes ml ret T locs cells slots h) {x y : Int32} {o : Int} (hd : decode bytes pc = .ok (.if_icmp .ge o, 3)) (ho : (pc : Int) + o = (pt : Int)) (hc : ¬ x < y) (k : Go p e below K (T.setTop (mkF m pt L S))) : Go p e below K (T.setTop (mkF m pc L (.int y :: .int x :: S))) :=
  k.of (fun _ q => XS.icmpYes X.X.here X.hx rfl rfl (X.d hd) rfl ((flt hc).2.1) (ho ▸ Int.natCast_nonneg _) (by rw [ho]; rfl) q)
theorem g_icmp_ge_f (X : St Z n0 p l e R s m args below meth c own nm bytes ml ret T locs cells slots h) {x y : Int32} {o : Int} (hd : decode bytes pc = .ok (.if_icmp .ge o, 3)) (hp : pc + 3 = pc') (hc : x < y) (k : Go p e below K (T.setTop (mkF m pc' L S))) : Go p e below K (T.setTop (mkF m pc L (.int y :: .int x :: S))) := by
  subst hp; exact k.of (fun _ q => XS.icmpNo X.X.here X.hx rfl (X.d hd) rfl ((tlt hc).2.1) q)
theorem g_icmp_ge (X : St Z n0 p l e R s m args below meth c own nm bytes ml ret T locs cells slots h) {x y : Int32} {o : Int} (hd : decode bytes pc = .ok (.if_icmp .ge o, 3)) (ho : (pc : Int) + o = (pt : Int)) (hp : pc + 3 = pc') (yes : ¬ x < y → Go p e below K (T.setTop (mkF m pt L S))) (no : x < y → Go p e below K (T.setTop (mkF m pc' L S))) : Go p e below K (T.setTop (mkF m pc L (.int y :: .int x :: S))) := by
  by_cases hc : x < y
  · exact g_icmp_ge_f X hd hp hc (no hc)
  · exact g_icmp_ge_t X hd ho hc (yes hc)
theorem g_if_ge_t (X : St Z n0 p l e R s m args below meth c own nm bytes ml ret T locs cells slots h) {x : Int32} {o : Int} (hd : decode bytes pc = .ok (.ifCond .ge o, 3)) (ho : (pc : Int) + o = (pt : Int)) (hc : ¬ x < 0) (k : Go p e below K (T.setTop (mkF m pt L S))) : Go p e below K (T.setTop (mkF m pc L (.int x :: S))) :=
  k.of (fun _ q => XS.ifYes X.X.here X.hx rfl rfl (X.d hd) rfl ((if0 _ _).trans ((flt hc).2.1)) (ho ▸ Int.natCast_nonneg _) (by rw [ho]; rfl) q)
theorem g_if_ge_f (X : St Z n0 p l e R s m args below meth c own nm bytes ml ret T locs cells slots h) {x : Int32} {o : Int} (hd : decode bytes pc = .ok (.ifCond .ge o, 3)) (hp : pc + 3 = pc') (hc : x < 0) (k : Go p e below K (T.setTop (mkF m pc' L S))) : Go p e below K (T.setTop (mkF m pc L (.int x :: S))) := by
  subst hp; exact k.of (fun _ q => XS.ifNo X.X.here X.hx rfl (X.d hd) rfl ((if0 _ _).trans ((tlt hc).2.1)) q)
theorem g_if_ge (X : St Z n0 p l e R s m args below meth c own nm bytes ml ret T locs cells slots h) {x : Int32} {o : Int} (hd : decode bytes pc = .ok (.ifCond .ge o, 3)) (ho : (pc : Int) + o = (pt : Int)) (hp : pc + 3 = pc') (yes : ¬ x < 0 → Go p e below K (T.setTop (mkF m pt L S))) (no : x < 0 → Go p e below K (T.setTop (mkF m pc' L S))) : Go p e below K (T.setTop (mkF m pc L (.int x :: S))) := by
  by_cases hc : x < 0
  · exact g_if_ge_f X hd hp hc (no hc)
  · exact g_if_ge_t X hd ho hc (yes hc)
theorem g_icmp_gt_t (X : St Z n0 p l e R s m args below meth c own nm bytes ml ret T locs cells slots h) {x y : Int32} {o : Int} (hd : decode bytes pc = .ok (.if_icmp .gt o, 3)) (ho : (pc : Int) + o = (pt : Int)) (hc : y < x) (k : Go p e below K (T.setTop (mkF m pt L S))) : Go p e below K (T.setTop (mkF m pc L (.int y :: .int x :: S))) :=
  k.of (fun _ q => XS.icmpYes X.X.here X.hx rfl rfl (X.d hd) rfl ((tlt hc).2.2.1) (ho ▸ Int.natCast_nonneg _) (by rw [ho]; rfl) q)
theorem g_icmp_gt_f (X : St Z n0 p l e R s m args below meth c own nm bytes ml ret T locs cells slots h) {x y : Int32} {o : Int} (hd : decode bytes pc = .ok (.if_icmp .gt o, 3)) (hp : pc + 3 = pc') (hc : ¬ y < x) (k : Go p e below K (T.setTop (mkF m pc' L S))) : Go p e below K (T.setTop (mkF m pc L (.int y :: .int x :: S))) := by
  subst hp; exact k.of (fun _ q => XS.icmpNo X.X.here X.hx rfl (X.d hd) rfl ((flt hc).2.2.1) q)
theorem g_icmp_gt (X : St Z n0 p l e R s m args below meth c own nm bytes ml ret T locs cells slots h) {x y : Int32} {o : Int} (hd : decode bytes pc = .ok (.if_icmp .gt o, 3)) (ho : (pc : Int) + o = (pt : Int)) (hp : pc + 3 = pc') (yes : y < x → Go p e below K (T.setTop (mkF m pt L S))) (no : ¬ y < x → Go p e below K (T.setTop (mkF m pc' L S))) : Go p e below K (T.setTop (mkF m pc L (.int y :: .int x :: S))) := by
  by_cases hc : y < x
  · exact g_icmp_gt_t X hd ho hc (yes hc)
  · exact g_icmp_gt_f X hd hp hc (no hc)
theorem g_if_gt_t (X : St Z n0 p l e R s m args below meth c own nm bytes ml ret T locs cells slots h) {x : Int32} {o : Int} (hd : decode bytes pc = .ok (.ifCond .gt o, 3)) (ho : (pc : Int) + o = (pt : Int)) (hc : 0 < x) (k : Go p e below K (T.setTop (mkF m pt L S))) : Go p e below K (T.setTop (mkF m pc L (.int x :: S))) :=
  k.of (fun _ q => XS.ifYes X.X.here X.hx rfl rfl (X.d hd) rfl ((if0 _ _).trans ((tlt hc).2.2.1)) (ho ▸ Int.natCast_nonneg _) (by rw [ho]; rfl) q)
theorem g_if_gt_f (X : St Z n0 p l e R s m args below meth c own nm bytes ml ret T locs cells slots h) {x : Int32} {o : Int} (hd : decode bytes pc = .ok (.ifCond .gt o, 3)) (hp : pc + 3 = pc') (hc : ¬ 0 < x) (k : Go p e below K (T.setTop (mkF m pc' L S))) : Go p e below K (T.setTop (mkF m pc L (.int x :: S))) := by
  subst hp; exact k.of (fun _ q => XS.ifNo X.X.here X.hx rfl (X.d hd) rfl ((if0 _ _).trans ((flt hc).2.2.1)) q)
theorem g_if_gt (X : St Z n0 p l e R s m args below meth c own nm bytes ml ret T locs cells slots h) {x : Int32} {o : Int} (hd : decode bytes pc = .ok (.ifCond .gt o, 3)) (ho : (pc : Int) + o = (pt : Int)) (hp : pc + 3 = pc') (yes : 0 < x → Go p e below K (T.setTop (mkF m pt L S))) (no : ¬ 0 < x → Go p e below K (T.setTop (mkF m pc' L S))) : Go p e below K (T.setTop (mkF m pc L (.int x :: S))) := by
  by_cases hc : 0 < x
  · exact g_if_gt_t X hd ho hc (yes hc)
  · exact g_if_gt_f X hd hp hc (no hc)
theorem g_icmp_le_t (X : St Z n0 p l e R s m args below meth c own nm bytes ml ret T locs cells slots h) {x y : Int32} {o : Int} (hd : decode bytes pc = .ok (.if_icmp .le o, 3)) (ho : (pc : Int) + o = (pt : Int)) (hc : ¬ y < x) (k : Go p e below K (T.setTop (mkF m pt L S))) : Go p e below K (T.setTop (mkF m pc L (.int y :: .int x :: S))) :=
  k.of (fun _ q => XS.icmpYes X.X.here X.hx rfl rfl (X.d hd) rfl ((flt hc).2.2.2) (ho ▸ Int.natCast_nonneg _) (by rw [ho]; rfl) q)
theorem g_icmp_le_f (X : St Z n0 p l e R s m args below meth c own nm bytes ml ret T locs cells slots h) {x y : Int32} {o : Int} (hd : decode bytes pc = .ok (.if_icmp .le o, 3)) (hp : pc + 3 = pc') (hc : y < x) (k : Go p e below K (T.setTop (mkF m pc' L S))) : Go p e below K (T.setTop (mkF m pc L (.int y :: .int x :: S))) := by
  subst hp; exact k.of (fun _ q => XS.icmpNo X.X.here X.hx rfl (X.d hd) rfl ((tlt hc).2.2.2) q)
theorem g_icmp_le (X : St Z n0 p l e R s m args below meth c own nm bytes ml ret T locs cells slots h) {x y : Int32} {o : Int} (hd : decode bytes pc = .ok (.if_icmp .le o, 3)) (ho : (pc : Int) + o = (pt : Int)) (hp : pc + 3 = pc') (yes : ¬ y < x → Go p e below K (T.setTop (mkF m pt L S))) (no : y < x → Go p e below K (T.setTop (mkF m pc' L S))) : Go p e below K (T.setTop (mkF m pc L (.int y :: .int x :: S))) := by
  by_cases hc : y < x
  · exact g_icmp_le_f X hd hp hc (no hc)
  · exact g_icmp_le_t X hd ho hc (yes hc)
theorem g_if_le_t (X : St Z n0 p l e R s m args below meth c own nm bytes ml ret T locs cells slots h) {x : Int32} {o : Int} (hd : decode bytes pc = .ok (.ifCond .le o, 3)) (ho : (pc : Int) + o = (pt : Int)) (hc : ¬ 0 < x) (k : Go p e below K (T.setTop (mkF m pt L S))) : Go p e below K (T.setTop (mkF m pc L (.int x :: S))) :=
  k.of (fun _ q => XS.ifYes X.X.here X.hx rfl rfl (X.d hd) rfl ((if0 _ _).trans ((flt hc).2.2.2)) (ho ▸ Int.natCast_nonneg _) (by rw [ho]; rfl) q)
theorem g_if_le_f (X : St Z n0 p l e R s m args below meth c own nm bytes ml ret T locs cells slots h) {x : Int32} {o : Int} (hd : decode bytes pc = .ok (.ifCond .le o, 3)) (hp : pc + 3 = pc') (hc : 0 < x) (k : Go p e below K (T.setTop (mkF m pc' L S))) : Go p e below K (T.setTop (mkF m pc L (.int x :: S))) := by
  subst hp; exact k.of (fun _ q => XS.ifNo X.X.here X.hx rfl (X.d hd) rfl ((if0 _ _).trans ((tlt hc).2.2.2)) q)
theorem g_if_le (X : St Z n0 p l e R s m args below meth c own nm bytes ml ret T locs cells slots h) {x : Int32} {o : Int} (hd : decode bytes pc = .ok (.ifCond .le o, 3)) (ho : (pc : Int) + o = (pt : Int)) (hp : pc + 3 = pc') (yes : ¬ 0 < x → Go p e below K (T.setTop (mkF m pt L S))) (no : 0 < x → Go p e below K (T.setTop (mkF m pc' L S))) : Go p e below K (T.setTop (mkF m pc L (.int x :: S))) := by
  by_cases hc : 0 < x
  · exact g_if_le_f X hd hp hc (no hc)
  · exact g_if_le_t X hd ho hc (yes hc)
theorem g_lcmp_eq (X : St Z n0 p l e R s m args below meth c own nm bytes ml ret T locs cells slots h) {x y : Int64} {o : Int} (hd : decode bytes pc = .ok (.lcmp, 1)) (hd' : decode bytes (pc + 1) = .ok (.ifCond .eq o, 3)) (ho : ((pc + 1 : Nat) : Int) + o = (pt : Int)) (hp : pc + 1 + 3 = pc') (yes : x = y → Go p e below K (T.setTop (mkF m pt L S))) (no : ¬ x = y → Go p e below K (T.setTop (mkF m pc' L S))) : Go p e below K (T.setTop (mkF m pc L (.long y :: .long x :: S))) := by
  refine g_lcmp X hd rfl ?_
  refine g_if_eq X hd' ho hp (fun q => yes ?_) (fun q => no ?_)
  · rwa [lw_eq] at q
  · rwa [lw_eq] at q
theorem g_lcmp_ne (X : St Z n0 p l e R s m args below meth c own nm bytes ml ret T locs cells slots h) {x y : Int64} {o : Int} (hd : decode bytes pc = .ok (.lcmp, 1)) (hd' : decode bytes (pc + 1) = .ok (.ifCond .ne o, 3)) (ho : ((pc + 1 : Nat) : Int) + o = (pt : Int)) (hp : pc + 1 + 3 = pc') (yes : ¬ x = y → Go p e below K (T.setTop (mkF m pt L S))) (no : x = y → Go p e below K (T.setTop (mkF m pc' L S))) : Go p e below K (T.setTop (mkF m pc L (.long y :: .long x :: S))) := by
  refine g_lcmp X hd rfl ?_
  refine g_if_ne X hd' ho hp (fun q => yes ?_) (fun q => no ?_)
  · rwa [lw_eq] at q
  · rwa [lw_eq] at q
theorem g_lcmp_lt (X : St Z n0 p l e R s m args below meth c own nm bytes ml ret T locs cells slots h) {x y : Int64} {o : Int} (hd : decode bytes pc = .ok (.lcmp, 1)) (hd' : decode bytes (pc + 1) = .ok (.ifCond .lt o, 3)) (ho : ((pc + 1 : Nat) : Int) + o = (pt : Int)) (hp : pc + 1 + 3 = pc') (yes : x < y → Go p e below K (T.setTop (mkF m pt L S))) (no : ¬ x < y → Go p e below K (T.setTop (mkF m pc' L S))) : Go p e below K (T.setTop (mkF m pc L (.long y :: .long x :: S))) := by
  refine g_lcmp X hd rfl ?_
  refine g_if_lt X hd' ho hp (fun q => yes ?_) (fun q => no ?_)
  · rwa [lw_lt] at q
  · rwa [lw_lt] at q
theorem g_lcmp_ge (X : St Z n0 p l e R s m args below meth c own nm bytes ml ret T locs cells slots h) {x y : Int64} {o : Int} (hd : decode bytes pc = .ok (.lcmp, 1)) (hd' : decode bytes (pc + 1) = .ok (.ifCond .ge o, 3)) (ho : ((pc + 1 : Nat) : Int) + o = (pt : Int)) (hp : pc + 1 + 3 = pc') (yes : ¬ x < y → Go p e below K (T.setTop (mkF m pt L S))) (no : x < y → Go p e below K (T.setTop (mkF m pc' L S))) : Go p e below K (T.setTop (mkF m pc L (.long y :: .long x :: S))) := by
  refine g_lcmp X hd rfl ?_
  refine g_if_ge X hd' ho hp (fun q => yes ?_) (fun q => no ?_)
  · rwa [lw_lt] at q
  · rwa [lw_lt] at q
theorem g_lcmp_gt (X : St Z n0 p l e R s m args below meth c own nm bytes ml ret T locs cells slots h) {x y : Int64} {o : Int} (hd : decode bytes pc = .ok (.lcmp, 1)) (hd' : decode bytes (pc + 1) = .ok (.ifCond .gt o, 3)) (ho : ((pc + 1 : Nat) : Int) + o = (pt : Int)) (hp : pc + 1 + 3 = pc') (yes : y < x → Go p e below K (T.setTop (mkF m pt L S))) (no : ¬ y < x → Go p e below K (T.setTop (mkF m pc' L S))) : Go p e below K (T.setTop (mkF m pc L (.long y :: .long x :: S))) := by
  refine g_lcmp X hd rfl ?_
  refine g_if_gt X hd' ho hp (fun q => yes ?_) (fun q => no ?_)
  · rwa [lw_gt] at q
  · rwa [lw_gt] at q
theorem g_lcmp_le (X : St Z n0 p l e R s m args below meth c own nm bytes ml ret T locs cells slots h) {x y : Int64} {o : Int} (hd : decode bytes pc = .ok (.lcmp, 1)) (hd' : decode bytes (pc + 1) = .ok (.ifCond .le o, 3)) (ho : ((pc + 1 : Nat) : Int) + o = (pt : Int)) (hp : pc + 1 + 3 = pc') (yes : ¬ y < x → Go p e below K (T.setTop (mkF m pt L S))) (no : y < x → Go p e below K (T.setTop (mkF m pc' L S))) : Go p e below K (T.setTop (mkF m pc L (.long y :: .long x :: S))) := by
  refine g_lcmp X hd rfl ?_
  refine g_if_le X hd' ho hp (fun q => yes ?_) (fun q => no ?_)
  · rwa [lw_gt] at q
  · rwa [lw_gt] at q
theorem g_ifnull_t (X : St Z n0 p l e R s m args below meth c own nm bytes ml ret T locs cells slots h) {o : Int} (hd : decode bytes pc = .ok (.ifnull o, 3)) (ho : (pc : Int) + o = (pt : Int)) (k : Go p e below K (T.setTop (mkF m pt L S))) : Go p e below K (T.setTop (mkF m pc L (.null :: S))) :=
  k.of (fun _ q => XS.ifnullYes X.X.here X.hx rfl rfl (X.d hd) rfl (ho ▸ Int.natCast_nonneg _) (by rw [ho]; rfl) q)
theorem g_ifnull_f (X : St Z n0 p l e R s m args below meth c own nm bytes ml ret T locs cells slots h) {o : Int} {a : Addr} (hd : decode bytes pc = .ok (.ifnull o, 3)) (hp : pc + 3 = pc') (k : Go p e below K (T.setTop (mkF m pc' L S))) : Go p e below K (T.setTop (mkF m pc L (.ref a :: S))) := by
  subst hp; exact k.of (fun _ q => XS.ifnullNo X.X.here X.hx rfl (X.d hd) rfl q)
theorem g_ifnonnull_t (X : St Z n0 p l e R s m args below meth c own nm bytes ml ret T locs cells slots h) {o : Int} {a : Addr} (hd : decode bytes pc = .ok (.ifnonnull o, 3)) (ho : (pc : Int) + o = (pt : Int)) (k : Go p e below K (T.setTop (mkF m pt L S))) : Go p e below K (T.setTop (mkF m pc L (.ref a :: S))) :=
  k.of (fun _ q => XS.ifnonnullYes X.X.here X.hx rfl rfl (X.d hd) rfl (ho ▸ Int.natCast_nonneg _) (by rw [ho]; rfl) q)
theorem g_ifnonnull_f (X : St Z n0 p l e R s m args below meth c own nm bytes ml ret T locs cells slots h) {o : Int} (hd : decode bytes pc = .ok (.ifnonnull o, 3)) (hp : pc + 3 = pc') (k : Go p e below K (T.setTop (mkF m pc' L S))) : Go p e below K (T.setTop (mkF m pc L (.null :: S))) := by
  subst hp; exact k.of (fun _ q => XS.ifnonnullNo X.X.here X.hx rfl (X.d hd) rfl q)
theorem g_acmp (X : St Z n0 p l e R s m args below meth c own nm bytes ml ret T locs cells slots h) {cd : ACond} {x y : Value} {o : Int} {same : Bool} (h1 : x.isRef = true) (h2 : y.isRef = true) (hd : decode bytes pc = .ok (.if_acmp cd o, 3)) (ho : (pc : Int) + o = (pt : Int)) (hq : decide (x = y) = same) (hp : pc' = if acV cd same = true then pt else pc + 3) (k : Go p e below K (T.setTop (mkF m pc' L S))) : Go p e below K (T.setTop (mkF m pc L (y :: x :: S))) :=
  k.of (fun _ q => Jvm.RoadKit.acmp X.X X.hx rfl h1 h2 rfl (X.d hd) rfl hq (ho ▸ Int.natCast_nonneg _) (by rw [hp, ho]; rfl) q)
theorem g_acmp_eq (X : St Z n0 p l e R s m args below meth c own nm bytes ml ret T locs cells slots h) {a b : Addr} {o : Int} (hd : decode bytes pc = .ok (.if_acmp .eq o, 3)) (ho : (pc : Int) + o = (pt : Int)) (hp : pc + 3 = pc') (yes : a = b → Go p e below K (T.setTop (mkF m pt L S))) (no : ¬ a = b → Go p e below K (T.setTop (mkF m pc' L S))) : Go p e below K (T.setTop (mkF m pc L (.ref b :: .ref a :: S))) := by
  subst hp
  by_cases hc : a = b
  · exact g_acmp X (same := true) rfl rfl hd ho (decide_eq_true (congrArg Value.ref hc)) rfl (yes hc)
  · exact g_acmp X (same := false) rfl rfl hd ho (decide_eq_false fun q => hc (Value.ref.inj q)) rfl (no hc)
theorem g_acmp_ne (X : St Z n0 p l e R s m args below meth c own nm bytes ml ret T locs cells slots h) {a b : Addr} {o : Int} (hd : decode bytes pc = .ok (.if_acmp .ne o, 3)) (ho : (pc : Int) + o = (pt : Int)) (hp : pc + 3 = pc') (yes : ¬ a = b → Go p e below K (T.setTop (mkF m pt L S))) (no : a = b → Go p e below K (T.setTop (mkF m pc' L S))) : Go p e below K (T.setTop (mkF m pc L (.ref b :: .ref a :: S))) := by
  subst hp
  by_cases hc : a = b
  · exact g_acmp X (same := true) rfl rfl hd ho (decide_eq_true (congrArg Value.ref hc)) rfl (no hc)
  · exact g_acmp X (same := false) rfl rfl hd ho (decide_eq_false fun q => hc (Value.ref.inj q)) rfl (yes hc)
theorem g_ldc (X : St Z n0 p l e R s m args below meth c own nm bytes ml ret T locs cells slots h) {i : Nat} {v : Int32} (w : (Jvm.Cond.constant own i v).before a0 Z = true) (hd : decode bytes pc = .ok (.ldc i, 2)) (hp : pc + 2 = pc') (k : Go p e below K (T.setTop (mkF m pc' L (.int v :: S)))) : Go p e below K (T.setTop (mkF m pc L S)) := by
  subst hp; exact k.of (X.X.ldcInt X.hx X.own_ (mvT X.hZ w) (g := mkF m pc L S) rfl (X.d hd))
theorem g_ldc2 (X : St Z n0 p l e R s m args below meth c own nm bytes ml ret T locs cells slots h) {i : Nat} {v : Int64} (w : (Jvm.Cond.constantLong own i v).before a0 Z = true) (hd : decode bytes pc = .ok (.ldc2_w i, 3)) (hp : pc + 3 = pc') (k : Go p e below K (T.setTop (mkF m pc' L (.long v :: S)))) : Go p e below K (T.setTop (mkF m pc L S)) := by
  subst hp; exact k.of (X.X.ldc2Long X.hx X.own_ (mvT X.hZ w) (g := mkF m pc L S) rfl (X.d hd))
theorem g_getF (X : St Z n0 p l e R s m args below meth c own nm bytes ml ret T locs cells slots h) {R0 O n d host : String} {i : Nat} {a : Addr} {v : Value} (w : (Jvm.Cond.fieldLink own i R0 n d).before a0 Z = true ∨ (Jvm.Cond.fieldLinkNest own i R0 n d host).before a0 Z = true) (via : Via Z R0 O n d) (F : Fld Z h a O n d v) (hd : decode bytes pc = .ok (.getfield i, 3)) (hp : pc + 3 = pc') (k : ∀ T', St Z n0 p l e R s m args below meth c own nm bytes ml ret T' locs cells slots h → Go p e below K (T'.setTop (mkF m pc' L (v :: S)))) : Go p e below K (T.setTop (mkF m pc L (.ref a :: S))) := by
  obtain ⟨T', X', e', st'⟩ := getF X.X X.hx X.hZ X.own_ w via X.eT F (g := mkF m pc L (.ref a :: S)) rfl rfl (X.d hd)
  subst hp; exact (k T' (X.to X' e' X.fr X.old)).of st'
theorem g_getS (X : St Z n0 p l e R s m args below meth c own nm bytes ml ret T locs cells slots h) {O n d : String} {i : Nat} {v : Value} (w : (Jvm.Cond.fieldLink own i O n d).before a0 Z = true) (F : Sta Z h O n d v) (hd : decode bytes pc = .ok (.getstatic i, 3)) (hp : pc + 3 = pc') (k : ∀ T', St Z n0 p l e R s m args below meth c own nm bytes ml ret T' locs cells slots h → Go p e below K (T'.setTop (mkF m pc' L (v :: S)))) : Go p e below K (T.setTop (mkF m pc L S)) := by
  obtain ⟨T', X', e', st'⟩ := getS X.X X.hx X.hZ (host := "") X.own_ w Via.refl X.eT F (g := mkF m pc L S) rfl (X.d hd)
  subst hp; exact (k T' (X.to X' e' X.fr X.old)).of st'
theorem g_putF (X : St Z n0 p l e R s m args below meth c own nm bytes ml ret T locs cells slots h) {R0 O n d host C : String} {i kk : Nat} {ty : FieldType} {a : Addr} {v old : Value} (w : (Jvm.Cond.fieldLink own i R0 n d).before a0 Z = true ∨ (Jvm.Cond.fieldLinkNest own i R0 n d host).before a0 Z = true) (via : Via Z R0 O n d) (F : Fld Z h a O n d old) (E : Exa Z h a C)
    (La : (Jvm.Cond.lays C O n d).before a0 Z = true ∨ ((Jvm.Cond.laysFinal C O n d).before a0 Z = true ∧ own = O ∧ nm = "<init>")) (wi : (Jvm.Cond.instantiable C kk).before a0 Z = true) (hty : parseFieldDescriptor d = some ty) (hn : narrow ty v = v) (hf : fits ty v = true) (ga : n0 ≤ a) (hd : decode bytes pc = .ok (.putfield i, 3)) (hp : pc + 3 = pc') (k : ∀ T' h', St Z n0 p l e R s m args below meth c own nm bytes ml ret T' (locs ++ [⟨a, Jvm.RoadKit.slotOf Z O n d⟩]) cells slots h' → Wr h h' a (Jvm.RoadKit.slotOf Z O n d) v → Go p e below K (T'.setTop (mkF m pc' L S))) : Go p e below K (T.setTop (mkF m pc L (v :: .ref a :: S))) := by
  obtain ⟨T', h', X', e', W, st'⟩ := putF X.X X.hx X.hZ X.own_ w via X.eT F E (La.imp id fun q => ⟨q.1, q.2.1, X.nm_.trans q.2.2⟩) wi hty hn hf (g := mkF m pc L (v :: .ref a :: S)) rfl rfl (X.d hd)
  subst hp; exact (k T' h' (X.to X' e' (Fr.snoc X' X.fr ga) (X.old.wr W ga)) W).of st'
theorem g_putFN (X : St Z n0 p l e R s m args below meth c own nm bytes ml ret T locs cells slots h) {R0 O n d C : String} {i kk : Nat} {ty : FieldType} {a : Addr} {v v' old : Value} (w : (Jvm.Cond.fieldLink own i R0 n d).before a0 Z = true) (via : Via Z R0 O n d) (F : Fld Z h a O n d old) (E : Exa Z h a C)
    (La : (Jvm.Cond.lays C O n d).before a0 Z = true ∨ ((Jvm.Cond.laysFinal C O n d).before a0 Z = true ∧ own = O ∧ nm = "<init>")) (wi : (Jvm.Cond.instantiable C kk).before a0 Z = true) (hty : parseFieldDescriptor d = some ty) (hn : narrow ty v = v') (hf : fits ty v' = true) (ga : n0 ≤ a) (hd : decode bytes pc = .ok (.putfield i, 3)) (hp : pc + 3 = pc') (k : ∀ T' h', St Z n0 p l e R s m args below meth c own nm bytes ml ret T' (locs ++ [⟨a, Jvm.RoadKit.slotOf Z O n d⟩]) cells slots h' → Wr h h' a (Jvm.RoadKit.slotOf Z O n d) v' → Go p e below K (T'.setTop (mkF m pc' L S))) : Go p e below K (T.setTop (mkF m pc L (v :: .ref a :: S))) := by
  obtain ⟨T', h', X', e', W, st'⟩ := putFN X.X X.hx X.hZ X.own_ w via X.eT F E (La.imp id fun q => ⟨q.1, q.2.1, X.nm_.trans q.2.2⟩) wi hty hn hf (g := mkF m pc L (v :: .ref a :: S)) rfl rfl (X.d hd)
  subst hp; exact (k T' h' (X.to X' e' (Fr.snoc X' X.fr ga) (X.old.wr W ga)) W).of st'
theorem g_new (X : St Z n0 p l e R s m args below meth c own nm bytes ml ret T locs cells slots h) {C : String} {i n : Nat} (w : (Jvm.Cond.classLink own i C).before a0 Z = true) (wi : (Jvm.Cond.instantiable C n).before a0 Z = true) (wz : (Jvm.Cond.initialized C).before a0 Z = true) (hd : decode bytes pc = .ok (.new i, 3)) (hp : pc + 3 = pc') (hc : cells + 1 ≤ R.cells) (hl : slots + n ≤ R.slots)
    (k : ∀ T' h' a, St Z n0 p l e R s m args below meth c own nm bytes ml ret T' locs (cells + 1) (slots + n) h' → a = h.size → Ext h h' → Exa Z h' a C → (∀ {O nm d : String} {ty : FieldType}, Laid Z a0 C O nm d → parseFieldDescriptor d = some ty → Fld Z h' a O nm d (defaultValue ty)) → n0 ≤ a → Go p e below K (T'.setTop (mkF m pc' L (.ref a :: S)))) : Go p e below K (T.setTop (mkF m pc L S)) := by
  obtain ⟨T', h', X', e', E, A, D, -, st'⟩ := newO X.X X.hx X.hZ X.own_ w wi wz X.eT (g := mkF m pc L S) rfl (X.d hd) hc hl
  subst hp; exact (k T' h' _ (X.to X' e' X.fr (X.old.ext E)) rfl E A D X.sz).of st'
theorem g_initO (X : St Z n0 p l e R s m args below meth c own nm bytes ml ret T locs cells slots h) {i : Nat} {a : Addr} (w1 : (Jvm.Cond.methodLink own i Lib.objectInit).before a0 Z = true) (w2 : (Jvm.Cond.instanceMethod Lib.objectInit).before a0 Z = true) (w3 : (Jvm.Cond.code Lib.objectInit ⟨#[0xb1]⟩ 1 none).before a0 Z = true) (hL : L.size = ml) (hd : decode bytes pc = .ok (.invokespecial i, 3)) (hp : pc + 3 = pc') (hf : 1 ≤ R.frames) {W : Nat} (hW : (S.map fun v => v.category).sum = W) (hl : W + 12 ≤ R.locals) (k : ∀ T', St Z n0 p l e R s m args below meth c own nm bytes ml ret T' locs cells slots h → Go p e below K (T'.setTop (mkF m pc' L S))) : Go p e below K (T.setTop (mkF m pc L (.ref a :: S))) := by
  obtain ⟨T', X', e', st'⟩ := initO X.X X.hx X.hZ X.own_ w1 w2 w3 X.eT (g := mkF m pc L (.ref a :: S)) rfl (by rw [X.ml_]; exact hL) rfl (X.d hd) hf (W := W) (by show 2 * 0 + _ ≤ _; rw [hW, Nat.mul_zero, Nat.zero_add]; exact Nat.le_refl _) hl
  subst hp; exact (k T' (X.to X' e' X.fr X.old)).of st'
theorem g_castNull (X : St Z n0 p l e R s m args below meth c own nm bytes ml ret T locs cells slots h) {i : Nat} (hd : decode bytes pc = .ok (.checkcast i, 3)) (hp : pc + 3 = pc') (k : Go p e below K (T.setTop (mkF m pc' L (.null :: S)))) : Go p e below K (T.setTop (mkF m pc L (.null :: S))) := by
  subst hp; exact k.of (fun _ q => X.X.checkcastNull X.hx (g := mkF m pc L (.null :: S)) rfl rfl (X.d hd) _ q)
theorem g_instNull (X : St Z n0 p l e R s m args below meth c own nm bytes ml ret T locs cells slots h) {i : Nat} (hd : decode bytes pc = .ok (.instanceof i, 3)) (hp : pc + 3 = pc') (k : Go p e below K (T.setTop (mkF m pc' L (.int 0 :: S)))) : Go p e below K (T.setTop (mkF m pc L (.null :: S))) := by
  subst hp; exact k.of (fun _ q => X.X.instanceofNull X.hx (g := mkF m pc L (.null :: S)) rfl rfl (X.d hd) _ q)
theorem g_cast (X : St Z n0 p l e R s m args below meth c own nm bytes ml ret T locs cells slots h) {k0 : String} {i : Nat} {a : Addr} (w : (Jvm.Cond.classLink own i k0).before a0 Z = true) (F : Ins Z h a k0 true) (hd : decode bytes pc = .ok (.checkcast i, 3)) (hp : pc + 3 = pc') (k : ∀ T', St Z n0 p l e R s m args below meth c own nm bytes ml ret T' locs cells slots h → Go p e below K (T'.setTop (mkF m pc' L (.ref a :: S)))) : Go p e below K (T.setTop (mkF m pc L (.ref a :: S))) := by
  obtain ⟨T', X', e', st'⟩ := castY X.X X.hx X.hZ X.own_ w X.eT F (g := mkF m pc L (.ref a :: S)) rfl rfl (X.d hd)
  subst hp; exact (k T' (X.to X' e' X.fr X.old)).of st'
theorem g_inst (X : St Z n0 p l e R s m args below meth c own nm bytes ml ret T locs cells slots h) {k0 : String} {i : Nat} {a : Addr} (w : (Jvm.Cond.classLink own i k0).before a0 Z = true) (F : Ins Z h a k0 true) (hd : decode bytes pc = .ok (.instanceof i, 3)) (hp : pc + 3 = pc') (k : ∀ T', St Z n0 p l e R s m args below meth c own nm bytes ml ret T' locs cells slots h → Go p e below K (T'.setTop (mkF m pc' L (.int 1 :: S)))) : Go p e below K (T.setTop (mkF m pc L (.ref a :: S))) := by
  obtain ⟨T', X', e', st'⟩ := instY X.X X.hx X.hZ X.own_ w X.eT F (g := mkF m pc L (.ref a :: S)) rfl rfl (X.d hd)
  subst hp; exact (k T' (X.to X' e' X.fr X.old)).of st'
theorem g_instN (X : St Z n0 p l e R s m args below meth c own nm bytes ml ret T locs cells slots h) {k0 c0 : String} {i : Nat} {a : Addr} (w : (Jvm.Cond.classLink own i k0).before a0 Z = true) (F : Ins Z s.heap a k0 false) (E : Exa Z s.heap a c0) (hd : decode bytes pc = .ok (.instanceof i, 3)) (hp : pc + 3 = pc') (k : ∀ T', St Z n0 p l e R s m args below meth c own nm bytes ml ret T' locs cells slots h → Go p e below K (T'.setTop (mkF m pc' L (.int 0 :: S)))) : Go p e below K (T.setTop (mkF m pc L (.ref a :: S))) := by
  obtain ⟨T', X', e', st'⟩ := instN X.X X.hx X.hZ X.own_ w X.eT F E (g := mkF m pc L (.ref a :: S)) rfl rfl (X.d hd)
  subst hp; exact (k T' (X.to X' e' X.fr X.old)).of st'
theorem g_iaload (X : St Z n0 p l e R s m args below meth c own nm bytes ml ret T locs cells slots h) {a : Addr} {j : Int32} {i : Nat} {v : Value} {vs : List Value} (A : Arx Z h a .int vs) (hj : j.toInt = (i : Int)) (hv : vs[i]? = some v) (hd : decode bytes pc = .ok (.iaload, 1)) (hp : pc + 1 = pc') (k : Go p e below K (T.setTop (mkF m pc' L (v :: S)))) : Go p e below K (T.setTop (mkF m pc L (.int j :: .ref a :: S))) := by
  obtain ⟨cl, A, q, -⟩ := A
  obtain ⟨hin, hi⟩ := arx_in q hj (List.getElem?_eq_some_iff.mp hv).1
  subst hp; exact k.of (fun _ z => X.X.iaload X.hx (by rw [X.eT]; exact A.1) (State.isArrayOf_alike X.hZ.alike A.2.1) A.2.2 hin (by rw [hi]; exact arx_at q hv) (g := mkF m pc L (.int j :: .ref a :: S)) rfl rfl (X.d hd) _ z)
theorem g_laload (X : St Z n0 p l e R s m args below meth c own nm bytes ml ret T locs cells slots h) {a : Addr} {j : Int32} {i : Nat} {v : Value} {vs : List Value} (A : Arx Z h a .long vs) (hj : j.toInt = (i : Int)) (hv : vs[i]? = some v) (hd : decode bytes pc = .ok (.laload, 1)) (hp : pc + 1 = pc') (k : Go p e below K (T.setTop (mkF m pc' L (v :: S)))) : Go p e below K (T.setTop (mkF m pc L (.int j :: .ref a :: S))) := by
  obtain ⟨cl, A, q, -⟩ := A
  obtain ⟨hin, hi⟩ := arx_in q hj (List.getElem?_eq_some_iff.mp hv).1
  subst hp; exact k.of (fun _ z => X.X.laload X.hx (by rw [X.eT]; exact A.1) (State.isArrayOf_alike X.hZ.alike A.2.1) A.2.2 hin (by rw [hi]; exact arx_at q hv) (g := mkF m pc L (.int j :: .ref a :: S)) rfl rfl (X.d hd) _ z)
theorem g_caload (X : St Z n0 p l e R s m args below meth c own nm bytes ml ret T locs cells slots h) {a : Addr} {j : Int32} {i : Nat} {v : Value} {vs : List Value} (A : Arx Z h a .char vs) (hj : j.toInt = (i : Int)) (hv : vs[i]? = some v) (hd : decode bytes pc = .ok (.caload, 1)) (hp : pc + 1 = pc') (k : Go p e below K (T.setTop (mkF m pc' L (v :: S)))) : Go p e below K (T.setTop (mkF m pc L (.int j :: .ref a :: S))) := by
  obtain ⟨cl, A, q, -⟩ := A
  obtain ⟨hin, hi⟩ := arx_in q hj (List.getElem?_eq_some_iff.mp hv).1
  subst hp; exact k.of (fun _ z => X.X.caload X.hx (by rw [X.eT]; exact A.1) (State.isArrayOf_alike X.hZ.alike A.2.1) A.2.2 hin (by rw [hi]; exact arx_at q hv) (g := mkF m pc L (.int j :: .ref a :: S)) rfl rfl (X.d hd) _ z)
theorem g_baload (X : St Z n0 p l e R s m args below meth c own nm bytes ml ret T locs cells slots h) {a : Addr} {j : Int32} {i : Nat} {v : Value} {vs : List Value} (A : Arx Z h a .byte vs) (hj : j.toInt = (i : Int)) (hv : vs[i]? = some v) (hd : decode bytes pc = .ok (.baload, 1)) (hp : pc + 1 = pc') (k : Go p e below K (T.setTop (mkF m pc' L (v :: S)))) : Go p e below K (T.setTop (mkF m pc L (.int j :: .ref a :: S))) := by
  obtain ⟨cl, A, q, -⟩ := A
  obtain ⟨hin, hi⟩ := arx_in q hj (List.getElem?_eq_some_iff.mp hv).1
  subst hp; exact k.of (fun _ z => X.X.baloadBytes X.hx (by rw [X.eT]; exact A.1) (State.isArrayOf_alike X.hZ.alike A.2.1) A.2.2 hin (by rw [hi]; exact arx_at q hv) (g := mkF m pc L (.int j :: .ref a :: S)) rfl rfl (X.d hd) _ z)
theorem g_daload (X : St Z n0 p l e R s m args below meth c own nm bytes ml ret T locs cells slots h) {a : Addr} {j : Int32} {i : Nat} {v : Value} {vs : List Value} (A : Arx Z h a .double vs) (hj : j.toInt = (i : Int)) (hv : vs[i]? = some v) (hd : decode bytes pc = .ok (.daload, 1)) (hp : pc + 1 = pc') (k : Go p e below K (T.setTop (mkF m pc' L (v :: S)))) : Go p e below K (T.setTop (mkF m pc L (.int j :: .ref a :: S))) := by
  obtain ⟨cl, A, q, -⟩ := A
  obtain ⟨hin, hi⟩ := arx_in q hj (List.getElem?_eq_some_iff.mp hv).1
  subst hp; exact k.of (fun _ z => X.X.daload X.hx (by rw [X.eT]; exact A.1) (State.isArrayOf_alike X.hZ.alike A.2.1) A.2.2 hin (by rw [hi]; exact arx_at q hv) (g := mkF m pc L (.int j :: .ref a :: S)) rfl rfl (X.d hd) _ z)
theorem g_aaload (X : St Z n0 p l e R s m args below meth c own nm bytes ml ret T locs cells slots h) {a : Addr} {j : Int32} {i : Nat} {v : Value} {ty : FieldType} {vs : List Value} (A : Arx Z h a ty vs) (hty : ty.isReference = true) (hj : j.toInt = (i : Int)) (hv : vs[i]? = some v) (hd : decode bytes pc = .ok (.aaload, 1)) (hp : pc + 1 = pc') (k : Go p e below K (T.setTop (mkF m pc' L (v :: S)))) : Go p e below K (T.setTop (mkF m pc L (.int j :: .ref a :: S))) := by
  obtain ⟨cl, A, q, -⟩ := A
  obtain ⟨hin, hi⟩ := arx_in q hj (List.getElem?_eq_some_iff.mp hv).1
  subst hp; exact k.of (fun _ z => X.X.aaload X.hx (by rw [X.eT]; exact A.1) (State.isArrayOf_alike X.hZ.alike A.2.1) hty A.2.2 hin (by rw [hi]; exact arx_at q hv) (g := mkF m pc L (.int j :: .ref a :: S)) rfl rfl (X.d hd) _ z)
theorem g_arraylength (X : St Z n0 p l e R s m args below meth c own nm bytes ml ret T locs cells slots h) {a : Addr} {ty : FieldType} {vs : List Value} {n : Int32} (A : Arx Z h a ty vs) (hn : vs.length.toInt32 = n) (hd : decode bytes pc = .ok (.arraylength, 1)) (hp : pc + 1 = pc') (k : Go p e below K (T.setTop (mkF m pc' L (.int n :: S)))) : Go p e below K (T.setTop (mkF m pc L (.ref a :: S))) := by
  obtain ⟨cl, A, q, -⟩ := A
  have e2 : cl.slots.size.toInt32 = n := by rw [← hn, ← q]; simp
  subst hp; exact k.of (fun _ z => X.X.arraylength X.hx (by rw [X.eT]; exact A.1) (State.isArrayOf_alike X.hZ.alike A.2.1) (g := mkF m pc L (.ref a :: S)) rfl rfl (X.d hd) _ (by rw [e2]; exact z))
theorem g_iastore (X : St Z n0 p l e R s m args below meth c own nm bytes ml ret T locs cells slots h) {a : Addr} {j : Int32} {i : Nat} {x : Int32} {vs : List Value} (A : Arx Z h a .int vs) (hj : j.toInt = (i : Int)) (hi : i < vs.length) (ga : n0 ≤ a) (hd : decode bytes pc = .ok (.iastore, 1)) (hp : pc + 1 = pc') (k : ∀ T' h', St Z n0 p l e R s m args below meth c own nm bytes ml ret T' (locs ++ [⟨a, i⟩]) cells slots h' → Wr h h' a i (.int x) → Arx Z h' a .int (vs.set i (.int x)) → Go p e below K (T'.setTop (mkF m pc' L S))) : Go p e below K (T.setTop (mkF m pc L (.int x :: .int j :: .ref a :: S))) := by
  obtain ⟨cl, A, q, hl⟩ := A
  obtain ⟨hin, hn⟩ := arx_in q hj hi
  obtain ⟨T', h', X', e', W, st'⟩ := stI X.X X.hx X.hZ X.eT A hin (g := mkF m pc L (.int x :: .int j :: .ref a :: S)) rfl rfl (X.d hd)
  rw [hn] at W X'
  subst hp; exact (k T' h' (X.to X' e' (Fr.snoc X' X.fr ga) (X.old.wr W ga)) W ⟨_, A.same W, by rw [← q]; simp [Cell.setSlot], by simpa using hl⟩).of st'
theorem g_lastore (X : St Z n0 p l e R s m args below meth c own nm bytes ml ret T locs cells slots h) {a : Addr} {j : Int32} {i : Nat} {x : Int64} {vs : List Value} (A : Arx Z h a .long vs) (hj : j.toInt = (i : Int)) (hi : i < vs.length) (ga : n0 ≤ a) (hd : decode bytes pc = .ok (.lastore, 1)) (hp : pc + 1 = pc') (k : ∀ T' h', St Z n0 p l e R s m args below meth c own nm bytes ml ret T' (locs ++ [⟨a, i⟩]) cells slots h' → Wr h h' a i (.long x) → Arx Z h' a .long (vs.set i (.long x)) → Go p e below K (T'.setTop (mkF m pc' L S))) : Go p e below K (T.setTop (mkF m pc L (.long x :: .int j :: .ref a :: S))) := by
  obtain ⟨cl, A, q, hl⟩ := A
  obtain ⟨hin, hn⟩ := arx_in q hj hi
  obtain ⟨T', h', X', e', W, st'⟩ := stJ X.X X.hx X.hZ X.eT A hin (g := mkF m pc L (.long x :: .int j :: .ref a :: S)) rfl rfl (X.d hd)
  rw [hn] at W X'
  subst hp; exact (k T' h' (X.to X' e' (Fr.snoc X' X.fr ga) (X.old.wr W ga)) W ⟨_, A.same W, by rw [← q]; simp [Cell.setSlot], by simpa using hl⟩).of st'
theorem g_castore (X : St Z n0 p l e R s m args below meth c own nm bytes ml ret T locs cells slots h) {a : Addr} {j : Int32} {i : Nat} {x : Int32} {vs : List Value} (A : Arx Z h a .char vs) (hj : j.toInt = (i : Int)) (hi : i < vs.length) (ga : n0 ≤ a) (hd : decode bytes pc = .ok (.castore, 1)) (hp : pc + 1 = pc') (k : ∀ T' h', St Z n0 p l e R s m args below meth c own nm bytes ml ret T' (locs ++ [⟨a, i⟩]) cells slots h' → Wr h h' a i (.int (nar .char x)) → Arx Z h' a .char (vs.set i (.int (nar .char x))) → Go p e below K (T'.setTop (mkF m pc' L S))) : Go p e below K (T.setTop (mkF m pc L (.int x :: .int j :: .ref a :: S))) := by
  obtain ⟨cl, A, q, hl⟩ := A
  obtain ⟨hin, hn⟩ := arx_in q hj hi
  obtain ⟨T', h', X', e', W, st'⟩ := stC X.X X.hx X.hZ X.eT A hin (g := mkF m pc L (.int x :: .int j :: .ref a :: S)) rfl rfl (X.d hd)
  rw [hn] at W X'
  subst hp; exact (k T' h' (X.to X' e' (Fr.snoc X' X.fr ga) (X.old.wr W ga)) W ⟨_, A.same W, by rw [← q]; simp [Cell.setSlot], by simpa using hl⟩).of st'
theorem g_bastore (X : St Z n0 p l e R s m args below meth c own nm bytes ml ret T locs cells slots h) {a : Addr} {j : Int32} {i : Nat} {x : Int32} {vs : List Value} (A : Arx Z h a .byte vs) (hj : j.toInt = (i : Int)) (hi : i < vs.length) (ga : n0 ≤ a) (hd : decode bytes pc = .ok (.bastore, 1)) (hp : pc + 1 = pc') (k : ∀ T' h', St Z n0 p l e R s m args below meth c own nm bytes ml ret T' (locs ++ [⟨a, i⟩]) cells slots h' → Wr h h' a i (.int (nar .byte x)) → Arx Z h' a .byte (vs.set i (.int (nar .byte x))) → Go p e below K (T'.setTop (mkF m pc' L S))) : Go p e below K (T.setTop (mkF m pc L (.int x :: .int j :: .ref a :: S))) := by
  obtain ⟨cl, A, q, hl⟩ := A
  obtain ⟨hin, hn⟩ := arx_in q hj hi
  obtain ⟨T', h', X', e', W, st'⟩ := stB X.X X.hx X.hZ X.eT A hin (g := mkF m pc L (.int x :: .int j :: .ref a :: S)) rfl rfl (X.d hd)
  rw [hn] at W X'
  subst hp; exact (k T' h' (X.to X' e' (Fr.snoc X' X.fr ga) (X.old.wr W ga)) W ⟨_, A.same W, by rw [← q]; simp [Cell.setSlot], by simpa using hl⟩).of st'
theorem g_dastore (X : St Z n0 p l e R s m args below meth c own nm bytes ml ret T locs cells slots h) {a : Addr} {j : Int32} {i : Nat} {x : UInt64} {vs : List Value} (A : Arx Z h a .double vs) (hj : j.toInt = (i : Int)) (hi : i < vs.length) (ga : n0 ≤ a) (hd : decode bytes pc = .ok (.dastore, 1)) (hp : pc + 1 = pc') (k : ∀ T' h', St Z n0 p l e R s m args below meth c own nm bytes ml ret T' (locs ++ [⟨a, i⟩]) cells slots h' → Wr h h' a i (.double x) → Arx Z h' a .double (vs.set i (.double x)) → Go p e below K (T'.setTop (mkF m pc' L S))) : Go p e below K (T.setTop (mkF m pc L (.double x :: .int j :: .ref a :: S))) := by
  obtain ⟨cl, A, q, hl⟩ := A
  obtain ⟨hin, hn⟩ := arx_in q hj hi
  obtain ⟨T', h', X', e', W, st'⟩ := stD X.X X.hx X.hZ X.eT A hin (g := mkF m pc L (.double x :: .int j :: .ref a :: S)) rfl rfl (X.d hd)
  rw [hn] at W X'
  subst hp; exact (k T' h' (X.to X' e' (Fr.snoc X' X.fr ga) (X.old.wr W ga)) W ⟨_, A.same W, by rw [← q]; simp [Cell.setSlot], by simpa using hl⟩).of st'
theorem g_newarray (X : St Z n0 p l e R s m args below meth c own nm bytes ml ret T locs cells slots h) {aty : ArrayType} {n : Int32} {cap : Nat} {vs : List Value} (w : (Jvm.Cond.arrayClass (newarray.typeOf aty)).before a0 Z = true) (hn : ¬ n < 0) (hcap : n.toNatClampNeg ≤ cap) (hvs : List.replicate n.toNatClampNeg (defaultValue (newarray.typeOf aty)) = vs) (hb : cap * 8 ≤ 536870912) (hd : decode bytes pc = .ok (.newarray aty, 2)) (hp : pc + 2 = pc') (hc : cells + 1 ≤ R.cells) (hl : slots + cap ≤ R.slots)
    (k : ∀ T' h' a, St Z n0 p l e R s m args below meth c own nm bytes ml ret T' locs (cells + 1) (slots + cap) h' → a = h.size → Ext h h' → Arx Z h' a (newarray.typeOf aty) vs → n0 ≤ a → Go p e below K (T'.setTop (mkF m pc' L (.ref a :: S)))) : Go p e below K (T.setTop (mkF m pc L (.int n :: S))) := by
  obtain ⟨T', h', cA, X', e', E, A, st'⟩ := newP X.X X.hx X.hZ w X.eT (g := mkF m pc L (.int n :: S)) rfl (X.d hd) rfl hn hcap hb hc hl
  subst hp; exact (k T' h' _ (X.to X' e' X.fr (X.old.ext E)) rfl E ⟨_, A, (arx_new _ _ _).trans hvs, by rw [← hvs, List.length_replicate]; omega⟩ X.sz).of st'
theorem g_newarrayE (X : St Z n0 p l e R s m args below meth c own nm bytes ml ret T locs cells slots h) {aty : ArrayType} {n : Int32} {cap : Nat} {vs : List Value} {ad : String} (had : "[" ++ (newarray.typeOf aty).toString = ad) (w : (Jvm.Cond.arrayClass (newarray.typeOf aty)).before a0 Z = true) (hn : ¬ n < 0) (hcap : n.toNatClampNeg ≤ cap) (hvs : List.replicate n.toNatClampNeg (defaultValue (newarray.typeOf aty)) = vs) (hb : cap * 8 ≤ 536870912) (hd : decode bytes pc = .ok (.newarray aty, 2)) (hp : pc + 2 = pc') (hc : cells + 1 ≤ R.cells) (hl : slots + cap ≤ R.slots)
    (k : ∀ T' h' a, St Z n0 p l e R s m args below meth c own nm bytes ml ret T' locs (cells + 1) (slots + cap) h' → a = h.size → Ext h h' → Arx Z h' a (newarray.typeOf aty) vs → Exa Z h' a ad → n0 ≤ a → Go p e below K (T'.setTop (mkF m pc' L (.ref a :: S)))) : Go p e below K (T.setTop (mkF m pc L (.int n :: S))) := by
  obtain ⟨T', h', cA, X', e', E, A, Ea, st'⟩ := newPE X.X X.hx X.hZ w X.eT (g := mkF m pc L (.int n :: S)) rfl (X.d hd) rfl hn hcap hb hc hl had
  subst hp; exact (k T' h' _ (X.to X' e' X.fr (X.old.ext E)) rfl E ⟨_, A, (arx_new _ _ _).trans hvs, by rw [← hvs, List.length_replicate]; omega⟩ Ea X.sz).of st'
theorem g_anewA (X : St Z n0 p l e R s m args below meth c own nm bytes ml ret T locs cells slots h) {i : Nat} {C ad : String} {ty : FieldType} {n : Int32} {cap : Nat} {vs : List Value} (hC : (FieldType.array ty).toString = C) (had : "[" ++ C = ad) (w1 : (Jvm.Cond.classLink own i C).before a0 Z = true) (w2 : (Jvm.Cond.arrayOver (.array ty)).before a0 Z = true) (hn : ¬ n < 0) (hcap : n.toNatClampNeg ≤ cap) (hvs : List.replicate n.toNatClampNeg Value.null = vs) (hb : cap * 8 ≤ 536870912) (hd : decode bytes pc = .ok (.anewarray i, 3)) (hp : pc + 3 = pc') (hc : cells + 1 ≤ R.cells) (hl : slots + cap ≤ R.slots)
    (k : ∀ T' h' a, St Z n0 p l e R s m args below meth c own nm bytes ml ret T' locs (cells + 1) (slots + cap) h' → a = h.size → Ext h h' → Arx Z h' a (.array ty) vs → Exa Z h' a ad → OV Z ad C → n0 ≤ a → Go p e below K (T'.setTop (mkF m pc' L (.ref a :: S)))) : Go p e below K (T.setTop (mkF m pc L (.int n :: S))) := by
  obtain ⟨T', h', cA, X', e', E, A, Ea, O, st'⟩ := newRA X.X X.hx X.hZ X.own_ hC w1 w2 X.eT (g := mkF m pc L (.int n :: S)) rfl (X.d hd) rfl hn hcap hb hc hl had
  obtain ⟨k1, comp, o1, o2, o3⟩ := O
  have hf : Z.vm.findClass ad = some cA := by obtain ⟨c1, -, g1, g2, -⟩ := Ea; cases A.1.symm.trans g1; exact g2
  subst hp; exact (k T' h' _ (X.to X' e' X.fr (X.old.ext E)) rfl E ⟨_, A, (arx_new _ _ _).trans hvs, by rw [← hvs, List.length_replicate]; omega⟩ Ea ⟨cA, k1, comp, _, hf, o1, o2, o3⟩ X.sz).of st'
theorem g_anewR (X : St Z n0 p l e R s m args below meth c own nm bytes ml ret T locs cells slots h) {i : Nat} {C ad : String} {n : Int32} {cap : Nat} {vs : List Value} (had : "[" ++ (FieldType.object C).toString = ad) (w1 : (Jvm.Cond.classLink own i C).before a0 Z = true) (w2 : (Jvm.Cond.arrayOver (.object C)).before a0 Z = true) (hn : ¬ n < 0) (hcap : n.toNatClampNeg ≤ cap) (hvs : List.replicate n.toNatClampNeg Value.null = vs) (hb : cap * 8 ≤ 536870912) (hd : decode bytes pc = .ok (.anewarray i, 3)) (hp : pc + 3 = pc') (hc : cells + 1 ≤ R.cells) (hl : slots + cap ≤ R.slots)
    (k : ∀ T' h' a, St Z n0 p l e R s m args below meth c own nm bytes ml ret T' locs (cells + 1) (slots + cap) h' → a = h.size → Ext h h' → Arx Z h' a (.object C) vs → Exa Z h' a ad → OV Z ad C → n0 ≤ a → Go p e below K (T'.setTop (mkF m pc' L (.ref a :: S)))) : Go p e below K (T.setTop (mkF m pc L (.int n :: S))) := by
  obtain ⟨T', h', cA, X', e', E, A, Ea, O, st'⟩ := newRE X.X X.hx X.hZ X.own_ w1 w2 X.eT (g := mkF m pc L (.int n :: S)) rfl (X.d hd) rfl hn hcap hb hc hl had
  obtain ⟨k1, comp, o1, o2, o3⟩ := O
  have hf : Z.vm.findClass ad = some cA := by obtain ⟨c1, -, g1, g2, -⟩ := Ea; cases A.1.symm.trans g1; exact g2
  subst hp; exact (k T' h' _ (X.to X' e' X.fr (X.old.ext E)) rfl E ⟨_, A, (arx_new _ _ _).trans hvs, by rw [← hvs, List.length_replicate]; omega⟩ Ea ⟨cA, k1, comp, _, hf, o1, o2, o3⟩ X.sz).of st'
theorem g_aastore (X : St Z n0 p l e R s m args below meth c own nm bytes ml ret T locs cells slots h) {a y : Addr} {j : Int32} {i : Nat} {ty : FieldType} {ad C : String} {vs : List Value} (A : Arx Z h a ty vs) (hty : ty.isReference = true) (E : Exa Z h a ad) (O : OV Z ad C) (F : Exa Z h y C) (hj : j.toInt = (i : Int)) (hi : i < vs.length) (ga : n0 ≤ a) (hd : decode bytes pc = .ok (.aastore, 1)) (hp : pc + 1 = pc') (k : ∀ T' h', St Z n0 p l e R s m args below meth c own nm bytes ml ret T' (locs ++ [⟨a, i⟩]) cells slots h' → Wr h h' a i (.ref y) → Arx Z h' a ty (vs.set i (.ref y)) → Go p e below K (T'.setTop (mkF m pc' L S))) : Go p e below K (T.setTop (mkF m pc L (.ref y :: .int j :: .ref a :: S))) := by
  have sto := own_sto E O F
  obtain ⟨cl, A, q, hl⟩ := A
  obtain ⟨hin, hn⟩ := arx_in q hj hi
  obtain ⟨T', h', X', e', W, st'⟩ := stR X.X X.hx X.hZ X.eT A hin hty sto (g := mkF m pc L (.ref y :: .int j :: .ref a :: S)) rfl rfl (X.d hd)
  rw [hn] at W X'
  subst hp; exact (k T' h' (X.to X' e' (Fr.snoc X' X.fr ga) (X.old.wr W ga)) W ⟨_, A.same W, by rw [← q]; simp [Cell.setSlot], by simpa using hl⟩).of st'
theorem g_clone (X : St Z n0 p l e R s m args below meth c own nm bytes ml ret T locs cells slots h) {i : Nat} {a : Addr} {ad : String} {ty : FieldType} {vs : List Value} {cap W : Nat} (w1 : (Jvm.Cond.methodLink own i ⟨ad, "clone", "()Ljava/lang/Object;"⟩).before a0 Z = true) (w2 : (Jvm.Cond.sameMethod ad "java/lang/Object" "clone" "()Ljava/lang/Object;").before a0 Z = true) (w3 : (Jvm.Cond.native ⟨"java/lang/Object", "clone", "()Ljava/lang/Object;"⟩).before a0 Z = true) (w4 : (Jvm.Cond.instanceMethod ⟨"java/lang/Object", "clone", "()Ljava/lang/Object;"⟩).before a0 Z = true) (w5 : (Jvm.Cond.selects ad ⟨ad, "clone", "()Ljava/lang/Object;"⟩ ⟨"java/lang/Object", "clone", "()Ljava/lang/Object;"⟩).before a0 Z = true) (w6 : (Jvm.Cond.castable ad "java/lang/Cloneable").before a0 Z = true) (A : Arx Z h a ty vs) (EA : Exa Z h a ad) (hfv : ∀ v ∈ vs, fits ty v = true) (hcap : vs.length ≤ cap) (hL : L.size = ml) (hW : (S.map fun v => v.category).sum = W) (hf : 1 ≤ R.frames) (hl : W + 14 ≤ R.locals) (hd : decode bytes pc = .ok (.invokevirtual i, 3)) (hp : pc + 3 = pc') (hc : cells + 1 ≤ R.cells) (hsl : slots + cap ≤ R.slots)
    (k : ∀ T' h' b, St Z n0 p l e R s m args below meth c own nm bytes ml ret T' locs (cells + 1) (slots + cap) h' → b = h.size → Ext h h' → Arx Z h' b ty vs → Exa Z h' b ad → n0 ≤ b → Go p e below K (T'.setTop (mkF m pc' L (.ref b :: S)))) : Go p e below K (T.setTop (mkF m pc L (.ref a :: S))) := by
  obtain ⟨cl, A, q, hlen⟩ := A
  have FC : FitC Z cl := fitC_of A fun j hj v hv => hfv v (by rw [← q]; exact Array.mem_toList_iff.mpr (Array.mem_of_getElem? hv))
  obtain ⟨T', h', X', e', E, A', E', st'⟩ := cloneA X.X X.hx X.hZ X.own_ w1 w2 w3 w4 w5 w6 X.eT A EA FC (g := mkF m pc L (.ref a :: S)) rfl (by rw [X.ml_]; exact hL) rfl (X.d hd) hf (W := W) (by show 2 * 0 + _ ≤ _; rw [hW, Nat.mul_zero, Nat.zero_add]; exact Nat.le_refl _) hl (by rw [← Array.length_toList, q]; exact hcap) hc hsl
  subst hp; exact (k T' h' _ (X.to X' e' X.fr (X.old.ext E)) rfl E ⟨_, A', q, hlen⟩ E' X.sz).of st'
theorem g_callSB (X : St Z n0 p l e R s m args below meth c own nm bytes ml ret T locs cells slots h) {i : Nat} {y : MethodName} {b' : ByteArray} {ml' : Nat} {ret' : Option FieldType} {cc ss : Nat} {Q : Option Value → Heap → List Loc → Prop} {ps : List FieldType} {r : Option FieldType} {W : Nat} {S0 rest : List Value} (argsL : List Value) (w1 : (Jvm.Cond.methodLink own i y).before a0 Z = true) (w2 : (Jvm.Cond.static y).before a0 Z = true) (w0 : (Jvm.Cond.initialized y.cls).before a0 Z = true) (w4 : (Jvm.Cond.code y b' ml' ret').before a0 Z = true) (Bk : Back l R p e below s args y 3 W (fun A a' => a' = argsL.toArray ∧ A.U.heap = h ∧ A.cells + cc ≤ R.cells ∧ A.slots + ss ≤ R.slots) (fun A _ v B => ∃ L, Q v B.U.heap L ∧ B.locs = A.locs ++ L ∧ B.cells = A.cells + cc ∧ B.slots = A.slots + ss)) (hy : y.cls ≠ "java/lang/invoke/MethodHandle" ∧ y.cls ≠ "java/lang/invoke/VarHandle") (hc : cells + cc ≤ R.cells) (hs : slots + ss ≤ R.slots) (hL : L.size = ml) (hps : parseMethodDescriptor y.desc = some ⟨ps, r⟩) (hlen : argsL.length = ps.length) (hS : S0 = argsL.reverse ++ rest) (hW : (rest.map fun v => v.category).sum = W) (hd : decode bytes pc = .ok (.invokestatic i, 3)) (hp : pc + 3 = pc') (k : ∀ v T' h' L'', (Old Z n0 h' → Fr n0 L'' → St Z n0 p l e R s m args below meth c own nm bytes ml ret T' (locs ++ L'') (cells + cc) (slots + ss) h') → Q v h' L'' → Go p e below K (T'.setTop (mkF m pc' L (v.toList ++ rest)))) : Go p e below K (T.setTop (mkF m pc L S0)) := by
  subst hS hp
  obtain ⟨v, _, ⟨T', L'', k', n'⟩, -, X', ⟨Lc, hQ, l', y', z'⟩, st'⟩ := Jvm.LawKit.callS X.X X.hx (y := y) X.own_ (mvT X.hZ w1) (mvT X.hZ w2) (mvT X.hZ w0) (mvT X.hZ w4) hy Bk (g := mkF m pc L (argsL.reverse ++ rest)) rfl (by rw [X.ml_]; exact hL) (argsL := argsL) (rest := rest) (lenOf hps hlen) rfl (by show 2 * 0 + _ ≤ _; rw [hW, Nat.mul_zero, Nat.zero_add]; exact Nat.le_refl _) (X.d hd) (fun _ _ => ⟨rfl, X.eT, hc, hs⟩)
  dsimp only [Pt.U, Pt.locs, Pt.cells, Pt.slots] at X' l' y' z' st' hQ
  subst l' y' z'
  exact (k v T' T'.heap Lc (fun hz hF => ⟨X', X.2.1, rfl, X.fr.app hF, hz⟩) hQ).of st'
theorem g_callS (X : St Z n0 p l e R s m args below meth c own nm bytes ml ret T locs cells slots h) {i : Nat} {y : MethodName} {b' : ByteArray} {ml' : Nat} {ret' : Option FieldType} {rm : Room} {Q : Option Value → Heap → List Loc → Prop} {ps : List FieldType} {r : Option FieldType} {W : Nat} {S0 rest : List Value} (argsL : List Value) (w1 : (Jvm.Cond.methodLink own i y).before a0 Z = true) (w2 : (Jvm.Cond.static y).before a0 Z = true) (w0 : (Jvm.Cond.initialized y.cls).before a0 Z = true) (w4 : (Jvm.Cond.code y b' ml' ret').before a0 Z = true) (w3 : (Jvm.Cond.initialized y.cls).before a0 Z = true) (C : Con l Z y b' ml' ret' [] rm rm.cells rm.slots argsL.toArray h Q) (hy : y.cls ≠ "java/lang/invoke/MethodHandle" ∧ y.cls ≠ "java/lang/invoke/VarHandle") (hf : rm.frames + 1 ≤ R.frames) (hl : W + (ml' + 11) + rm.locals ≤ R.locals) (hc : cells + rm.cells ≤ R.cells) (hs : slots + rm.slots ≤ R.slots) (hL : L.size = ml) (hps : parseMethodDescriptor y.desc = some ⟨ps, r⟩) (hlen : argsL.length = ps.length) (hS : S0 = argsL.reverse ++ rest) (hW : (rest.map fun v => v.category).sum = W) (hd : decode bytes pc = .ok (.invokestatic i, 3)) (hp : pc + 3 = pc') (k : ∀ v T' h' L'', (Old Z n0 h' → Fr n0 L'' → St Z n0 p l e R s m args below meth c own nm bytes ml ret T' (locs ++ L'') (cells + rm.cells) (slots + rm.slots) h') → Q v h' L'' → Go p e below K (T'.setTop (mkF m pc' L (v.toList ++ rest)))) : Go p e below K (T.setTop (mkF m pc L S0)) :=
  g_callSB X argsL w1 w2 w0 w4 (backOf (W := W) C X.hZ w4 w3 hf hl) hy hc hs hL hps hlen hS hW hd hp k
theorem g_callIB (X : St Z n0 p l e R s m args below meth c own nm bytes ml ret T locs cells slots h) {i : Nat} {y : MethodName} {b' : ByteArray} {ml' : Nat} {ret' : Option FieldType} {cc ss : Nat} {Q : Option Value → Heap → List Loc → Prop} {ps : List FieldType} {r : Option FieldType} {W : Nat} {S0 rest : List Value} (argsL : List Value) {a : Addr} (hinit : y.name = "<init>") (w1 : (Jvm.Cond.methodLink own i y).before a0 Z = true) (w2 : (Jvm.Cond.instanceMethod y).before a0 Z = true) (hr : ret' = none) (w4 : (Jvm.Cond.code y b' ml' ret').before a0 Z = true) (Bk : Back l R p e below s args y 3 W (fun A a' => a' = (.ref a :: argsL).toArray ∧ A.U.heap = h ∧ A.cells + cc ≤ R.cells ∧ A.slots + ss ≤ R.slots) (fun A _ v B => ∃ L, Q v B.U.heap L ∧ B.locs = A.locs ++ L ∧ B.cells = A.cells + cc ∧ B.slots = A.slots + ss)) (hy : y.cls ≠ "java/lang/invoke/MethodHandle" ∧ y.cls ≠ "java/lang/invoke/VarHandle") (hc : cells + cc ≤ R.cells) (hs : slots + ss ≤ R.slots) (hL : L.size = ml) (hps : parseMethodDescriptor y.desc = some ⟨ps, r⟩) (hlen : argsL.length = ps.length) (hS : S0 = argsL.reverse ++ .ref a :: rest) (hW : (rest.map fun v => v.category).sum = W) (hd : decode bytes pc = .ok (.invokespecial i, 3)) (hp : pc + 3 = pc') (k : ∀ v T' h' L'', (Old Z n0 h' → Fr n0 L'' → St Z n0 p l e R s m args below meth c own nm bytes ml ret T' (locs ++ L'') (cells + cc) (slots + ss) h') → Q v h' L'' → Go p e below K (T'.setTop (mkF m pc' L (v.toList ++ rest)))) : Go p e below K (T.setTop (mkF m pc L S0)) := by
  subst hS hp
  subst hr
  obtain ⟨v, _, ⟨T', L'', k', n'⟩, -, X', ⟨Lc, hQ, l', y', z'⟩, st'⟩ := X.X.specialBack X.hx (y := y) hinit X.own_ (mvT X.hZ w1) (mvT X.hZ w2) (mvT X.hZ w4) hy Bk (g := mkF m pc L (argsL.reverse ++ .ref a :: rest)) rfl (by rw [X.ml_]; exact hL) (Steps.refl _) (a := a) (argsL := argsL) (rest := rest) (lenOf hps hlen) rfl (by show 2 * 0 + _ ≤ _; rw [hW, Nat.mul_zero, Nat.zero_add]; exact Nat.le_refl _) (X.d hd) (fun _ _ => ⟨rfl, X.eT, hc, hs⟩)
  dsimp only [Pt.U, Pt.locs, Pt.cells, Pt.slots] at X' l' y' z' st' hQ
  subst l' y' z'
  exact (k v T' T'.heap Lc (fun hz hF => ⟨X', X.2.1, rfl, X.fr.app hF, hz⟩) hQ).of (fun _ q => st'.trans q)
theorem g_callI (X : St Z n0 p l e R s m args below meth c own nm bytes ml ret T locs cells slots h) {i : Nat} {y : MethodName} {b' : ByteArray} {ml' : Nat} {ret' : Option FieldType} {rm : Room} {Q : Option Value → Heap → List Loc → Prop} {ps : List FieldType} {r : Option FieldType} {W : Nat} {S0 rest : List Value} (argsL : List Value) {a : Addr} (hinit : y.name = "<init>") (w1 : (Jvm.Cond.methodLink own i y).before a0 Z = true) (w2 : (Jvm.Cond.instanceMethod y).before a0 Z = true) (hr : ret' = none) (w4 : (Jvm.Cond.code y b' ml' ret').before a0 Z = true) (w3 : (Jvm.Cond.initialized y.cls).before a0 Z = true) (C : Con l Z y b' ml' ret' [] rm rm.cells rm.slots (.ref a :: argsL).toArray h Q) (hy : y.cls ≠ "java/lang/invoke/MethodHandle" ∧ y.cls ≠ "java/lang/invoke/VarHandle") (hf : rm.frames + 1 ≤ R.frames) (hl : W + (ml' + 11) + rm.locals ≤ R.locals) (hc : cells + rm.cells ≤ R.cells) (hs : slots + rm.slots ≤ R.slots) (hL : L.size = ml) (hps : parseMethodDescriptor y.desc = some ⟨ps, r⟩) (hlen : argsL.length = ps.length) (hS : S0 = argsL.reverse ++ .ref a :: rest) (hW : (rest.map fun v => v.category).sum = W) (hd : decode bytes pc = .ok (.invokespecial i, 3)) (hp : pc + 3 = pc') (k : ∀ v T' h' L'', (Old Z n0 h' → Fr n0 L'' → St Z n0 p l e R s m args below meth c own nm bytes ml ret T' (locs ++ L'') (cells + rm.cells) (slots + rm.slots) h') → Q v h' L'' → Go p e below K (T'.setTop (mkF m pc' L (v.toList ++ rest)))) : Go p e below K (T.setTop (mkF m pc L S0)) :=
  g_callIB X argsL hinit w1 w2 hr w4 (backOf (W := W) C X.hZ w4 w3 hf hl) hy hc hs hL hps hlen hS hW hd hp k
theorem g_callVB (X : St Z n0 p l e R s m args below meth c own nm bytes ml ret T locs cells slots h) {i : Nat} {y : MethodName} {b' : ByteArray} {ml' : Nat} {ret' : Option FieldType} {cc ss : Nat} {Q : Option Value → Heap → List Loc → Prop} {ps : List FieldType} {r : Option FieldType} {W : Nat} {S0 rest : List Value} (argsL : List Value) {C0 : String} {z : MethodName} {a : Addr} (w1 : (Jvm.Cond.methodLink own i y).before a0 Z = true) (w2 : (Jvm.Cond.declares y).before a0 Z = true) (nf : NotFace s y) (w5 : (Jvm.Cond.selects C0 y z).before a0 Z = true) (w6 : (Jvm.Cond.instanceMethod z).before a0 Z = true) (E : Exa Z h a C0) (w4 : (Jvm.Cond.code z b' ml' ret').before a0 Z = true) (Bk : Back l R p e below s args z 3 W (fun A a' => a' = (.ref a :: argsL).toArray ∧ A.U.heap = h ∧ A.cells + cc ≤ R.cells ∧ A.slots + ss ≤ R.slots) (fun A _ v B => ∃ L, Q v B.U.heap L ∧ B.locs = A.locs ++ L ∧ B.cells = A.cells + cc ∧ B.slots = A.slots + ss)) (hy : y.cls ≠ "java/lang/invoke/MethodHandle" ∧ y.cls ≠ "java/lang/invoke/VarHandle") (hc : cells + cc ≤ R.cells) (hs : slots + ss ≤ R.slots) (hL : L.size = ml) (hps : parseMethodDescriptor y.desc = some ⟨ps, r⟩) (hlen : argsL.length = ps.length) (hS : S0 = argsL.reverse ++ .ref a :: rest) (hW : (rest.map fun v => v.category).sum = W) (hd : decode bytes pc = .ok (.invokevirtual i, 3)) (hp : pc + 3 = pc') (k : ∀ v T' h' L'', (Old Z n0 h' → Fr n0 L'' → St Z n0 p l e R s m args below meth c own nm bytes ml ret T' (locs ++ L'') (cells + cc) (slots + ss) h') → Q v h' L'' → Go p e below K (T'.setTop (mkF m pc' L (v.toList ++ rest)))) : Go p e below K (T.setTop (mkF m pc L S0)) := by
  subst hS hp
  obtain ⟨cq, kq, q1, q2, q3⟩ := isOf X.hZ X.eT E
  obtain ⟨v, _, ⟨T', L'', k', n'⟩, -, X', ⟨Lc, hQ, l', y', z'⟩, st'⟩ := X.X.virtualBack X.hx (y := y) (z := z) X.own_ (mvT X.hZ w1) (mvT X.hZ w2) nf (mvT X.hZ w5) (mvT X.hZ w6) hy Bk q1 q3 (g := mkF m pc L (argsL.reverse ++ .ref a :: rest)) rfl (by rw [X.ml_]; exact hL) (Steps.refl _) (argsL := argsL) (rest := rest) (lenOf hps hlen) rfl (by show 2 * 0 + _ ≤ _; rw [hW, Nat.mul_zero, Nat.zero_add]; exact Nat.le_refl _) (X.d hd) (fun _ _ => ⟨rfl, X.eT, hc, hs⟩)
  dsimp only [Pt.U, Pt.locs, Pt.cells, Pt.slots] at X' l' y' z' st' hQ
  subst l' y' z'
  exact (k v T' T'.heap Lc (fun hz hF => ⟨X', X.2.1, rfl, X.fr.app hF, hz⟩) hQ).of (fun _ q => st'.trans q)
theorem g_callV (X : St Z n0 p l e R s m args below meth c own nm bytes ml ret T locs cells slots h) {i : Nat} {y : MethodName} {b' : ByteArray} {ml' : Nat} {ret' : Option FieldType} {rm : Room} {Q : Option Value → Heap → List Loc → Prop} {ps : List FieldType} {r : Option FieldType} {W : Nat} {S0 rest : List Value} (argsL : List Value) {C0 : String} {z : MethodName} {a : Addr} (w1 : (Jvm.Cond.methodLink own i y).before a0 Z = true) (w2 : (Jvm.Cond.declares y).before a0 Z = true) (nf : NotFace s y) (w5 : (Jvm.Cond.selects C0 y z).before a0 Z = true) (w6 : (Jvm.Cond.instanceMethod z).before a0 Z = true) (E : Exa Z h a C0) (w4 : (Jvm.Cond.code z b' ml' ret').before a0 Z = true) (w3 : (Jvm.Cond.initialized z.cls).before a0 Z = true) (C : Con l Z z b' ml' ret' [] rm rm.cells rm.slots (.ref a :: argsL).toArray h Q) (hy : y.cls ≠ "java/lang/invoke/MethodHandle" ∧ y.cls ≠ "java/lang/invoke/VarHandle") (hf : rm.frames + 1 ≤ R.frames) (hl : W + (ml' + 11) + rm.locals ≤ R.locals) (hc : cells + rm.cells ≤ R.cells) (hs : slots + rm.slots ≤ R.slots) (hL : L.size = ml) (hps : parseMethodDescriptor y.desc = some ⟨ps, r⟩) (hlen : argsL.length = ps.length) (hS : S0 = argsL.reverse ++ .ref a :: rest) (hW : (rest.map fun v => v.category).sum = W) (hd : decode bytes pc = .ok (.invokevirtual i, 3)) (hp : pc + 3 = pc') (k : ∀ v T' h' L'', (Old Z n0 h' → Fr n0 L'' → St Z n0 p l e R s m args below meth c own nm bytes ml ret T' (locs ++ L'') (cells + rm.cells) (slots + rm.slots) h') → Q v h' L'' → Go p e below K (T'.setTop (mkF m pc' L (v.toList ++ rest)))) : Go p e below K (T.setTop (mkF m pc L S0)) :=
  g_callVB X argsL w1 w2 nf w5 w6 E w4 (backOf (W := W) C X.hZ w4 w3 hf hl) hy hc hs hL hps hlen hS hW hd hp k
theorem g_callPB (X : St Z n0 p l e R s m args below meth c own nm bytes ml ret T locs cells slots h) {i : Nat} {y : MethodName} {b' : ByteArray} {ml' : Nat} {ret' : Option FieldType} {cc ss : Nat} {Q : Option Value → Heap → List Loc → Prop} {ps : List FieldType} {r : Option FieldType} {W : Nat} {S0 rest : List Value} (argsL : List Value) {C0 : String} {kk : Nat} {a : Addr} (w1 : (Jvm.Cond.methodLink own i y).before a0 Z = true) (w2 : (Jvm.Cond.instanceMethod y).before a0 Z = true) (wp : (Jvm.Cond.privateMethod y).before a0 Z = true) (wi : (Jvm.Cond.instantiable y.cls kk).before a0 Z = true) (E : Exa Z h a C0) (w4 : (Jvm.Cond.code y b' ml' ret').before a0 Z = true) (Bk : Back l R p e below s args y 3 W (fun A a' => a' = (.ref a :: argsL).toArray ∧ A.U.heap = h ∧ A.cells + cc ≤ R.cells ∧ A.slots + ss ≤ R.slots) (fun A _ v B => ∃ L, Q v B.U.heap L ∧ B.locs = A.locs ++ L ∧ B.cells = A.cells + cc ∧ B.slots = A.slots + ss)) (hy : y.cls ≠ "java/lang/invoke/MethodHandle" ∧ y.cls ≠ "java/lang/invoke/VarHandle") (hc : cells + cc ≤ R.cells) (hs : slots + ss ≤ R.slots) (hL : L.size = ml) (hps : parseMethodDescriptor y.desc = some ⟨ps, r⟩) (hlen : argsL.length = ps.length) (hS : S0 = argsL.reverse ++ .ref a :: rest) (hW : (rest.map fun v => v.category).sum = W) (hd : decode bytes pc = .ok (.invokevirtual i, 3)) (hp : pc + 3 = pc') (k : ∀ v T' h' L'', (Old Z n0 h' → Fr n0 L'' → St Z n0 p l e R s m args below meth c own nm bytes ml ret T' (locs ++ L'') (cells + cc) (slots + ss) h') → Q v h' L'' → Go p e below K (T'.setTop (mkF m pc' L (v.toList ++ rest)))) : Go p e below K (T.setTop (mkF m pc L S0)) := by
  subst hS hp
  obtain ⟨cq, q1, q2⟩ := E.cell
  have hpr : State.PrivateAt s y := Cond.privateMethod_at (mvP X.hZ wp (args := #[]))
  obtain ⟨c1, k1, f1, f2, f3, f4, -, -⟩ := Cond.instantiable_spec (show (Jvm.Cond.instantiable y.cls kk).holds #[] s none s [] = true from mvT X.hZ wi)
  obtain ⟨v, _, ⟨T', L'', k', n'⟩, -, X', ⟨Lc, hQ, l', y', z'⟩, st'⟩ := X.X.privateBack X.hx (y := y) X.own_ (mvT X.hZ w1) (mvT X.hZ w2) (selects_self_of_private f1 f2 (by cases hq : k1.isInterface with | false => rfl | true => rw [hq] at f4; simp at f4) hpr (mvT X.hZ w2) hy) hpr (mvT X.hZ w4) hy Bk (g := mkF m pc L (argsL.reverse ++ .ref a :: rest)) rfl (by rw [X.ml_]; exact hL) (Steps.refl _) (a := a) (by rw [X.eT]; exact q1) q2 (argsL := argsL) (rest := rest) (lenOf hps hlen) rfl (by show 2 * 0 + _ ≤ _; rw [hW, Nat.mul_zero, Nat.zero_add]; exact Nat.le_refl _) (X.d hd) (fun _ _ => ⟨rfl, X.eT, hc, hs⟩)
  dsimp only [Pt.U, Pt.locs, Pt.cells, Pt.slots] at X' l' y' z' st' hQ
  subst l' y' z'
  exact (k v T' T'.heap Lc (fun hz hF => ⟨X', X.2.1, rfl, X.fr.app hF, hz⟩) hQ).of (fun _ q => st'.trans q)
theorem g_callP (X : St Z n0 p l e R s m args below meth c own nm bytes ml ret T locs cells slots h) {i : Nat} {y : MethodName} {b' : ByteArray} {ml' : Nat} {ret' : Option FieldType} {rm : Room} {Q : Option Value → Heap → List Loc → Prop} {ps : List FieldType} {r : Option FieldType} {W : Nat} {S0 rest : List Value} (argsL : List Value) {C0 : String} {kk : Nat} {a : Addr} (w1 : (Jvm.Cond.methodLink own i y).before a0 Z = true) (w2 : (Jvm.Cond.instanceMethod y).before a0 Z = true) (wp : (Jvm.Cond.privateMethod y).before a0 Z = true) (wi : (Jvm.Cond.instantiable y.cls kk).before a0 Z = true) (E : Exa Z h a C0) (w4 : (Jvm.Cond.code y b' ml' ret').before a0 Z = true) (w3 : (Jvm.Cond.initialized y.cls).before a0 Z = true) (C : Con l Z y b' ml' ret' [] rm rm.cells rm.slots (.ref a :: argsL).toArray h Q) (hy : y.cls ≠ "java/lang/invoke/MethodHandle" ∧ y.cls ≠ "java/lang/invoke/VarHandle") (hf : rm.frames + 1 ≤ R.frames) (hl : W + (ml' + 11) + rm.locals ≤ R.locals) (hc : cells + rm.cells ≤ R.cells) (hs : slots + rm.slots ≤ R.slots) (hL : L.size = ml) (hps : parseMethodDescriptor y.desc = some ⟨ps, r⟩) (hlen : argsL.length = ps.length) (hS : S0 = argsL.reverse ++ .ref a :: rest) (hW : (rest.map fun v => v.category).sum = W) (hd : decode bytes pc = .ok (.invokevirtual i, 3)) (hp : pc + 3 = pc') (k : ∀ v T' h' L'', (Old Z n0 h' → Fr n0 L'' → St Z n0 p l e R s m args below meth c own nm bytes ml ret T' (locs ++ L'') (cells + rm.cells) (slots + rm.slots) h') → Q v h' L'' → Go p e below K (T'.setTop (mkF m pc' L (v.toList ++ rest)))) : Go p e below K (T.setTop (mkF m pc L S0)) :=
  g_callPB X argsL w1 w2 wp wi E w4 (backOf (W := W) C X.hZ w4 w3 hf hl) hy hc hs hL hps hlen hS hW hd hp k
theorem g_callQB (X : St Z n0 p l e R s m args below meth c own nm bytes ml ret T locs cells slots h) {i : Nat} {y : MethodName} {b' : ByteArray} {ml' : Nat} {ret' : Option FieldType} {cc ss : Nat} {Q : Option Value → Heap → List Loc → Prop} {ps : List FieldType} {r : Option FieldType} {W : Nat} {S0 rest : List Value} (argsL : List Value) {C0 C1 : String} {a : Addr} (w1 : (Jvm.Cond.methodLink own i y).before a0 Z = true) (w2 : (Jvm.Cond.instanceMethod y).before a0 Z = true) (wp : (Jvm.Cond.privateMethod y).before a0 Z = true) (w5 : (Jvm.Cond.selects C1 y y).before a0 Z = true) (E : Exa Z h a C0) (w4 : (Jvm.Cond.code y b' ml' ret').before a0 Z = true) (Bk : Back l R p e below s args y 3 W (fun A a' => a' = (.ref a :: argsL).toArray ∧ A.U.heap = h ∧ A.cells + cc ≤ R.cells ∧ A.slots + ss ≤ R.slots) (fun A _ v B => ∃ L, Q v B.U.heap L ∧ B.locs = A.locs ++ L ∧ B.cells = A.cells + cc ∧ B.slots = A.slots + ss)) (hy : y.cls ≠ "java/lang/invoke/MethodHandle" ∧ y.cls ≠ "java/lang/invoke/VarHandle") (hc : cells + cc ≤ R.cells) (hs : slots + ss ≤ R.slots) (hL : L.size = ml) (hps : parseMethodDescriptor y.desc = some ⟨ps, r⟩) (hlen : argsL.length = ps.length) (hS : S0 = argsL.reverse ++ .ref a :: rest) (hW : (rest.map fun v => v.category).sum = W) (hd : decode bytes pc = .ok (.invokevirtual i, 3)) (hp : pc + 3 = pc') (k : ∀ v T' h' L'', (Old Z n0 h' → Fr n0 L'' → St Z n0 p l e R s m args below meth c own nm bytes ml ret T' (locs ++ L'') (cells + cc) (slots + ss) h') → Q v h' L'' → Go p e below K (T'.setTop (mkF m pc' L (v.toList ++ rest)))) : Go p e below K (T.setTop (mkF m pc L S0)) := by
  subst hS hp
  obtain ⟨cq, q1, q2⟩ := E.cell
  have hpr : State.PrivateAt s y := Cond.privateMethod_at (mvP X.hZ wp (args := #[]))
  obtain ⟨v, _, ⟨T', L'', k', n'⟩, -, X', ⟨Lc, hQ, l', y', z'⟩, st'⟩ := X.X.privateBack X.hx (y := y) X.own_ (mvT X.hZ w1) (mvT X.hZ w2) (mvT X.hZ (own_selP w2 wp w5 hy)) hpr (mvT X.hZ w4) hy Bk (g := mkF m pc L (argsL.reverse ++ .ref a :: rest)) rfl (by rw [X.ml_]; exact hL) (Steps.refl _) (a := a) (by rw [X.eT]; exact q1) q2 (argsL := argsL) (rest := rest) (lenOf hps hlen) rfl (by show 2 * 0 + _ ≤ _; rw [hW, Nat.mul_zero, Nat.zero_add]; exact Nat.le_refl _) (X.d hd) (fun _ _ => ⟨rfl, X.eT, hc, hs⟩)
  dsimp only [Pt.U, Pt.locs, Pt.cells, Pt.slots] at X' l' y' z' st' hQ
  subst l' y' z'
  exact (k v T' T'.heap Lc (fun hz hF => ⟨X', X.2.1, rfl, X.fr.app hF, hz⟩) hQ).of (fun _ q => st'.trans q)
theorem g_callQ (X : St Z n0 p l e R s m args below meth c own nm bytes ml ret T locs cells slots h) {i : Nat} {y : MethodName} {b' : ByteArray} {ml' : Nat} {ret' : Option FieldType} {rm : Room} {Q : Option Value → Heap → List Loc → Prop} {ps : List FieldType} {r : Option FieldType} {W : Nat} {S0 rest : List Value} (argsL : List Value) {C0 C1 : String} {a : Addr} (w1 : (Jvm.Cond.methodLink own i y).before a0 Z = true) (w2 : (Jvm.Cond.instanceMethod y).before a0 Z = true) (wp : (Jvm.Cond.privateMethod y).before a0 Z = true) (w5 : (Jvm.Cond.selects C1 y y).before a0 Z = true) (E : Exa Z h a C0) (w4 : (Jvm.Cond.code y b' ml' ret').before a0 Z = true) (w3 : (Jvm.Cond.initialized y.cls).before a0 Z = true) (C : Con l Z y b' ml' ret' [] rm rm.cells rm.slots (.ref a :: argsL).toArray h Q) (hy : y.cls ≠ "java/lang/invoke/MethodHandle" ∧ y.cls ≠ "java/lang/invoke/VarHandle") (hf : rm.frames + 1 ≤ R.frames) (hl : W + (ml' + 11) + rm.locals ≤ R.locals) (hc : cells + rm.cells ≤ R.cells) (hs : slots + rm.slots ≤ R.slots) (hL : L.size = ml) (hps : parseMethodDescriptor y.desc = some ⟨ps, r⟩) (hlen : argsL.length = ps.length) (hS : S0 = argsL.reverse ++ .ref a :: rest) (hW : (rest.map fun v => v.category).sum = W) (hd : decode bytes pc = .ok (.invokevirtual i, 3)) (hp : pc + 3 = pc') (k : ∀ v T' h' L'', (Old Z n0 h' → Fr n0 L'' → St Z n0 p l e R s m args below meth c own nm bytes ml ret T' (locs ++ L'') (cells + rm.cells) (slots + rm.slots) h') → Q v h' L'' → Go p e below K (T'.setTop (mkF m pc' L (v.toList ++ rest)))) : Go p e below K (T.setTop (mkF m pc L S0)) :=
  g_callQB X argsL w1 w2 wp w5 E w4 (backOf (W := W) C X.hZ w4 w3 hf hl) hy hc hs hL hps hlen hS hW hd hp k
theorem g_callUB (X : St Z n0 p l e R s m args below meth c own nm bytes ml ret T locs cells slots h) {i : Nat} {y : MethodName} {b' : ByteArray} {ml' : Nat} {ret' : Option FieldType} {cc ss : Nat} {Q : Option Value → Heap → List Loc → Prop} {ps : List FieldType} {r : Option FieldType} {W : Nat} {S0 rest : List Value} (argsL : List Value) {C1 : String} {y' : MethodName} {a : Addr} (w1 : (Jvm.Cond.methodLink own i y).before a0 Z = true) (w2 : (Jvm.Cond.instanceMethod y).before a0 Z = true) (w5 : (Jvm.Cond.selects C1 y' y').before a0 Z = true) (hyc : y'.cls = y.cls) (w6 : (Jvm.Cond.superclass own y.cls).before a0 Z = true) (hni : y.name ≠ "<init>") (E : Exa Z h a own) (w4 : (Jvm.Cond.code y b' ml' ret').before a0 Z = true) (Bk : Back l R p e below s args y 3 W (fun A a' => a' = (.ref a :: argsL).toArray ∧ A.U.heap = h ∧ A.cells + cc ≤ R.cells ∧ A.slots + ss ≤ R.slots) (fun A _ v B => ∃ L, Q v B.U.heap L ∧ B.locs = A.locs ++ L ∧ B.cells = A.cells + cc ∧ B.slots = A.slots + ss)) (hy : y.cls ≠ "java/lang/invoke/MethodHandle" ∧ y.cls ≠ "java/lang/invoke/VarHandle") (hc : cells + cc ≤ R.cells) (hs : slots + ss ≤ R.slots) (hL : L.size = ml) (hps : parseMethodDescriptor y.desc = some ⟨ps, r⟩) (hlen : argsL.length = ps.length) (hS : S0 = argsL.reverse ++ .ref a :: rest) (hW : (rest.map fun v => v.category).sum = W) (hd : decode bytes pc = .ok (.invokespecial i, 3)) (hp : pc + 3 = pc') (k : ∀ v T' h' L'', (Old Z n0 h' → Fr n0 L'' → St Z n0 p l e R s m args below meth c own nm bytes ml ret T' (locs ++ L'') (cells + cc) (slots + ss) h') → Q v h' L'' → Go p e below K (T'.setTop (mkF m pc' L (v.toList ++ rest)))) : Go p e below K (T.setTop (mkF m pc L S0)) := by
  subst hS hp
  obtain ⟨v, _, ⟨T', L'', k', n'⟩, -, X', ⟨Lc, hQ, l', y', z'⟩, st'⟩ := superBack X.X X.hx X.hZ (y := y) X.own_ w1 (own_sameM w2 w5 hyc hy) w2 w6 hni Bk X.eT (Ins.self E) (g := mkF m pc L (argsL.reverse ++ .ref a :: rest)) rfl (by rw [X.ml_]; exact hL) w4 (argsL := argsL) (rest := rest) (lenOf hps hlen) rfl (by show 2 * 0 + _ ≤ _; rw [hW, Nat.mul_zero, Nat.zero_add]; exact Nat.le_refl _) (X.d hd) (fun _ _ => ⟨rfl, X.eT, hc, hs⟩)
  dsimp only [Pt.U, Pt.locs, Pt.cells, Pt.slots] at X' l' y' z' st' hQ
  subst l' y' z'
  exact (k v T' T'.heap Lc (fun hz hF => ⟨X', X.2.1, rfl, X.fr.app hF, hz⟩) hQ).of (fun _ q => st'.trans q)
theorem g_callU (X : St Z n0 p l e R s m args below meth c own nm bytes ml ret T locs cells slots h) {i : Nat} {y : MethodName} {b' : ByteArray} {ml' : Nat} {ret' : Option FieldType} {rm : Room} {Q : Option Value → Heap → List Loc → Prop} {ps : List FieldType} {r : Option FieldType} {W : Nat} {S0 rest : List Value} (argsL : List Value) {C1 : String} {y' : MethodName} {a : Addr} (w1 : (Jvm.Cond.methodLink own i y).before a0 Z = true) (w2 : (Jvm.Cond.instanceMethod y).before a0 Z = true) (w5 : (Jvm.Cond.selects C1 y' y').before a0 Z = true) (hyc : y'.cls = y.cls) (w6 : (Jvm.Cond.superclass own y.cls).before a0 Z = true) (hni : y.name ≠ "<init>") (E : Exa Z h a own) (w4 : (Jvm.Cond.code y b' ml' ret').before a0 Z = true) (w3 : (Jvm.Cond.initialized y.cls).before a0 Z = true) (C : Con l Z y b' ml' ret' [] rm rm.cells rm.slots (.ref a :: argsL).toArray h Q) (hy : y.cls ≠ "java/lang/invoke/MethodHandle" ∧ y.cls ≠ "java/lang/invoke/VarHandle") (hf : rm.frames + 1 ≤ R.frames) (hl : W + (ml' + 11) + rm.locals ≤ R.locals) (hc : cells + rm.cells ≤ R.cells) (hs : slots + rm.slots ≤ R.slots) (hL : L.size = ml) (hps : parseMethodDescriptor y.desc = some ⟨ps, r⟩) (hlen : argsL.length = ps.length) (hS : S0 = argsL.reverse ++ .ref a :: rest) (hW : (rest.map fun v => v.category).sum = W) (hd : decode bytes pc = .ok (.invokespecial i, 3)) (hp : pc + 3 = pc') (k : ∀ v T' h' L'', (Old Z n0 h' → Fr n0 L'' → St Z n0 p l e R s m args below meth c own nm bytes ml ret T' (locs ++ L'') (cells + rm.cells) (slots + rm.slots) h') → Q v h' L'' → Go p e below K (T'.setTop (mkF m pc' L (v.toList ++ rest)))) : Go p e below K (T.setTop (mkF m pc L S0)) :=
  g_callUB X argsL w1 w2 w5 hyc w6 hni E w4 (backOf (W := W) C X.hZ w4 w3 hf hl) hy hc hs hL hps hlen hS hW hd hp k
theorem g_callSNB (X : St Z n0 p l e R s m args below meth c own nm bytes ml ret T locs cells slots h) {i : Nat} {y : MethodName} {b' : ByteArray} {ml' : Nat} {ret' : Option FieldType} {cc ss : Nat} {Q : Option Value → Heap → List Loc → Prop} {ps : List FieldType} {r : Option FieldType} {W : Nat} {S0 rest : List Value} (argsL : List Value) {host : String} (w1 : (Jvm.Cond.methodLinkNest own i y host).before a0 Z = true) (w2 : (Jvm.Cond.static y).before a0 Z = true) (w0 : (Jvm.Cond.initialized y.cls).before a0 Z = true) (w4 : (Jvm.Cond.code y b' ml' ret').before a0 Z = true) (Bk : Back l R p e below s args y 3 W (fun A a' => a' = argsL.toArray ∧ A.U.heap = h ∧ A.cells + cc ≤ R.cells ∧ A.slots + ss ≤ R.slots) (fun A _ v B => ∃ L, Q v B.U.heap L ∧ B.locs = A.locs ++ L ∧ B.cells = A.cells + cc ∧ B.slots = A.slots + ss)) (hy : y.cls ≠ "java/lang/invoke/MethodHandle" ∧ y.cls ≠ "java/lang/invoke/VarHandle") (hc : cells + cc ≤ R.cells) (hs : slots + ss ≤ R.slots) (hL : L.size = ml) (hps : parseMethodDescriptor y.desc = some ⟨ps, r⟩) (hlen : argsL.length = ps.length) (hS : S0 = argsL.reverse ++ rest) (hW : (rest.map fun v => v.category).sum = W) (hd : decode bytes pc = .ok (.invokestatic i, 3)) (hp : pc + 3 = pc') (k : ∀ v T' h' L'', (Old Z n0 h' → Fr n0 L'' → St Z n0 p l e R s m args below meth c own nm bytes ml ret T' (locs ++ L'') (cells + cc) (slots + ss) h') → Q v h' L'' → Go p e below K (T'.setTop (mkF m pc' L (v.toList ++ rest)))) : Go p e below K (T.setTop (mkF m pc L S0)) := by
  subst hS hp
  obtain ⟨v, _, ⟨T', L'', k', n'⟩, -, X', ⟨Lc, hQ, l', y', z'⟩, st'⟩ := callSN X.X X.hx (y := y) X.own_ (Cond.methodLinkNest_wide X.hZ w1) (mvT X.hZ w2) (mvT X.hZ w0) (mvT X.hZ w4) hy Bk (g := mkF m pc L (argsL.reverse ++ rest)) rfl (by rw [X.ml_]; exact hL) (argsL := argsL) (rest := rest) (lenOf hps hlen) rfl (by show 2 * 0 + _ ≤ _; rw [hW, Nat.mul_zero, Nat.zero_add]; exact Nat.le_refl _) (X.d hd) (fun _ _ => ⟨rfl, X.eT, hc, hs⟩)
  dsimp only [Pt.U, Pt.locs, Pt.cells, Pt.slots] at X' l' y' z' st' hQ
  subst l' y' z'
  exact (k v T' T'.heap Lc (fun hz hF => ⟨X', X.2.1, rfl, X.fr.app hF, hz⟩) hQ).of (fun _ q => st'.trans q)
theorem g_callSN (X : St Z n0 p l e R s m args below meth c own nm bytes ml ret T locs cells slots h) {i : Nat} {y : MethodName} {b' : ByteArray} {ml' : Nat} {ret' : Option FieldType} {rm : Room} {Q : Option Value → Heap → List Loc → Prop} {ps : List FieldType} {r : Option FieldType} {W : Nat} {S0 rest : List Value} (argsL : List Value) {host : String} (w1 : (Jvm.Cond.methodLinkNest own i y host).before a0 Z = true) (w2 : (Jvm.Cond.static y).before a0 Z = true) (w0 : (Jvm.Cond.initialized y.cls).before a0 Z = true) (w4 : (Jvm.Cond.code y b' ml' ret').before a0 Z = true) (w3 : (Jvm.Cond.initialized y.cls).before a0 Z = true) (C : Con l Z y b' ml' ret' [] rm rm.cells rm.slots argsL.toArray h Q) (hy : y.cls ≠ "java/lang/invoke/MethodHandle" ∧ y.cls ≠ "java/lang/invoke/VarHandle") (hf : rm.frames + 1 ≤ R.frames) (hl : W + (ml' + 11) + rm.locals ≤ R.locals) (hc : cells + rm.cells ≤ R.cells) (hs : slots + rm.slots ≤ R.slots) (hL : L.size = ml) (hps : parseMethodDescriptor y.desc = some ⟨ps, r⟩) (hlen : argsL.length = ps.length) (hS : S0 = argsL.reverse ++ rest) (hW : (rest.map fun v => v.category).sum = W) (hd : decode bytes pc = .ok (.invokestatic i, 3)) (hp : pc + 3 = pc') (k : ∀ v T' h' L'', (Old Z n0 h' → Fr n0 L'' → St Z n0 p l e R s m args below meth c own nm bytes ml ret T' (locs ++ L'') (cells + rm.cells) (slots + rm.slots) h') → Q v h' L'' → Go p e below K (T'.setTop (mkF m pc' L (v.toList ++ rest)))) : Go p e below K (T.setTop (mkF m pc L S0)) :=
  g_callSNB X argsL w1 w2 w0 w4 (backOf (W := W) C X.hZ w4 w3 hf hl) hy hc hs hL hps hlen hS hW hd hp k
theorem g_arraycopy (X : St Z n0 p l e R s m args below meth c own nm bytes ml ret T locs cells slots h) {i : Nat} {a b : Addr} {sp dp nn : Int32} {si di ni : Nat} {ty : FieldType} {vs vd : List Value} {W : Nat} (w1 : (Jvm.Cond.methodLink own i Jvm.Stand.acN).before a0 Z = true) (w2 : (Jvm.Cond.native Jvm.Stand.acN).before a0 Z = true) (w3 : (Jvm.Cond.static Jvm.Stand.acN).before a0 Z = true) (w4 : (Jvm.Cond.initialized "java/lang/System").before a0 Z = true) (A : Arx Z h a ty vs) (B : Arx Z h b ty vd) (hty : refKind ty = false) (fs : ∀ v ∈ vs, fits ty v = true) (fd : ∀ v ∈ vd, fits ty v = true) (h1 : sp.toInt = (si : Int)) (h2 : dp.toInt = (di : Int)) (h3 : nn.toInt = (ni : Int)) (h4 : si + ni ≤ vs.length) (h5 : di + ni ≤ vd.length) (ge : n0 ≤ b) (hL : L.size = ml) (hW : (S.map fun v => v.category).sum = W) (hf : 1 ≤ R.frames) (hl : W + (nativeFrameWords "java/lang/System" "arraycopy" 5 + 11) ≤ R.locals) (hd : decode bytes pc = .ok (.invokestatic i, 3)) (hp : pc + 3 = pc')
    (k : ∀ T' h' locs', St Z n0 p l e R s m args below meth c own nm bytes ml ret T' locs' cells slots h' → Keep h h' [b] → Arx Z h' b ty (vd.take di ++ (vs.drop si).take ni ++ vd.drop (di + ni)) → Go p e below K (T'.setTop (mkF m pc' L S))) : Go p e below K (T.setTop (mkF m pc L (.int nn :: .int dp :: .ref b :: .int sp :: .ref a :: S))) := by
  have q1 := own_clampN h1; have q2 := own_clampN h2; have q3 := own_clampN h3
  obtain ⟨ka, VA⟩ := arx_arv (n := Int32.ofNat vs.length) (d := .int 0) A (Int32.toInt_ofNat_small A.le) fs
  obtain ⟨kb, VB⟩ := arx_arv (n := Int32.ofNat vd.length) (d := .int 0) B (Int32.toInt_ofNat_small B.le) fd
  have c1 := (own_clampN (Int32.toInt_ofNat_small A.le)).2; have c2 := (own_clampN (Int32.toInt_ofNat_small B.le)).2
  have hus : (vs.drop si).take ni = (List.range nn.toNatClampNeg).map fun i => vs.getD (sp.toNatClampNeg + i) (.int 0) := by
    rw [q1.2, q3.2]
    apply List.ext_getElem?
    intro j
    by_cases hj : j < ni
    · rw [List.getElem?_take_of_lt hj, List.getElem?_drop, List.getElem?_map, List.getElem?_range hj]
      simp [List.getElem?_eq_getElem (show si + j < vs.length by omega)]
    · rw [List.getElem?_eq_none (by rw [List.length_take, List.length_drop]; omega), List.getElem?_eq_none (by simp; omega)]
  obtain ⟨T', h', L', X', e', N', K', B', st'⟩ := cpA X.X X.hx X.hZ X.own_ w1 w2 w3 w4 X.eT VA VB (Or.inl ⟨rfl, hty⟩) q1.1 q2.1 q3.1 (by rw [q1.2, q3.2, c1]; exact h4) (by rw [q2.2, q3.2, c2]; exact h5) hus (by rw [q2.2, q3.2]; exact h5) X.fr ge (g := mkF m pc L (.int nn :: .int dp :: .ref b :: .int sp :: .ref a :: S)) rfl (by rw [X.ml_]; exact hL) rfl (X.d hd) hf (W := W) (by show 2 * 0 + _ ≤ _; rw [hW, Nat.mul_zero, Nat.zero_add]; exact Nat.le_refl _) hl
  rw [q2.2, q3.2] at B'
  subst hp; exact (k T' h' L' (X.to X' e' N' (X.old.keep K' (allS ge all0))) K' (arv_arx B' (by rw [Int32.toInt_ofNat_small B.le]; simp only [List.length_append, List.length_take, List.length_drop]; omega))).of st'
theorem g_rawbits (X : St Z n0 p l e R s m args below meth c own nm bytes ml ret T locs cells slots h) {i : Nat} {b : UInt64} {W : Nat} (w1 : (Jvm.Cond.methodLink own i doubleToRawLongBitsName).before a0 Z = true) (w2 : (Jvm.Cond.native doubleToRawLongBitsName).before a0 Z = true) (w3 : (Jvm.Cond.static doubleToRawLongBitsName).before a0 Z = true) (w4 : (Jvm.Cond.initialized "java/lang/Double").before a0 Z = true) (hL : L.size = ml) (hW : (S.map fun v => v.category).sum = W) (hf : 1 ≤ R.frames) (hl : W + (nativeFrameWords "java/lang/Double" "doubleToRawLongBits" 2 + 11) ≤ R.locals) (hd : decode bytes pc = .ok (.invokestatic i, 3)) (hp : pc + 3 = pc') (k : ∀ T', St Z n0 p l e R s m args below meth c own nm bytes ml ret T' locs cells slots h → Go p e below K (T'.setTop (mkF m pc' L (.long b.toInt64 :: S)))) : Go p e below K (T.setTop (mkF m pc L (.double b :: S))) := by
  obtain ⟨vm', X', st'⟩ := X.X.doubleToRawLongBits X.hx X.own_ (mvT X.hZ w1) (mvT X.hZ w2) (mvT X.hZ w3) (mvT X.hZ w4) (g := mkF m pc L (.double b :: S)) rfl (by rw [X.ml_]; exact hL) rfl (X.d hd) hf (by show 2 * 0 + _ + _ ≤ _; rw [hW, Nat.mul_zero, Nat.zero_add]; exact hl)
  subst hp; exact (k _ (X.to X' X.eT X.fr X.old)).of st'
theorem g_retI (X : St Z n0 p l e R s m args below meth c own nm bytes ml ret T locs cells slots h) {C N : Nat} {Q : Option Value → Heap → List Loc → Prop} {z : Int32} (hr : ret = some .int) (hd : decode bytes pc = .ok (.ireturn, 1)) (hc : cells ≤ C) (hs : slots ≤ N) (q : Q (some (.int z)) h locs) : Go p e below (Kq s C N Q) (T.setTop (mkF m pc L (.int z :: S))) := by
  obtain ⟨fs, hl, hrun, hended, hW, hsame⟩ := X.X.leave (v := (some (.int z))) (fun h => by rw [X.ret_, hr] at h; cases h) X.lk
  exact ⟨_, _, retOut X.X X.hx (t := .int) (X.ret_.trans hr) rfl (Or.inl ⟨rfl, Or.inl rfl, _, rfl⟩) (X.d hd) hl, hrun, hended, _, _, rfl, (show Q _ T.heap _ by rw [X.eT]; exact q), ⟨_, rfl⟩, hW, hsame.mono hc hs⟩
theorem g_retL (X : St Z n0 p l e R s m args below meth c own nm bytes ml ret T locs cells slots h) {C N : Nat} {Q : Option Value → Heap → List Loc → Prop} {z : Int64} (hr : ret = some .long) (hd : decode bytes pc = .ok (.lreturn, 1)) (hc : cells ≤ C) (hs : slots ≤ N) (q : Q (some (.long z)) h locs) : Go p e below (Kq s C N Q) (T.setTop (mkF m pc L (.long z :: S))) := by
  obtain ⟨fs, hl, hrun, hended, hW, hsame⟩ := X.X.leave (v := (some (.long z))) (fun h => by rw [X.ret_, hr] at h; cases h) X.lk
  exact ⟨_, _, retOut X.X X.hx (t := .long) (X.ret_.trans hr) rfl (Or.inr (Or.inl ⟨rfl, rfl, _, rfl⟩)) (X.d hd) hl, hrun, hended, _, _, rfl, (show Q _ T.heap _ by rw [X.eT]; exact q), ⟨_, rfl⟩, hW, hsame.mono hc hs⟩
theorem g_retD (X : St Z n0 p l e R s m args below meth c own nm bytes ml ret T locs cells slots h) {C N : Nat} {Q : Option Value → Heap → List Loc → Prop} {z : UInt64} (hr : ret = some .double) (hd : decode bytes pc = .ok (.dreturn, 1)) (hc : cells ≤ C) (hs : slots ≤ N) (q : Q (some (.double z)) h locs) : Go p e below (Kq s C N Q) (T.setTop (mkF m pc L (.double z :: S))) := by
  obtain ⟨fs, hl, hrun, hended, hW, hsame⟩ := X.X.leave (v := (some (.double z))) (fun h => by rw [X.ret_, hr] at h; cases h) X.lk
  exact ⟨_, _, retOut X.X X.hx (t := .double) (X.ret_.trans hr) rfl (Or.inr (Or.inr (Or.inl ⟨rfl, rfl, _, rfl⟩))) (X.d hd) hl, hrun, hended, _, _, rfl, (show Q _ T.heap _ by rw [X.eT]; exact q), ⟨_, rfl⟩, hW, hsame.mono hc hs⟩
theorem g_retA (X : St Z n0 p l e R s m args below meth c own nm bytes ml ret T locs cells slots h) {C N : Nat} {Q : Option Value → Heap → List Loc → Prop} {z : Value} {t : FieldType} (hz : z.isRef = true) (ht : t.isReference = true) (hr : ret = some t) (hd : decode bytes pc = .ok (.areturn, 1)) (hc : cells ≤ C) (hs : slots ≤ N) (q : Q (some z) h locs) : Go p e below (Kq s C N Q) (T.setTop (mkF m pc L (z :: S))) := by
  obtain ⟨fs, hl, hrun, hended, hW, hsame⟩ := X.X.leave (v := (some z)) (fun h => by rw [X.ret_, hr] at h; cases h) X.lk
  exact ⟨_, _, retOut X.X X.hx (t := t) (X.ret_.trans hr) (by cases z <;> cases t <;> simp [Value.isRef, FieldType.isReference, narrow] at hz ht ⊢) (Or.inr (Or.inr (Or.inr (Or.inr ⟨rfl, ht, hz⟩)))) (X.d hd) hl, hrun, hended, _, _, rfl, (show Q _ T.heap _ by rw [X.eT]; exact q), ⟨_, rfl⟩, hW, hsame.mono hc hs⟩
theorem g_retN (X : St Z n0 p l e R s m args below meth c own nm bytes ml ret T locs cells slots h) {C N : Nat} {Q : Option Value → Heap → List Loc → Prop} {z : Int32} {t : FieldType} (ht : t = .boolean ∨ t = .byte ∨ t = .char ∨ t = .short) (hr : ret = some t) (hd : decode bytes pc = .ok (.ireturn, 1)) (hc : cells ≤ C) (hs : slots ≤ N) (q : Q (some (.int (nar t z))) h locs) : Go p e below (Kq s C N Q) (T.setTop (mkF m pc L (.int z :: S))) := by
  obtain ⟨fs, hl, hrun, hended, hW, hsame⟩ := X.X.leave (v := (some (.int (nar t z)))) (fun h => by rw [X.ret_, hr] at h; cases h) X.lk
  exact ⟨_, _, retN X.X X.hx (t := t) (X.ret_.trans hr) ht (X.d hd) hl, hrun, hended, _, _, rfl, (show Q _ T.heap _ by rw [X.eT]; exact q), ⟨_, rfl⟩, hW, hsame.mono hc hs⟩
theorem g_ret (X : St Z n0 p l e R s m args below meth c own nm bytes ml ret T locs cells slots h) {C N : Nat} {Q : Option Value → Heap → List Loc → Prop} (hr : ret = none) (hd : decode bytes pc = .ok (.return_, 1)) (hc : cells ≤ C) (hs : slots ≤ N) (q : Q none h locs) : Go p e below (Kq s C N Q) (T.setTop (mkF m pc L [])) := by
  obtain ⟨fs, hl, hrun, hended, hW, hsame⟩ := X.X.leave (v := none) (fun _ => rfl) X.lk
  exact ⟨_, _, X.X.returnOut X.hx (X.ret_.trans hr) (X.d hd) hl, hrun, hended, _, _, rfl, (show Q _ T.heap _ by rw [X.eT]; exact q), ⟨_, rfl⟩, hW, hsame.mono hc hs⟩
end Own
end Nar
namespace Wid
section Own
variable {p : Program} {l : Launch} {e : Env} {R : Room} {s : State} {m : MethodId} {args : Array Value} {below : List Frame} {meth : Method} {c : Code} {own nm : String} {bytes : ByteArray} {ml : Nat} {ret : Option FieldType} {T : State} {locs : List Loc} {cells slots : Nat} {Z : State} {a0 : Array Value} {h : Heap} {vm0 : Vm} {n0 : Nat} {K : State → Outcome → Prop} {pc pc' pt : Nat} {L L' : Array Slot} {S : List Value}
/-- what is left of a run, from a state on -/
def Go (p : Program) (e : Env) (below : List Frame) (K : State → Outcome → Prop) (U : State) : Prop := ∃ s₂ o, Steps p.tables e below U s₂ ∧ s₂.status = .running ∧ Ended s₂ below o ∧ K s₂ o
theorem Go.of {U U' : State} (g : Go p e below K U') (st : ∀ t, Steps p.tables e below U' t → Steps p.tables e below U t) : Go p e below K U := by
  obtain ⟨s₂, o, h1, h2⟩ := g; exact ⟨s₂, o, st _ h1, h2⟩
/-- where a walk stands -/
def St (Z : State) (n0 : Nat) (p : Program) (l : Launch) (e : Env) (R : Room) (s : State) (vm0 : Vm) (m : MethodId) (args : Array Value) (below : List Frame) (meth : Method) (c : Code) (own nm : String) (bytes : ByteArray) (ml : Nat) (ret : Option FieldType) (T : State) (locs : List Loc) (cells slots : Nat) (h : Heap) : Prop :=
  Stand p l e R (s.setVm vm0) m args below meth c T locs cells slots ∧ (p.tables.exec = Jvm.exec ∧ c.code = bytes ∧ c.maxLocals = ml ∧ (s.setVm vm0).vm.findClass own = some m.cls ∧ Z.Warmed39 (s.setVm vm0).vm ∧ meth.sig.returnType = ret ∧ meth.locks = false ∧ meth.name = nm) ∧ T.heap = h ∧ Fr n0 locs ∧ Old Z n0 h ∧ ∃ k0, s.Since vm0 k0 ∧ k0 ≤ h.size
theorem St.X (X : St Z n0 p l e R s vm0 m args below meth c own nm bytes ml ret T locs cells slots h) : Stand p l e R (s.setVm vm0) m args below meth c T locs cells slots := X.1
theorem St.hx (X : St Z n0 p l e R s vm0 m args below meth c own nm bytes ml ret T locs cells slots h) : p.tables.exec = Jvm.exec := X.2.1.1
theorem St.by_ (X : St Z n0 p l e R s vm0 m args below meth c own nm bytes ml ret T locs cells slots h) : c.code = bytes := X.2.1.2.1
theorem St.ml_ (X : St Z n0 p l e R s vm0 m args below meth c own nm bytes ml ret T locs cells slots h) : c.maxLocals = ml := X.2.1.2.2.1
theorem St.own_ (X : St Z n0 p l e R s vm0 m args below meth c own nm bytes ml ret T locs cells slots h) : (s.setVm vm0).vm.findClass own = some m.cls := X.2.1.2.2.2.1
theorem St.hZ (X : St Z n0 p l e R s vm0 m args below meth c own nm bytes ml ret T locs cells slots h) : Z.Warmed39 (s.setVm vm0).vm := X.2.1.2.2.2.2.1
theorem St.ret_ (X : St Z n0 p l e R s vm0 m args below meth c own nm bytes ml ret T locs cells slots h) : meth.sig.returnType = ret := X.2.1.2.2.2.2.2.1
theorem St.lk (X : St Z n0 p l e R s vm0 m args below meth c own nm bytes ml ret T locs cells slots h) : meth.locks = false := X.2.1.2.2.2.2.2.2.1
theorem St.nm_ (X : St Z n0 p l e R s vm0 m args below meth c own nm bytes ml ret T locs cells slots h) : meth.name = nm := X.2.1.2.2.2.2.2.2.2
theorem St.eT (X : St Z n0 p l e R s vm0 m args below meth c own nm bytes ml ret T locs cells slots h) : T.heap = h := X.2.2.1
theorem St.fr (X : St Z n0 p l e R s vm0 m args below meth c own nm bytes ml ret T locs cells slots h) : Fr n0 locs := X.2.2.2.1
theorem St.old (X : St Z n0 p l e R s vm0 m args below meth c own nm bytes ml ret T locs cells slots h) : Old Z n0 h := X.2.2.2.2.1
theorem St.sz (X : St Z n0 p l e R s vm0 m args below meth c own nm bytes ml ret T locs cells slots h) : n0 ≤ h.size := X.2.2.2.2.1.1 ▸ X.2.2.2.2.1.2.1
theorem St.to (X : St Z n0 p l e R s vm0 m args below meth c own nm bytes ml ret T locs cells slots h) {T' : State} {locs' : List Loc} {cells' slots' : Nat} {h' : Heap} (Y : Stand p l e R (s.setVm vm0) m args below meth c T' locs' cells' slots') (e' : T'.heap = h') (N : Fr n0 locs') (z : Old Z n0 h') (zz : h.size ≤ h'.size) : St Z n0 p l e R s vm0 m args below meth c own nm bytes ml ret T' locs' cells' slots' h' := ⟨Y, X.2.1, e', N, z, X.2.2.2.2.2.imp fun _ q => ⟨q.1, Nat.le_trans q.2 zz⟩⟩
theorem St.more (X : St Z n0 p l e R s vm0 m args below meth c own nm bytes ml ret T locs cells slots h) {c' n' : Nat} (q1 : cells ≤ c') (q2 : slots ≤ n') : St Z n0 p l e R s vm0 m args below meth c own nm bytes ml ret T locs c' n' h := ⟨X.X.mono q1 q2, X.2⟩
theorem St.d (X : St Z n0 p l e R s vm0 m args below meth c own nm bytes ml ret T locs cells slots h) {r : Except DecodeError (Instr × Nat)} (hd : decode bytes pc = r) : decode c.code pc = r := hb X.by_ hd
/-- a body's contract -/
def Con (l : Launch) (Z : State) (y : MethodName) (bytes : ByteArray) (ml : Nat) (ret : Option FieldType) (ws : List Jvm.Cond) (rm : Room) (C N : Nat) (as' : Array Value) (h : Heap) (Q : Option Value → Heap → List Loc → Prop) : Prop :=
  MetFree l y (head1 (Jvm.Cond.code y bytes ml ret :: ws) rm) (fun a U => a = as' ∧ Z.Warmed39 U.vm ∧ U.heap = h) (fun _ _ _ _ _ => True) (fun _ U o U' => ∃ v L, o = .returned v ∧ Q v U'.heap L ∧ ReturnedEndW U o U' L C N)
def Kq (s : State) (C N : Nat) (Q : Option Value → Heap → List Loc → Prop) (t : State) (o : Outcome) : Prop := ∃ v L, o = .returned v ∧ Q v t.heap L ∧ ReturnedEndW s o t L C N
theorem Con.intro {y : MethodName} {ws : List Jvm.Cond} {rm : Room} {C N : Nat} {as' : Array Value} {Q : Option Value → Heap → List Loc → Prop} (hy : plainFor y = true) (ef : ∀ m, entryFrame m as' ml = mkF m 0 L []) (hz : Old Z n0 h)
    (body : ∀ p e s m below meth c T, s.heap = h → St Z n0 p l e rm s s.vm m as' below meth c y.cls y.name bytes ml ret T [] 0 0 h → Go p e below (Kq s C N Q) (T.setTop (mkF m 0 L []))) : Con l Z y bytes ml ret ws rm C N as' h Q := by
  refine MetFree.of_bodySF hy hisR ?_
  intro p e s m args below meth c s₁ Bd hml0 hP hK
  obtain ⟨rfl, hZ, hh⟩ := hP
  have e0 : s₁.heap = h := by rw [← hh, Bd.state]; rfl
  obtain ⟨s₂, o, h1, h2, h3, h4⟩ := body p e s m below meth c s₁ hh ⟨Stand.of_body Bd, ⟨Bd.exec, Bd.bytes, hml0, findClass_of_methodNamed Bd.named, hZ, Bd.returns, Bd.notSynchronized, (name_of_methodNamed Bd.named Bd.method).1⟩, e0, Fr.nil n0, hz, 0, (State.WarmedH.refl s).since 0, Nat.zero_le _⟩
  exact ⟨s₂, o, castTop (ef m) h1, h2, h3, h4⟩
theorem go_eq {f g : JFrame} (q : f = g) (k : Go p e below K (T.setTop g)) : Go p e below K (T.setTop f) := q ▸ k
theorem g_iloadN (X : St Z n0 p l e R s vm0 m args below meth c own nm bytes ml ret T locs cells slots h) {k : Fin 4} {v : Int32} (hd : decode bytes pc = .ok (.iload_n k, 1)) (hp : pc + 1 = pc') (hl : L[k.val]? = some (.val (.int v))) (k : Go p e below K (T.setTop (mkF m pc' L (.int v :: S)))) : Go p e below K (T.setTop (mkF m pc L S)) := by
  subst hp; exact k.of (fun _ q => XS.iloadN X.X.here X.hx rfl (X.d hd) hl q)
theorem g_iload (X : St Z n0 p l e R s vm0 m args below meth c own nm bytes ml ret T locs cells slots h) {k : Nat} {v : Int32} (hd : decode bytes pc = .ok (.iload k, 2)) (hp : pc + 2 = pc') (hl : L[k]? = some (.val (.int v))) (k : Go p e below K (T.setTop (mkF m pc' L (.int v :: S)))) : Go p e below K (T.setTop (mkF m pc L S)) := by
  subst hp; exact k.of (fun _ q => XS.iload X.X.here X.hx rfl (X.d hd) hl q)
theorem g_lloadN (X : St Z n0 p l e R s vm0 m args below meth c own nm bytes ml ret T locs cells slots h) {k : Fin 4} {v : Int64} (hd : decode bytes pc = .ok (.lload_n k, 1)) (hp : pc + 1 = pc') (hl : L[k.val]? = some (.val (.long v))) (k : Go p e below K (T.setTop (mkF m pc' L (.long v :: S)))) : Go p e below K (T.setTop (mkF m pc L S)) := by
  subst hp; exact k.of (fun _ q => XS.lloadN X.X.here X.hx rfl (X.d hd) hl q)
theorem g_lload (X : St Z n0 p l e R s vm0 m args below meth c own nm bytes ml ret T locs cells slots h) {k : Nat} {v : Int64} (hd : decode bytes pc = .ok (.lload k, 2)) (hp : pc + 2 = pc') (hl : L[k]? = some (.val (.long v))) (k : Go p e below K (T.setTop (mkF m pc' L (.long v :: S)))) : Go p e below K (T.setTop (mkF m pc L S)) := by
  subst hp; exact k.of (fun _ q => XS.lload X.X.here X.hx rfl (X.d hd) hl q)
theorem g_aloadN (X : St Z n0 p l e R s vm0 m args below meth c own nm bytes ml ret T locs cells slots h) {k : Fin 4} {v : Value} (hd : decode bytes pc = .ok (.aload_n k, 1)) (hp : pc + 1 = pc') (hl : L[k.val]? = some (.val v)) (hv : v.isRef = true) (k : Go p e below K (T.setTop (mkF m pc' L (v :: S)))) : Go p e below K (T.setTop (mkF m pc L S)) := by
  subst hp; exact k.of (fun _ q => XS.aloadN X.X.here X.hx rfl (X.d hd) hl hv q)
theorem g_aload (X : St Z n0 p l e R s vm0 m args below meth c own nm bytes ml ret T locs cells slots h) {k : Nat} {v : Value} (hd : decode bytes pc = .ok (.aload k, 2)) (hp : pc + 2 = pc') (hl : L[k]? = some (.val v)) (hv : v.isRef = true) (k : Go p e below K (T.setTop (mkF m pc' L (v :: S)))) : Go p e below K (T.setTop (mkF m pc L S)) := by
  subst hp; exact k.of (fun _ q => XS.aload X.X.here X.hx rfl (X.d hd) hl hv q)
theorem g_istoreN (X : St Z n0 p l e R s vm0 m args below meth c own nm bytes ml ret T locs cells slots h) {k : Fin 4} {v : Int32} (hd : decode bytes pc = .ok (.istore_n k, 1)) (hp : pc + 1 = pc') (hl : storeLocals L k.val (.int v) = some L') (k : Go p e below K (T.setTop (mkF m pc' L' S))) : Go p e below K (T.setTop (mkF m pc L (.int v :: S))) := by
  subst hp; exact k.of (fun _ q => XS.istoreN X.X.here X.hx rfl (X.d hd) rfl hl q)
theorem g_istore (X : St Z n0 p l e R s vm0 m args below meth c own nm bytes ml ret T locs cells slots h) {k : Nat} {v : Int32} (hd : decode bytes pc = .ok (.istore k, 2)) (hp : pc + 2 = pc') (hl : storeLocals L k (.int v) = some L') (k : Go p e below K (T.setTop (mkF m pc' L' S))) : Go p e below K (T.setTop (mkF m pc L (.int v :: S))) := by
  subst hp; exact k.of (fun _ q => XS.istore X.X.here X.hx rfl (X.d hd) rfl hl q)
theorem g_lstoreN (X : St Z n0 p l e R s vm0 m args below meth c own nm bytes ml ret T locs cells slots h) {k : Fin 4} {v : Int64} (hd : decode bytes pc = .ok (.lstore_n k, 1)) (hp : pc + 1 = pc') (hl : storeLocals L k.val (.long v) = some L') (k : Go p e below K (T.setTop (mkF m pc' L' S))) : Go p e below K (T.setTop (mkF m pc L (.long v :: S))) := by
  subst hp; exact k.of (fun _ q => XS.lstoreN X.X.here X.hx rfl (X.d hd) rfl hl q)
theorem g_lstore (X : St Z n0 p l e R s vm0 m args below meth c own nm bytes ml ret T locs cells slots h) {k : Nat} {v : Int64} (hd : decode bytes pc = .ok (.lstore k, 2)) (hp : pc + 2 = pc') (hl : storeLocals L k (.long v) = some L') (k : Go p e below K (T.setTop (mkF m pc' L' S))) : Go p e below K (T.setTop (mkF m pc L (.long v :: S))) := by
  subst hp; exact k.of (fun _ q => XS.lstore X.X.here X.hx rfl (X.d hd) rfl hl q)
theorem g_astoreN (X : St Z n0 p l e R s vm0 m args below meth c own nm bytes ml ret T locs cells slots h) {k : Fin 4} {v : Value} (hd : decode bytes pc = .ok (.astore_n k, 1)) (hp : pc + 1 = pc') (hv : v.isRef = true) (hl : storeLocals L k.val v = some L') (k : Go p e below K (T.setTop (mkF m pc' L' S))) : Go p e below K (T.setTop (mkF m pc L (v :: S))) := by
  subst hp; exact k.of (fun _ q => XS.astoreN X.X.here X.hx rfl (X.d hd) rfl hv hl q)
theorem g_astore (X : St Z n0 p l e R s vm0 m args below meth c own nm bytes ml ret T locs cells slots h) {k : Nat} {v : Value} (hd : decode bytes pc = .ok (.astore k, 2)) (hp : pc + 2 = pc') (hv : v.isRef = true) (hl : storeLocals L k v = some L') (k : Go p e below K (T.setTop (mkF m pc' L' S))) : Go p e below K (T.setTop (mkF m pc L (v :: S))) := by
  subst hp; exact k.of (fun _ q => XS.astore X.X.here X.hx rfl (X.d hd) rfl hv hl q)
theorem g_iinc (X : St Z n0 p l e R s vm0 m args below meth c own nm bytes ml ret T locs cells slots h) {k : Nat} {z : Int} {v : Int32} (hd : decode bytes pc = .ok (.iinc k z, 3)) (hp : pc + 3 = pc') (hl : L[k]? = some (.val (.int v))) (hl' : storeLocals L k (.int (v + Int32.ofInt z)) = some L') (k : Go p e below K (T.setTop (mkF m pc' L' S))) : Go p e below K (T.setTop (mkF m pc L S)) := by
  subst hp; exact k.of (fun _ q => XS.iinc X.X.here X.hx rfl (X.d hd) hl hl' q)
theorem g_iconst (X : St Z n0 p l e R s vm0 m args below meth c own nm bytes ml ret T locs cells slots h) {i : Int} {v : Int32} (hd : decode bytes pc = .ok (.iconst i, 1)) (hp : pc + 1 = pc') (hv : Int32.ofInt i = v) (k : Go p e below K (T.setTop (mkF m pc' L (.int v :: S)))) : Go p e below K (T.setTop (mkF m pc L S)) := by
  subst hp; exact k.of (fun _ q => XS.iconst X.X.here X.hx rfl (X.d hd) (hv ▸ q))
theorem g_bipush (X : St Z n0 p l e R s vm0 m args below meth c own nm bytes ml ret T locs cells slots h) {i : Int} {v : Int32} (hd : decode bytes pc = .ok (.bipush i, 2)) (hp : pc + 2 = pc') (hv : (Int8.ofInt i).toInt32 = v) (k : Go p e below K (T.setTop (mkF m pc' L (.int v :: S)))) : Go p e below K (T.setTop (mkF m pc L S)) := by
  subst hp; exact k.of (fun _ q => XS.bipush X.X.here X.hx rfl (X.d hd) (hv ▸ q))
theorem g_sipush (X : St Z n0 p l e R s vm0 m args below meth c own nm bytes ml ret T locs cells slots h) {i : Int} {v : Int32} (hd : decode bytes pc = .ok (.sipush i, 3)) (hp : pc + 3 = pc') (hv : (Int16.ofInt i).toInt32 = v) (k : Go p e below K (T.setTop (mkF m pc' L (.int v :: S)))) : Go p e below K (T.setTop (mkF m pc L S)) := by
  subst hp; exact k.of (fun _ q => XS.sipush X.X.here X.hx rfl (X.d hd) (hv ▸ q))
theorem g_lconst (X : St Z n0 p l e R s vm0 m args below meth c own nm bytes ml ret T locs cells slots h) {i : Fin 2} {v : Int64} (hd : decode bytes pc = .ok (.lconst i, 1)) (hp : pc + 1 = pc') (hv : Int64.ofNat i = v) (k : Go p e below K (T.setTop (mkF m pc' L (.long v :: S)))) : Go p e below K (T.setTop (mkF m pc L S)) := by
  subst hp; exact k.of (fun _ q => XS.lconst X.X.here X.hx rfl (X.d hd) (hv ▸ q))
theorem g_aconst_null (X : St Z n0 p l e R s vm0 m args below meth c own nm bytes ml ret T locs cells slots h) (hd : decode bytes pc = .ok (.aconst_null, 1)) (hp : pc + 1 = pc') (k : Go p e below K (T.setTop (mkF m pc' L (.null :: S)))) : Go p e below K (T.setTop (mkF m pc L S)) := by
  subst hp; exact k.of (fun _ q => XS.aconstNull X.X.here X.hx rfl (X.d hd) q)
theorem g_iadd (X : St Z n0 p l e R s vm0 m args below meth c own nm bytes ml ret T locs cells slots h) {x y : Int32} (hd : decode bytes pc = .ok (.iadd, 1)) (hp : pc + 1 = pc') (k : Go p e below K (T.setTop (mkF m pc' L (.int (x + y) :: S)))) : Go p e below K (T.setTop (mkF m pc L (.int y :: .int x :: S))) := by
  subst hp; exact k.of (fun _ q => XS.iadd X.X.here X.hx rfl (X.d hd) rfl q)
theorem g_isub (X : St Z n0 p l e R s vm0 m args below meth c own nm bytes ml ret T locs cells slots h) {x y : Int32} (hd : decode bytes pc = .ok (.isub, 1)) (hp : pc + 1 = pc') (k : Go p e below K (T.setTop (mkF m pc' L (.int (x - y) :: S)))) : Go p e below K (T.setTop (mkF m pc L (.int y :: .int x :: S))) := by
  subst hp; exact k.of (fun _ q => XS.isub X.X.here X.hx rfl (X.d hd) rfl q)
theorem g_imul (X : St Z n0 p l e R s vm0 m args below meth c own nm bytes ml ret T locs cells slots h) {x y : Int32} (hd : decode bytes pc = .ok (.imul, 1)) (hp : pc + 1 = pc') (k : Go p e below K (T.setTop (mkF m pc' L (.int (x * y) :: S)))) : Go p e below K (T.setTop (mkF m pc L (.int y :: .int x :: S))) := by
  subst hp; exact k.of (fun _ q => XS.imul X.X.here X.hx rfl (X.d hd) rfl q)
theorem g_iand (X : St Z n0 p l e R s vm0 m args below meth c own nm bytes ml ret T locs cells slots h) {x y : Int32} (hd : decode bytes pc = .ok (.iand, 1)) (hp : pc + 1 = pc') (k : Go p e below K (T.setTop (mkF m pc' L (.int (x &&& y) :: S)))) : Go p e below K (T.setTop (mkF m pc L (.int y :: .int x :: S))) := by
  subst hp; exact k.of (fun _ q => XS.iand X.X.here X.hx rfl (X.d hd) rfl q)
theorem g_ior (X : St Z n0 p l e R s vm0 m args below meth c own nm bytes ml ret T locs cells slots h) {x y : Int32} (hd : decode bytes pc = .ok (.ior, 1)) (hp : pc + 1 = pc') (k : Go p e below K (T.setTop (mkF m pc' L (.int (x ||| y) :: S)))) : Go p e below K (T.setTop (mkF m pc L (.int y :: .int x :: S))) := by
  subst hp; exact k.of (fun _ q => XS.ior X.X.here X.hx rfl (X.d hd) rfl q)
theorem g_ixor (X : St Z n0 p l e R s vm0 m args below meth c own nm bytes ml ret T locs cells slots h) {x y : Int32} (hd : decode bytes pc = .ok (.ixor, 1)) (hp : pc + 1 = pc') (k : Go p e below K (T.setTop (mkF m pc' L (.int (x ^^^ y) :: S)))) : Go p e below K (T.setTop (mkF m pc L (.int y :: .int x :: S))) := by
  subst hp; exact k.of (fun _ q => XS.ixor X.X.here X.hx rfl (X.d hd) rfl q)
theorem g_ishl (X : St Z n0 p l e R s vm0 m args below meth c own nm bytes ml ret T locs cells slots h) {x y : Int32} (hd : decode bytes pc = .ok (.ishl, 1)) (hp : pc + 1 = pc') (k : Go p e below K (T.setTop (mkF m pc' L (.int (x <<< (y &&& 31)) :: S)))) : Go p e below K (T.setTop (mkF m pc L (.int y :: .int x :: S))) := by
  subst hp; exact k.of (fun _ q => XS.ishl X.X.here X.hx rfl (X.d hd) rfl q)
theorem g_ishr (X : St Z n0 p l e R s vm0 m args below meth c own nm bytes ml ret T locs cells slots h) {x y : Int32} (hd : decode bytes pc = .ok (.ishr, 1)) (hp : pc + 1 = pc') (k : Go p e below K (T.setTop (mkF m pc' L (.int (x >>> (y &&& 31)) :: S)))) : Go p e below K (T.setTop (mkF m pc L (.int y :: .int x :: S))) := by
  subst hp; exact k.of (fun _ q => XS.ishr X.X.here X.hx rfl (X.d hd) rfl q)
theorem g_iushr (X : St Z n0 p l e R s vm0 m args below meth c own nm bytes ml ret T locs cells slots h) {x y : Int32} (hd : decode bytes pc = .ok (.iushr, 1)) (hp : pc + 1 = pc') (k : Go p e below K (T.setTop (mkF m pc' L (.int ((x.toUInt32 >>> (y &&& 31).toUInt32).toInt32) :: S)))) : Go p e below K (T.setTop (mkF m pc L (.int y :: .int x :: S))) := by
  subst hp; exact k.of (fun _ q => XS.iushr X.X.here X.hx rfl (X.d hd) rfl q)
theorem g_idiv (X : St Z n0 p l e R s vm0 m args below meth c own nm bytes ml ret T locs cells slots h) {x y : Int32} (hd : decode bytes pc = .ok (.idiv, 1)) (hp : pc + 1 = pc') (hy : y ≠ 0) (k : Go p e below K (T.setTop (mkF m pc' L (.int (x / y) :: S)))) : Go p e below K (T.setTop (mkF m pc L (.int y :: .int x :: S))) := by
  subst hp; exact k.of (fun _ q => XS.idiv X.X.here X.hx rfl (X.d hd) rfl hy q)
theorem g_irem (X : St Z n0 p l e R s vm0 m args below meth c own nm bytes ml ret T locs cells slots h) {x y : Int32} (hd : decode bytes pc = .ok (.irem, 1)) (hp : pc + 1 = pc') (hy : y ≠ 0) (k : Go p e below K (T.setTop (mkF m pc' L (.int (x % y) :: S)))) : Go p e below K (T.setTop (mkF m pc L (.int y :: .int x :: S))) := by
  subst hp; exact k.of (fun _ q => iremM X.X X.hx rfl (X.d hd) rfl hy q)
theorem g_ladd (X : St Z n0 p l e R s vm0 m args below meth c own nm bytes ml ret T locs cells slots h) {x y : Int64} (hd : decode bytes pc = .ok (.ladd, 1)) (hp : pc + 1 = pc') (k : Go p e below K (T.setTop (mkF m pc' L (.long (x + y) :: S)))) : Go p e below K (T.setTop (mkF m pc L (.long y :: .long x :: S))) := by
  subst hp; exact k.of (fun _ q => XS.ladd X.X.here X.hx rfl (X.d hd) rfl q)
theorem g_lsub (X : St Z n0 p l e R s vm0 m args below meth c own nm bytes ml ret T locs cells slots h) {x y : Int64} (hd : decode bytes pc = .ok (.lsub, 1)) (hp : pc + 1 = pc') (k : Go p e below K (T.setTop (mkF m pc' L (.long (x - y) :: S)))) : Go p e below K (T.setTop (mkF m pc L (.long y :: .long x :: S))) := by
  subst hp; exact k.of (fun _ q => XS.lsub X.X.here X.hx rfl (X.d hd) rfl q)
theorem g_lmul (X : St Z n0 p l e R s vm0 m args below meth c own nm bytes ml ret T locs cells slots h) {x y : Int64} (hd : decode bytes pc = .ok (.lmul, 1)) (hp : pc + 1 = pc') (k : Go p e below K (T.setTop (mkF m pc' L (.long (x * y) :: S)))) : Go p e below K (T.setTop (mkF m pc L (.long y :: .long x :: S))) := by
  subst hp; exact k.of (fun _ q => XS.lmul X.X.here X.hx rfl (X.d hd) rfl q)
theorem g_land (X : St Z n0 p l e R s vm0 m args below meth c own nm bytes ml ret T locs cells slots h) {x y : Int64} (hd : decode bytes pc = .ok (.land, 1)) (hp : pc + 1 = pc') (k : Go p e below K (T.setTop (mkF m pc' L (.long (x &&& y) :: S)))) : Go p e below K (T.setTop (mkF m pc L (.long y :: .long x :: S))) := by
  subst hp; exact k.of (fun _ q => XS.land X.X.here X.hx rfl (X.d hd) rfl q)
theorem g_lor (X : St Z n0 p l e R s vm0 m args below meth c own nm bytes ml ret T locs cells slots h) {x y : Int64} (hd : decode bytes pc = .ok (.lor, 1)) (hp : pc + 1 = pc') (k : Go p e below K (T.setTop (mkF m pc' L (.long (x ||| y) :: S)))) : Go p e below K (T.setTop (mkF m pc L (.long y :: .long x :: S))) := by
  subst hp; exact k.of (fun _ q => XS.lor X.X.here X.hx rfl (X.d hd) rfl q)
theorem g_lxor (X : St Z n0 p l e R s vm0 m args below meth c own nm bytes ml ret T locs cells slots h) {x y : Int64} (hd : decode bytes pc = .ok (.lxor, 1)) (hp : pc + 1 = pc') (k : Go p e below K (T.setTop (mkF m pc' L (.long (x ^^^ y) :: S)))) : Go p e below K (T.setTop (mkF m pc L (.long y :: .long x :: S))) := by
  subst hp; exact k.of (fun _ q => XS.lxor X.X.here X.hx rfl (X.d hd) rfl q)
theorem g_ldiv (X : St Z n0 p l e R s vm0 m args below meth c own nm bytes ml ret T locs cells slots h) {x y : Int64} (hd : decode bytes pc = .ok (.ldiv, 1)) (hp : pc + 1 = pc') (hy : y ≠ 0) (k : Go p e below K (T.setTop (mkF m pc' L (.long (x / y) :: S)))) : Go p e below K (T.setTop (mkF m pc L (.long y :: .long x :: S))) := by
  subst hp; exact k.of (fun _ q => XS.ldiv X.X.here X.hx rfl (X.d hd) rfl hy q)
theorem g_lrem (X : St Z n0 p l e R s vm0 m args below meth c own nm bytes ml ret T locs cells slots h) {x y : Int64} (hd : decode bytes pc = .ok (.lrem, 1)) (hp : pc + 1 = pc') (hy : y ≠ 0) (k : Go p e below K (T.setTop (mkF m pc' L (.long (x - (x / y) * y) :: S)))) : Go p e below K (T.setTop (mkF m pc L (.long y :: .long x :: S))) := by
  subst hp; exact k.of (fun _ q => XS.lrem X.X.here X.hx rfl (X.d hd) rfl hy q)
theorem g_lshl (X : St Z n0 p l e R s vm0 m args below meth c own nm bytes ml ret T locs cells slots h) {x : Int64} {y : Int32} (hd : decode bytes pc = .ok (.lshl, 1)) (hp : pc + 1 = pc') (k : Go p e below K (T.setTop (mkF m pc' L (.long (x <<< (y &&& 0x3f).toInt64) :: S)))) : Go p e below K (T.setTop (mkF m pc L (.int y :: .long x :: S))) := by
  subst hp; exact k.of (fun _ q => XS.lshl X.X.here X.hx rfl (X.d hd) rfl q)
theorem g_lshr (X : St Z n0 p l e R s vm0 m args below meth c own nm bytes ml ret T locs cells slots h) {x : Int64} {y : Int32} (hd : decode bytes pc = .ok (.lshr, 1)) (hp : pc + 1 = pc') (k : Go p e below K (T.setTop (mkF m pc' L (.long (x >>> (y &&& 0x3f).toInt64) :: S)))) : Go p e below K (T.setTop (mkF m pc L (.int y :: .long x :: S))) := by
  subst hp; exact k.of (fun _ q => XS.lshr X.X.here X.hx rfl (X.d hd) rfl q)
theorem g_lushr (X : St Z n0 p l e R s vm0 m args below meth c own nm bytes ml ret T locs cells slots h) {x : Int64} {y : Int32} (hd : decode bytes pc = .ok (.lushr, 1)) (hp : pc + 1 = pc') (k : Go p e below K (T.setTop (mkF m pc' L (.long ((x.toUInt64 >>> (y &&& 0x3f).toInt64.toUInt64).toInt64) :: S)))) : Go p e below K (T.setTop (mkF m pc L (.int y :: .long x :: S))) := by
  subst hp; exact k.of (fun _ q => XS.lushr X.X.here X.hx rfl (X.d hd) rfl q)
theorem g_i2b (X : St Z n0 p l e R s vm0 m args below meth c own nm bytes ml ret T locs cells slots h) {v : Int32} (hd : decode bytes pc = .ok (.i2b, 1)) (hp : pc + 1 = pc') (k : Go p e below K (T.setTop (mkF m pc' L (.int (v.toInt8.toInt32) :: S)))) : Go p e below K (T.setTop (mkF m pc L (.int v :: S))) := by
  subst hp; exact k.of (fun _ q => XS.i2b X.X.here X.hx rfl (X.d hd) rfl q)
theorem g_i2c (X : St Z n0 p l e R s vm0 m args below meth c own nm bytes ml ret T locs cells slots h) {v : Int32} (hd : decode bytes pc = .ok (.i2c, 1)) (hp : pc + 1 = pc') (k : Go p e below K (T.setTop (mkF m pc' L (.int (v.toUInt32.toUInt16.toUInt32.toInt32) :: S)))) : Go p e below K (T.setTop (mkF m pc L (.int v :: S))) := by
  subst hp; exact k.of (fun _ q => XS.i2c X.X.here X.hx rfl (X.d hd) rfl q)
theorem g_i2s (X : St Z n0 p l e R s vm0 m args below meth c own nm bytes ml ret T locs cells slots h) {v : Int32} (hd : decode bytes pc = .ok (.i2s, 1)) (hp : pc + 1 = pc') (k : Go p e below K (T.setTop (mkF m pc' L (.int (v.toInt16.toInt32) :: S)))) : Go p e below K (T.setTop (mkF m pc L (.int v :: S))) := by
  subst hp; exact k.of (fun _ q => XS.i2s X.X.here X.hx rfl (X.d hd) rfl q)
theorem g_ineg (X : St Z n0 p l e R s vm0 m args below meth c own nm bytes ml ret T locs cells slots h) {v : Int32} (hd : decode bytes pc = .ok (.ineg, 1)) (hp : pc + 1 = pc') (k : Go p e below K (T.setTop (mkF m pc' L (.int (-v) :: S)))) : Go p e below K (T.setTop (mkF m pc L (.int v :: S))) := by
  subst hp; exact k.of (fun _ q => XS.ineg X.X.here X.hx rfl (X.d hd) rfl q)
theorem g_i2l (X : St Z n0 p l e R s vm0 m args below meth c own nm bytes ml ret T locs cells slots h) {v : Int32} (hd : decode bytes pc = .ok (.i2l, 1)) (hp : pc + 1 = pc') (k : Go p e below K (T.setTop (mkF m pc' L (.long (v.toInt64) :: S)))) : Go p e below K (T.setTop (mkF m pc L (.int v :: S))) := by
  subst hp; exact k.of (fun _ q => XS.i2l X.X.here X.hx rfl (X.d hd) rfl q)
theorem g_l2i (X : St Z n0 p l e R s vm0 m args below meth c own nm bytes ml ret T locs cells slots h) {v : Int64} (hd : decode bytes pc = .ok (.l2i, 1)) (hp : pc + 1 = pc') (k : Go p e below K (T.setTop (mkF m pc' L (.int (v.toInt32) :: S)))) : Go p e below K (T.setTop (mkF m pc L (.long v :: S))) := by
  subst hp; exact k.of (fun _ q => XS.l2i X.X.here X.hx rfl (X.d hd) rfl q)
theorem g_lneg (X : St Z n0 p l e R s vm0 m args below meth c own nm bytes ml ret T locs cells slots h) {v : Int64} (hd : decode bytes pc = .ok (.lneg, 1)) (hp : pc + 1 = pc') (k : Go p e below K (T.setTop (mkF m pc' L (.long (-v) :: S)))) : Go p e below K (T.setTop (mkF m pc L (.long v :: S))) := by
  subst hp; exact k.of (fun _ q => XS.lneg X.X.here X.hx rfl (X.d hd) rfl q)
theorem g_lcmp (X : St Z n0 p l e R s vm0 m args below meth c own nm bytes ml ret T locs cells slots h) {x y : Int64} (hd : decode bytes pc = .ok (.lcmp, 1)) (hp : pc + 1 = pc') (k : Go p e below K (T.setTop (mkF m pc' L (.int (lcmpW x y) :: S)))) : Go p e below K (T.setTop (mkF m pc L (.long y :: .long x :: S))) := by
  subst hp; exact k.of (fun _ q => XS.lcmp X.X.here X.hx rfl (X.d hd) rfl q)
theorem g_dup (X : St Z n0 p l e R s vm0 m args below meth c own nm bytes ml ret T locs cells slots h) {v : Value} (hd : decode bytes pc = .ok (.dup, 1)) (hp : pc + 1 = pc') (hc : v.category = 1) (k : Go p e below K (T.setTop (mkF m pc' L (v :: v :: S)))) : Go p e below K (T.setTop (mkF m pc L (v :: S))) := by
  subst hp; exact k.of (fun _ q => XS.dup X.X.here X.hx rfl (X.d hd) rfl hc q)
theorem g_pop (X : St Z n0 p l e R s vm0 m args below meth c own nm bytes ml ret T locs cells slots h) {v : Value} (hd : decode bytes pc = .ok (.pop, 1)) (hp : pc + 1 = pc') (hc : v.category = 1) (k : Go p e below K (T.setTop (mkF m pc' L S))) : Go p e below K (T.setTop (mkF m pc L (v :: S))) := by
  subst hp; exact k.of (fun _ q => XS.pop X.X.here X.hx rfl (X.d hd) rfl hc q)
theorem g_dup_x1 (X : St Z n0 p l e R s vm0 m args below meth c own nm bytes ml ret T locs cells slots h) {v w : Value} (hd : decode bytes pc = .ok (.dup_x1, 1)) (hp : pc + 1 = pc') (hc : v.category = 1) (hc2 : w.category = 1) (k : Go p e below K (T.setTop (mkF m pc' L (v :: w :: v :: S)))) : Go p e below K (T.setTop (mkF m pc L (v :: w :: S))) := by
  subst hp; exact k.of (fun _ q => XS.dupX1 X.X.here X.hx rfl (X.d hd) rfl hc hc2 q)
theorem g_dloadN (X : St Z n0 p l e R s vm0 m args below meth c own nm bytes ml ret T locs cells slots h) {k : Fin 4} {v : UInt64} (hd : decode bytes pc = .ok (.dload_n k, 1)) (hp : pc + 1 = pc') (hl : L[k.val]? = some (.val (.double v))) (k : Go p e below K (T.setTop (mkF m pc' L (.double v :: S)))) : Go p e below K (T.setTop (mkF m pc L S)) := by
  subst hp; exact k.of (fun _ q => XS.dloadN X.X.here X.hx rfl (X.d hd) hl q)
theorem g_dload (X : St Z n0 p l e R s vm0 m args below meth c own nm bytes ml ret T locs cells slots h) {k : Nat} {v : UInt64} (hd : decode bytes pc = .ok (.dload k, 2)) (hp : pc + 2 = pc') (hl : L[k]? = some (.val (.double v))) (k : Go p e below K (T.setTop (mkF m pc' L (.double v :: S)))) : Go p e below K (T.setTop (mkF m pc L S)) := by
  subst hp; exact k.of (fun _ q => XS.dload X.X.here X.hx rfl (X.d hd) hl q)
theorem g_dstoreN (X : St Z n0 p l e R s vm0 m args below meth c own nm bytes ml ret T locs cells slots h) {k : Fin 4} {v : UInt64} (hd : decode bytes pc = .ok (.dstore_n k, 1)) (hp : pc + 1 = pc') (hl : storeLocals L k.val (.double v) = some L') (k : Go p e below K (T.setTop (mkF m pc' L' S))) : Go p e below K (T.setTop (mkF m pc L (.double v :: S))) := by
  subst hp; exact k.of (fun _ q => XS.dstoreN X.X.here X.hx rfl (X.d hd) rfl hl q)
theorem g_dstore (X : St Z n0 p l e R s vm0 m args below meth c own nm bytes ml ret T locs cells slots h) {k : Nat} {v : UInt64} (hd : decode bytes pc = .ok (.dstore k, 2)) (hp : pc + 2 = pc') (hl : storeLocals L k (.double v) = some L') (k : Go p e below K (T.setTop (mkF m pc' L' S))) : Go p e below K (T.setTop (mkF m pc L (.double v :: S))) := by
  subst hp; exact k.of (fun _ q => XS.dstore X.X.here X.hx rfl (X.d hd) rfl hl q)
theorem g_dconst0 (X : St Z n0 p l e R s vm0 m args below meth c own nm bytes ml ret T locs cells slots h) (hd : decode bytes pc = .ok (.dconst 0, 1)) (hp : pc + 1 = pc') (k : Go p e below K (T.setTop (mkF m pc' L (.double FP.dconst0 :: S)))) : Go p e below K (T.setTop (mkF m pc L S)) := by
  subst hp; exact k.of (fun _ q => XS.dconst0 X.X.here X.hx rfl (X.d hd) rfl q)
theorem g_dconst1 (X : St Z n0 p l e R s vm0 m args below meth c own nm bytes ml ret T locs cells slots h) (hd : decode bytes pc = .ok (.dconst 1, 1)) (hp : pc + 1 = pc') (k : Go p e below K (T.setTop (mkF m pc' L (.double FP.dconst1 :: S)))) : Go p e below K (T.setTop (mkF m pc L S)) := by
  subst hp; exact k.of (fun _ q => XS.dconst1 X.X.here X.hx rfl (X.d hd) rfl q)
theorem g_i2d (X : St Z n0 p l e R s vm0 m args below meth c own nm bytes ml ret T locs cells slots h) {v : Int32} (hd : decode bytes pc = .ok (.i2d, 1)) (hp : pc + 1 = pc') (k : Go p e below K (T.setTop (mkF m pc' L (.double (FP.i2d v) :: S)))) : Go p e below K (T.setTop (mkF m pc L (.int v :: S))) := by
  subst hp; exact k.of (fun _ q => XS.i2dS X.X.here X.hx rfl (X.d hd) rfl rfl q)
theorem g_ddiv (X : St Z n0 p l e R s vm0 m args below meth c own nm bytes ml ret T locs cells slots h) {x y : UInt64} (hd : decode bytes pc = .ok (.ddiv, 1)) (hp : pc + 1 = pc') (hn : Jvm.Free.Fl.NoNaN64 (FP.ddiv x y)) (k : Go p e below K (T.setTop (mkF m pc' L (.double (FP.ddiv x y) :: S)))) : Go p e below K (T.setTop (mkF m pc L (.double y :: .double x :: S))) := by
  subst hp; exact k.of (fun _ q => XS.ddivS X.X.here X.hx rfl (X.d hd) rfl hn rfl q)
theorem g_dadd (X : St Z n0 p l e R s vm0 m args below meth c own nm bytes ml ret T locs cells slots h) {x y : UInt64} (hd : decode bytes pc = .ok (.dadd, 1)) (hp : pc + 1 = pc') (hn : Jvm.Free.Fl.NoNaN64 (FP.dadd x y)) (k : Go p e below K (T.setTop (mkF m pc' L (.double (FP.dadd x y) :: S)))) : Go p e below K (T.setTop (mkF m pc L (.double y :: .double x :: S))) := by
  subst hp; exact k.of (fun _ q => XS.daddS X.X.here X.hx rfl (X.d hd) rfl hn rfl q)
theorem g_dsub (X : St Z n0 p l e R s vm0 m args below meth c own nm bytes ml ret T locs cells slots h) {x y : UInt64} (hd : decode bytes pc = .ok (.dsub, 1)) (hp : pc + 1 = pc') (hn : Jvm.Free.Fl.NoNaN64 (FP.dsub x y)) (k : Go p e below K (T.setTop (mkF m pc' L (.double (FP.dsub x y) :: S)))) : Go p e below K (T.setTop (mkF m pc L (.double y :: .double x :: S))) := by
  subst hp; exact k.of (fun _ q => XS.dsubS X.X.here X.hx rfl (X.d hd) rfl hn rfl q)
theorem g_dmul (X : St Z n0 p l e R s vm0 m args below meth c own nm bytes ml ret T locs cells slots h) {x y : UInt64} (hd : decode bytes pc = .ok (.dmul, 1)) (hp : pc + 1 = pc') (hn : Jvm.Free.Fl.NoNaN64 (FP.dmul x y)) (k : Go p e below K (T.setTop (mkF m pc' L (.double (FP.dmul x y) :: S)))) : Go p e below K (T.setTop (mkF m pc L (.double y :: .double x :: S))) := by
  subst hp; exact k.of (fun _ q => XS.dmulS X.X.here X.hx rfl (X.d hd) rfl hn rfl q)
theorem g_dcmp (X : St Z n0 p l e R s vm0 m args below meth c own nm bytes ml ret T locs cells slots h) {x y : UInt64} {o : CmpOp} (hd : decode bytes pc = .ok (.dcmp o, 1)) (hp : pc + 1 = pc') (k : Go p e below K (T.setTop (mkF m pc' L (.int (cmpValue (FP.dcmp x y) o) :: S)))) : Go p e below K (T.setTop (mkF m pc L (.double y :: .double x :: S))) := by
  subst hp; exact k.of (fun _ q => XS.dcmpS X.X.here X.hx rfl (X.d hd) rfl rfl q)
theorem g_dneg (X : St Z n0 p l e R s vm0 m args below meth c own nm bytes ml ret T locs cells slots h) {x : UInt64} (hd : decode bytes pc = .ok (.dneg, 1)) (hp : pc + 1 = pc') (k : Go p e below K (T.setTop (mkF m pc' L (.double (FP.dneg x) :: S)))) : Go p e below K (T.setTop (mkF m pc L (.double x :: S))) := by
  subst hp; exact k.of (fun _ q => XS.dnegS X.X.here X.hx rfl (X.d hd) rfl rfl q)
theorem g_ldc2D (X : St Z n0 p l e R s vm0 m args below meth c own nm bytes ml ret T locs cells slots h) {i : Nat} {v : UInt64} (w : (Jvm.Cond.constantDouble own i v).before a0 Z = true) (hd : decode bytes pc = .ok (.ldc2_w i, 3)) (hp : pc + 3 = pc') (k : Go p e below K (T.setTop (mkF m pc' L (.double v :: S)))) : Go p e below K (T.setTop (mkF m pc L S)) := by
  subst hp; exact k.of (X.X.ldc2DoubleC X.hx X.own_ (mvT X.hZ w) (g := mkF m pc L S) rfl (X.d hd))
theorem g_goto (X : St Z n0 p l e R s vm0 m args below meth c own nm bytes ml ret T locs cells slots h) {o : Int} (hd : decode bytes pc = .ok (.goto o, 3)) (ho : (pc : Int) + o = (pt : Int)) (k : Go p e below K (T.setTop (mkF m pt L S))) : Go p e below K (T.setTop (mkF m pc L S)) :=
  k.of (fun _ q => XS.goto X.X.here X.hx rfl rfl (X.d hd) (ho ▸ Int.natCast_nonneg _) (by rw [ho]; rfl) q)
theorem g_icmp_eq_t (X : St Z n0 p l e R s vm0 m args below meth c own nm bytes ml ret T locs cells slots h) {x y : Int32} {o : Int} (hd : decode bytes pc = .ok (.if_icmp .eq o, 3)) (ho : (pc : Int) + o = (pt : Int)) (hc : x = y) (k : Go p e below K (T.setTop (mkF m pt L S))) : Go p e below K (T.setTop (mkF m pc L (.int y :: .int x :: S))) :=
  k.of (fun _ q => XS.icmpYes X.X.here X.hx rfl rfl (X.d hd) rfl ((teq hc).1) (ho ▸ Int.natCast_nonneg _) (by rw [ho]; rfl) q)
theorem g_icmp_eq_f (X : St Z n0 p l e R s vm0 m args below meth c own nm bytes ml ret T locs cells slots h) {x y : Int32} {o : Int} (hd : decode bytes pc = .ok (.if_icmp .eq o, 3)) (hp : pc + 3 = pc') (hc : ¬ x = y) (k : Go p e below K (T.setTop (mkF m pc' L S))) : Go p e below K (T.setTop (mkF m pc L (.int y :: .int x :: S))) := by
  subst hp; exact k.of (fun _ q => XS.icmpNo X.X.here X.hx rfl (X.d hd) rfl ((feq hc).1) q)
theorem g_icmp_eq (X : St Z n0 p l e R s vm0 m args below meth c own nm bytes ml ret T locs cells slots h) {x y : Int32} {o : Int} (hd : decode bytes pc = .ok (.if_icmp .eq o, 3)) (ho : (pc : Int) + o = (pt : Int)) (hp : pc + 3 = pc') (yes : x = y → Go p e below K (T.setTop (mkF m pt L S))) (no : ¬ x = y → Go p e below K (T.setTop (mkF m pc' L S))) : Go p e below K (T.setTop (mkF m pc L (.int y :: .int x :: S))) := by
  by_cases hc : x = y
  · exact g_icmp_eq_t X hd ho hc (yes hc)
  · exact g_icmp_eq_f X hd hp hc (no hc)
theorem g_if_eq_t (X : St Z n0 p l e R s vm0 m args below meth c own nm bytes ml ret T locs cells slots h) {x : Int32} {o : Int} (hd : decode bytes pc = .ok (.ifCond .eq o, 3)) (ho : (pc : Int) + o = (pt : Int)) (hc : x = 0) (k : Go p e below K (T.setTop (mkF m pt L S))) : Go p e below K (T.setTop (mkF m pc L (.int x :: S))) :=
  k.of (fun _ q => XS.ifYes X.X.here X.hx rfl rfl (X.d hd) rfl ((if0 _ _).trans ((teq hc).1)) (ho ▸ Int.natCast_nonneg _) (by rw [ho]; rfl) q)
theorem g_if_eq_f (X : St Z n0 p l e R s vm0 m args below meth c own nm bytes ml ret T locs cells slots h) {x : Int32} {o : Int} (hd : decode bytes pc = .ok (.ifCond .eq o, 3)) (hp : pc + 3 = pc') (hc : ¬ x = 0) (k : Go p e below K (T.setTop (mkF m pc' L S))) : Go p e below K (T.setTop (mkF m pc L (.int x :: S))) := by
  subst hp; exact k.of (fun _ q => XS.ifNo X.X.here X.hx rfl (X.d hd) rfl ((if0 _ _).trans ((feq hc).1)) q)
theorem g_if_eq (X : St Z n0 p l e R s vm0 m args below meth c own nm bytes ml ret T locs cells slots h) {x : Int32} {o : Int} (hd : decode bytes pc = .ok (.ifCond .eq o, 3)) (ho : (pc : Int) + o = (pt : Int)) (hp : pc + 3 = pc') (yes : x = 0 → Go p e below K (T.setTop (mkF m pt L S))) (no : ¬ x = 0 → Go p e below K (T.setTop (mkF m pc' L S))) : Go p e below K (T.setTop (mkF m pc L (.int x :: S))) := by
  by_cases hc : x = 0
  · exact g_if_eq_t X hd ho hc (yes hc)
  · exact g_if_eq_f X hd hp hc (no hc)
theorem g_icmp_ne_t (X : St Z n0 p l e R s vm0 m args below meth c own nm bytes ml ret T locs cells slots h) {x y : Int32} {o : Int} (hd : decode bytes pc = .ok (.if_icmp .ne o, 3)) (ho : (pc : Int) + o = (pt : Int)) (hc : ¬ x = y) (k : Go p e below K (T.setTop (mkF m pt L S))) : Go p e below K (T.setTop (mkF m pc L (.int y :: .int x :: S))) :=
  k.of (fun _ q => XS.icmpYes X.X.here X.hx rfl rfl (X.d hd) rfl ((feq hc).2) (ho ▸ Int.natCast_nonneg _) (by rw [ho]; rfl) q)
theorem g_icmp_ne_f (X : St Z n0 p l e R s vm0 m args below meth c own nm bytes ml ret T locs cells slots h) {x y : Int32} {o : Int} (hd : decode bytes pc = .ok (.if_icmp .ne o, 3)) (hp : pc + 3 = pc') (hc : x = y) (k : Go p e below K (T.setTop (mkF m pc' L S))) : Go p e below K (T.setTop (mkF m pc L (.int y :: .int x :: S))) := by
  subst hp; exact k.of (fun _ q => XS.icmpNo X.X.here X.hx rfl (X.d hd) rfl ((teq hc).2) q)
theorem g_icmp_ne (X : St Z n0 p l e R s vm0 m args below meth c own nm bytes ml ret T locs cells slots h) {x y : Int32} {o : Int} (hd : decode bytes pc = .ok (.if_icmp .ne o, 3)) (ho : (pc : Int) + o = (pt : Int)) (hp : pc + 3 = pc') (yes : ¬ x = y → Go p e below K (T.setTop (mkF m pt L S))) (no : x = y → Go p e below K (T.setTop (mkF m pc' L S))) : Go p e below K (T.setTop (mkF m pc L (.int y :: .int x :: S))) := by
  by_cases hc : x = y
  · exact g_icmp_ne_f X hd hp hc (no hc)
  · exact g_icmp_ne_t X hd ho hc (yes hc)
theorem g_if_ne_t (X : St Z n0 p l e R s vm0 m args below meth c own nm bytes ml ret T locs cells slots h) {x : Int32} {o : Int} (hd : decode bytes pc = .ok (.ifCond .ne o, 3)) (ho : (pc : Int) + o = (pt : Int)) (hc : ¬ x = 0) (k : Go p e below K (T.setTop (mkF m pt L S))) : Go p e below K (T.setTop (mkF m pc L (.int x :: S))) :=
  k.of (fun _ q => XS.ifYes X.X.here X.hx rfl rfl (X.d hd) rfl ((if0 _ _).trans ((feq hc).2)) (ho ▸ Int.natCast_nonneg _) (by rw [ho]; rfl) q)
theorem g_if_ne_f (X : St Z n0 p l e R s vm0 m args below meth c own nm bytes ml ret T locs cells slots h) {x : Int32} {o : Int} (hd : decode bytes pc = .ok (.ifCond .ne o, 3)) (hp : pc + 3 = pc') (hc : x = 0) (k : Go p e below K (T.setTop (mkF m pc' L S))) : Go p e below K (T.setTop (mkF m pc L (.int x :: S))) := by
  subst hp; exact k.of (fun _ q => XS.ifNo X.X.here X.hx rfl (X.d hd) rfl ((if0 _ _).trans ((teq hc).2)) q)
theorem g_if_ne (X : St Z n0 p l e R s vm0 m args below meth c own nm bytes ml ret T locs cells slots h) {x : Int32} {o : Int} (hd : decode bytes pc = .ok (.ifCond .ne o, 3)) (ho : (pc : Int) + o = (pt : Int)) (hp : pc + 3 = pc') (yes : ¬ x = 0 → Go p e below K (T.setTop (mkF m pt L S))) (no : x = 0 → Go p e below K (T.setTop (mkF m pc' L S))) : Go p e below K (T.setTop (mkF m pc L (.int x :: S))) := by
  by_cases hc : x = 0
  · exact g_if_ne_f X hd hp hc (no hc)
  · exact g_if_ne_t X hd ho hc (yes hc)
theorem g_icmp_lt_t (X : St Z n0 p l e R s vm0 m args below meth c own nm bytes ml ret T locs cells slots h) {x y : Int32} {o : Int} (hd : decode bytes pc = .ok (.if_icmp .lt o, 3)) (ho : (pc : Int) + o = (pt : Int)) (hc : x < y) (k : Go p e below K (T.setTop (mkF m pt L S))) : Go p e below K (T.setTop (mkF m pc L (.int y :: .int x :: S))) :=
  k.of (fun _ q => XS.icmpYes X.X.here X.hx rfl rfl (X.d hd) rfl ((tlt hc).1) (ho ▸ Int.natCast_nonneg _) (by rw [ho]; rfl) q)
theorem g_icmp_lt_f (X : St Z n0 p l e R s vm0 m args below meth c own nm bytes ml ret T locs cells slots h) {x y : Int32} {o : Int} (hd : decode bytes pc = .ok (.if_icmp .lt o, 3)) (hp : pc + 3 = pc') (hc : ¬ x < y) (k : Go p e below K (T.setTop (mkF m pc' L S))) : Go p e below K (T.setTop (mkF m pc L (.int y :: .int x :: S))) := by
  subst hp; exact k.of (fun _ q => XS.icmpNo X.X.here X.hx rfl (X.d hd) rfl ((flt hc).1) q)
theorem g_icmp_lt (X : St Z n0 p l e R s vm0 m args below meth c own nm bytes ml ret T locs cells slots h) {x y : Int32} {o : Int} (hd : decode bytes pc = .ok (.if_icmp .lt o, 3)) (ho : (pc : Int) + o = (pt : Int)) (hp : pc + 3 = pc') (yes : x < y → Go p e below K (T.setTop (mkF m pt L S))) (no : ¬ x < y → Go p e below K (T.setTop (mkF m pc' L S))) : Go p e below K (T.setTop (mkF m pc L (.int y :: .int x :: S))) := by
  by_cases hc : x < y
  · exact g_icmp_lt_t X hd ho hc (yes hc)
  · exact g_icmp_lt_f X hd hp hc (no hc)
theorem g_if_lt_t (X : St Z n0 p l e R s vm0 m args below meth c own nm bytes ml ret T locs cells slots h) {x : Int32} {o : Int} (hd : decode bytes pc = .ok (.ifCond .lt o, 3)) (ho : (pc : Int) + o = (pt : Int)) (hc : x < 0) (k : Go p e below K (T.setTop (mkF m pt L S))) : Go p e below K (T.setTop (mkF m pc L (.int x :: S))) :=
  k.of (fun _ q => XS.ifYes X.X.here X.hx rfl rfl (X.d hd) rfl ((if0 _ _).trans ((tlt hc).1)) (ho ▸ Int.natCast_nonneg _) (by rw [ho]; rfl) q)
theorem g_if_lt_f (X : St Z n0 p l e R s vm0 m args below meth c own nm bytes ml ret T locs cells slots h) {x : Int32} {o : Int} (hd : decode bytes pc = .ok (.ifCond .lt o, 3)) (hp : pc + 3 = pc') (hc : ¬ x < 0) (k : Go p e below K (T.setTop (mkF m pc' L S))) : Go p e below K (T.setTop (mkF m pc L (.int x :: S))) := by
  subst hp; exact k.of (fun _ q => XS.ifNo X.X.here X.hx rfl (X.d hd) rfl ((if0 _ _).trans ((flt hc).1)) q)
theorem g_if_lt (X : St Z n0 p l e R s vm0 m args below meth c own nm bytes ml ret T locs cells slots h) {x : Int32} {o : Int} (hd : decode bytes pc = .ok (.ifCond .lt o, 3)) (ho : (pc : Int) + o = (pt : Int)) (hp : pc + 3 = pc') (yes : x < 0 → Go p e below K (T.setTop (mkF m pt L S))) (no : ¬ x < 0 → Go p e below K (T.setTop (mkF m pc' L S))) : Go p e below K (T.setTop (mkF m pc L (.int x :: S))) := by
  by_cases hc : x < 0
  · exact g_if_lt_t X hd ho hc (yes hc)
  · exact g_if_lt_f X hd hp hc (no hc)
theorem g_icmp_ge_t (X : St Z n0 p l e R s vm0 m args below meth c own nm bytes ml ret T locs cells slots h) {x y : Int32} {o : Int} (hd : decode bytes pc = .ok (.if_icmp .ge o, 3)) (ho : (pc : Int) + o = (pt : Int)) (hc : ¬ x < y) (k : Go p e below K (T.setTop (mkF m pt L S))) : Go p e below K (T.setTop (mkF m pc L (.int y :: .int x :: S))) :=
  k.of (fun _ q => XS.icmpYes X.X.here X.hx rfl rfl (X.d hd) rfl ((flt hc).2.1) (ho ▸ Int.natCast_nonneg _) (by rw [ho]; rfl) q)
theorem g_icmp_ge_f (X : St Z n0 p l e R s vm0 m args below meth c own nm bytes ml ret T locs cells slots h) {x y : Int32} {o : Int} (hd : decode bytes pc = .ok (.if_icmp .ge o, 3)) (hp : pc + 3 = pc') (hc : x < y) (k : Go p e below K (T.setTop (mkF m pc' L S))) : Go p e below K (T.setTop (mkF m pc L (.int y :: .int x :: S))) := by
  subst hp; exact k.of (fun _ q => XS.icmpNo X.X.here X.hx rfl (X.d hd) rfl ((tlt hc).2.1) q)
theorem g_icmp_ge (X : St Z n0 p l e R s vm0 m args below meth c own nm bytes ml ret T locs cells slots h) {x y : Int32} {o : Int} (hd : decode bytes pc = .ok (.if_icmp .ge o, 3)) (ho : (pc : Int) + o = (pt : Int)) (hp : pc + 3 = pc') (yes : ¬ x < y → Go p e below K (T.setTop (mkF m pt L S))) (no : x < y → Go p e below K (T.setTop (mkF m pc' L S))) : Go p e below K (T.setTop (mkF m pc L (.int y :: .int x :: S))) := by
  by_cases hc : x < y
  · exact g_icmp_ge_f X hd hp hc (no hc)
  · exact g_icmp_ge_t X hd ho hc (yes hc)
theorem g_if_ge_t (X : St Z n0 p l e R s vm0 m args below meth c own nm bytes ml ret T locs cells slots h) {x : Int32} {o : Int} (hd : decode bytes pc = .ok (.ifCond .ge o, 3)) (ho : (pc : Int) + o = (pt : Int)) (hc : ¬ x < 0) (k : Go p e below K (T.setTop (mkF m pt L S))) : Go p e below K (T.setTop (mkF m pc L (.int x :: S))) :=
  k.of (fun _ q => XS.ifYes X.X.here X.hx rfl rfl (X.d hd) rfl ((if0 _ _).trans ((flt hc).2.1)) (ho ▸ Int.natCast_nonneg _) (by rw [ho]; rfl) q)
theorem g_if_ge_f (X : St Z n0 p l e R s vm0 m args below meth c own nm bytes ml ret T locs cells slots h) {x : Int32} {o : Int} (hd : decode bytes pc = .ok (.ifCond .ge o, 3)) (hp : pc + 3 = pc') (hc : x < 0) (k : Go p e below K (T.setTop (mkF m pc' L S))) : Go p e below K (T.setTop (mkF m pc L (.int x :: S))) := by
  subst hp; exact k.of (fun _ q => XS.ifNo X.X.here X.hx rfl (X.d hd) rfl ((if0 _ _).trans ((tlt hc).2.1)) q)
theorem g_if_ge (X : St Z n0 p l e R s vm0 m args below meth c own nm bytes ml ret T locs cells slots h) {x : Int32} {o : Int} (hd : decode bytes pc = .ok (.ifCond .ge o, 3)) (ho : (pc : Int) + o = (pt : Int)) (hp : pc + 3 = pc') (yes : ¬ x < 0 → Go p e below K (T.setTop (mkF m pt L S))) (no : x < 0 → Go p e below K (T.setTop (mkF m pc' L S))) : Go p e below K (T.setTop (mkF m pc L (.int x :: S))) := by
  by_cases hc : x < 0
  · exact g_if_ge_f X hd hp hc (no hc)
  · exact g_if_ge_t X hd ho hc (yes hc)
theorem g_icmp_gt_t (X : St Z n0 p l e R s vm0 m args below meth c own nm bytes ml ret T locs cells slots h) {x y : Int32} {o : Int} (hd : decode bytes pc = .ok (.if_icmp .gt o, 3)) (ho : (pc : Int) + o = (pt : Int)) (hc : y < x) (k : Go p e below K (T.setTop (mkF m pt L S))) : Go p e below K (T.setTop (mkF m pc L (.int y :: .int x :: S))) :=
  k.of (fun _ q => XS.icmpYes X.X.here X.hx rfl rfl (X.d hd) rfl ((tlt hc).2.2.1) (ho ▸ Int.natCast_nonneg _) (by rw [ho]; rfl) q)
theorem g_icmp_gt_f (X : St Z n0 p l e R s vm0 m args below meth c own nm bytes ml ret T locs cells slots h) {x y : Int32} {o : Int} (hd : decode bytes pc = .ok (.if_icmp .gt o, 3)) (hp : pc + 3 = pc') (hc : ¬ y < x) (k : Go p e below K (T.setTop (mkF m pc' L S))) : Go p e below K (T.setTop (mkF m pc L (.int y :: .int x :: S))) := by
  subst hp; exact k.of (fun _ q => XS.icmpNo X.X.here X.hx rfl (X.d hd) rfl ((flt hc).2.2.1) q)
theorem g_icmp_gt (X : St Z n0 p l e R s vm0 m args below meth c own nm bytes ml ret T locs cells slots h) {x y : Int32} {o : Int} (hd : decode bytes pc = .ok (.if_icmp .gt o, 3)) (ho : (pc : Int) + o = (pt : Int)) (hp : pc + 3 = pc') (yes : y < x → Go p e below K (T.setTop (mkF m pt L S))) (no : ¬ y < x → Go p e below K (T.setTop (mkF m pc' L S))) : Go p e below K (T.setTop (mkF m pc L (.int y :: .int x :: S))) := by
  by_cases hc : y < x
  · exact g_icmp_gt_t X hd ho hc (yes hc)
  · exact g_icmp_gt_f X hd hp hc (no hc)
theorem g_if_gt_t (X : St Z n0 p l e R s vm0 m args below meth c own nm bytes ml ret T locs cells slots h) {x : Int32} {o : Int} (hd : decode bytes pc = .ok (.ifCond .gt o, 3)) (ho : (pc : Int) + o = (pt : Int)) (hc : 0 < x) (k : Go p e below K (T.setTop (mkF m pt L S))) : Go p e below K (T.setTop (mkF m pc L (.int x :: S))) :=
  k.of (fun _ q => XS.ifYes X.X.here X.hx rfl rfl (X.d hd) rfl ((if0 _ _).trans ((tlt hc).2.2.1)) (ho ▸ Int.natCast_nonneg _) (by rw [ho]; rfl) q)
theorem g_if_gt_f (X : St Z n0 p l e R s vm0 m args below meth c own nm bytes ml ret T locs cells slots h) {x : Int32} {o : Int} (hd : decode bytes pc = .ok (.ifCond .gt o, 3)) (hp : pc + 3 = pc') (hc : ¬ 0 < x) (k : Go p e below K (T.setTop (mkF m pc' L S))) : Go p e below K (T.setTop (mkF m pc L (.int x :: S))) := by
  subst hp; exact k.of (fun _ q => XS.ifNo X.X.here X.hx rfl (X.d hd) rfl ((if0 _ _).trans ((flt hc).2.2.1)) q)
theorem g_if_gt (X : St Z n0 p l e R s vm0 m args below meth c own nm bytes ml ret T locs cells slots h) {x : Int32} {o : Int} (hd : decode bytes pc = .ok (.ifCond .gt o, 3)) (ho : (pc : Int) + o = (pt : Int)) (hp : pc + 3 = pc') (yes : 0 < x → Go p e below K (T.setTop (mkF m pt L S))) (no : ¬ 0 < x → Go p e below K (T.setTop (mkF m pc' L S))) : Go p e below K (T.setTop (mkF m pc L (.int x :: S))) := by
  by_cases hc : 0 < x
  · exact g_if_gt_t X hd ho hc (yes hc)
  · exact g_if_gt_f X hd hp hc (no hc)
theorem g_icmp_le_t (X : St Z n0 p l e R s vm0 m args below meth c own nm bytes ml ret T locs cells slots h) {x y : Int32} {o : Int} (hd : decode bytes pc = .ok (.if_icmp .le o, 3)) (ho : (pc : Int) + o = (pt : Int)) (hc : ¬ y < x) (k : Go p e below K (T.setTop (mkF m pt L S))) : Go p e below K (T.setTop (mkF m pc L (.int y :: .int x :: S))) :=
  k.of (fun _ q => XS.icmpYes X.X.here X.hx rfl rfl (X.d hd) rfl ((flt hc).2.2.2) (ho ▸ Int.natCast_nonneg _) (by rw [ho]; rfl) q)
theorem g_icmp_le_f (X : St Z n0 p l e R s vm0 m args below meth c own nm bytes ml ret T locs cells slots h) {x y : Int32} {o : Int} (hd : decode bytes pc = .ok (.if_icmp .le o, 3)) (hp : pc + 3 = pc') (hc : y < x) (k : Go p e below K (T.setTop (mkF m pc' L S))) : Go p e below K (T.setTop (mkF m pc L (.int y :: .int x :: S))) := by
  subst hp; exact k.of (fun _ q => XS.icmpNo X.X.here X.hx rfl (X.d hd) rfl ((tlt hc).2.2.2) q)
theorem g_icmp_le (X : St Z n0 p l e R s vm0 m args below meth c own nm bytes ml ret T locs cells slots h) {x y : Int32} {o : Int} (hd : decode bytes pc = .ok (.if_icmp .le o, 3)) (ho : (pc : Int) + o = (pt : Int)) (hp : pc + 3 = pc') (yes : ¬ y < x → Go p e below K (T.setTop (mkF m pt L S))) (no : y < x → Go p e below K (T.setTop (mkF m pc' L S))) : Go p e below K (T.setTop (mkF m pc L (.int y :: .int x :: S))) := by
  by_cases hc : y < x
  · exact g_icmp_le_f X hd hp hc (no hc)
  · exact g_icmp_le_t X hd ho hc (yes hc)
theorem g_if_le_t (X : St Z n0 p l e R s vm0 m args below meth c own nm bytes ml ret T locs cells slots h) {x : Int32} {o : Int} (hd : decode bytes pc = .ok (.ifCond .le o, 3)) (ho : (pc : Int) + o = (pt : Int)) (hc : ¬ 0 < x) (k : Go p e below K (T.setTop (mkF m pt L S))) : Go p e below K (T.setTop (mkF m pc L (.int x :: S))) :=
  k.of (fun _ q => XS.ifYes X.X.here X.hx rfl rfl (X.d hd) rfl ((if0 _ _).trans ((flt hc).2.2.2)) (ho ▸ Int.natCast_nonneg _) (by rw [ho]; rfl) q)
theorem g_if_le_f (X : St Z n0 p l e R s vm0 m args below meth c own nm bytes ml ret T locs cells slots h) {x : Int32} {o : Int} (hd : decode bytes pc = .ok (.ifCond .le o, 3)) (hp : pc + 3 = pc') (hc : 0 < x) (k : Go p e below K (T.setTop (mkF m pc' L S))) : Go p e below K (T.setTop (mkF m pc L (.int x :: S))) := by
  subst hp; exact k.of (fun _ q => XS.ifNo X.X.here X.hx rfl (X.d hd) rfl ((if0 _ _).trans ((tlt hc).2.2.2)) q)
theorem g_if_le (X : St Z n0 p l e R s vm0 m args below meth c own nm bytes ml ret T locs cells slots h) {x : Int32} {o : Int} (hd : decode bytes pc = .ok (.ifCond .le o, 3)) (ho : (pc : Int) + o = (pt : Int)) (hp : pc + 3 = pc') (yes : ¬ 0 < x → Go p e below K (T.setTop (mkF m pt L S))) (no : 0 < x → Go p e below K (T.setTop (mkF m pc' L S))) : Go p e below K (T.setTop (mkF m pc L (.int x :: S))) := by
  by_cases hc : 0 < x
  · exact g_if_le_f X hd hp hc (no hc)
  · exact g_if_le_t X hd ho hc (yes hc)
theorem g_lcmp_eq (X : St Z n0 p l e R s vm0 m args below meth c own nm bytes ml ret T locs cells slots h) {x y : Int64} {o : Int} (hd : decode bytes pc = .ok (.lcmp, 1)) (hd' : decode bytes (pc + 1) = .ok (.ifCond .eq o, 3)) (ho : ((pc + 1 : Nat) : Int) + o = (pt : Int)) (hp : pc + 1 + 3 = pc') (yes : x = y → Go p e below K (T.setTop (mkF m pt L S))) (no : ¬ x = y → Go p e below K (T.setTop (mkF m pc' L S))) : Go p e below K (T.setTop (mkF m pc L (.long y :: .long x :: S))) := by
  refine g_lcmp X hd rfl ?_
  refine g_if_eq X hd' ho hp (fun q => yes ?_) (fun q => no ?_)
  · rwa [lw_eq] at q
  · rwa [lw_eq] at q
theorem g_lcmp_ne (X : St Z n0 p l e R s vm0 m args below meth c own nm bytes ml ret T locs cells slots h) {x y : Int64} {o : Int} (hd : decode bytes pc = .ok (.lcmp, 1)) (hd' : decode bytes (pc + 1) = .ok (.ifCond .ne o, 3)) (ho : ((pc + 1 : Nat) : Int) + o = (pt : Int)) (hp : pc + 1 + 3 = pc') (yes : ¬ x = y → Go p e below K (T.setTop (mkF m pt L S))) (no : x = y → Go p e below K (T.setTop (mkF m pc' L S))) : Go p e below K (T.setTop (mkF m pc L (.long y :: .long x :: S))) := by
  refine g_lcmp X hd rfl ?_
  refine g_if_ne X hd' ho hp (fun q => yes ?_) (fun q => no ?_)
  · rwa [lw_eq] at q
  · rwa [lw_eq] at q
theorem g_lcmp_lt (X : St Z n0 p l e R s vm0 m args below meth c own nm bytes ml ret T locs cells slots h) {x y : Int64} {o : Int} (hd : decode bytes pc = .ok (.lcmp, 1)) (hd' : decode bytes (pc + 1) = .ok (.ifCond .lt o, 3)) (ho : ((pc + 1 : Nat) : Int) + o = (pt : Int)) (hp : pc + 1 + 3 = pc') (yes : x < y → Go p e below K (T.setTop (mkF m pt L S))) (no : ¬ x < y → Go p e below K (T.setTop (mkF m pc' L S))) : Go p e below K (T.setTop (mkF m pc L (.long y :: .long x :: S))) := by
  refine g_lcmp X hd rfl ?_
  refine g_if_lt X hd' ho hp (fun q => yes ?_) (fun q => no ?_)
  · rwa [lw_lt] at q
  · rwa [lw_lt] at q
theorem g_lcmp_ge (X : St Z n0 p l e R s vm0 m args below meth c own nm bytes ml ret T locs cells slots h) {x y : Int64} {o : Int} (hd : decode bytes pc = .ok (.lcmp, 1)) (hd' : decode bytes (pc + 1) = .ok (.ifCond .ge o, 3)) (ho : ((pc + 1 : Nat) : Int) + o = (pt : Int)) (hp : pc + 1 + 3 = pc') (yes : ¬ x < y → Go p e below K (T.setTop (mkF m pt L S))) (no : x < y → Go p e below K (T.setTop (mkF m pc' L S))) : Go p e below K (T.setTop (mkF m pc L (.long y :: .long x :: S))) := by
  refine g_lcmp X hd rfl ?_
  refine g_if_ge X hd' ho hp (fun q => yes ?_) (fun q => no ?_)
  · rwa [lw_lt] at q
  · rwa [lw_lt] at q
theorem g_lcmp_gt (X : St Z n0 p l e R s vm0 m args below meth c own nm bytes ml ret T locs cells slots h) {x y : Int64} {o : Int} (hd : decode bytes pc = .ok (.lcmp, 1)) (hd' : decode bytes (pc + 1) = .ok (.ifCond .gt o, 3)) (ho : ((pc + 1 : Nat) : Int) + o = (pt : Int)) (hp : pc + 1 + 3 = pc') (yes : y < x → Go p e below K (T.setTop (mkF m pt L S))) (no : ¬ y < x → Go p e below K (T.setTop (mkF m pc' L S))) : Go p e below K (T.setTop (mkF m pc L (.long y :: .long x :: S))) := by
  refine g_lcmp X hd rfl ?_
  refine g_if_gt X hd' ho hp (fun q => yes ?_) (fun q => no ?_)
  · rwa [lw_gt] at q
  · rwa [lw_gt] at q
theorem g_lcmp_le (X : St Z n0 p l e R s vm0 m args below meth c own nm bytes ml ret T locs cells slots h) {x y : Int64} {o : Int} (hd : decode bytes pc = .ok (.lcmp, 1)) (hd' : decode bytes (pc + 1) = .ok (.ifCond .le o, 3)) (ho : ((pc + 1 : Nat) : Int) + o = (pt : Int)) (hp : pc + 1 + 3 = pc') (yes : ¬ y < x → Go p e below K (T.setTop (mkF m pt L S))) (no : y < x → Go p e below K (T.setTop (mkF m pc' L S))) : Go p e below K (T.setTop (mkF m pc L (.long y :: .long x :: S))) := by
  refine g_lcmp X hd rfl ?_
  refine g_if_le X hd' ho hp (fun q => yes ?_) (fun q => no ?_)
  · rwa [lw_gt] at q
  · rwa [lw_gt] at q
theorem g_ifnull_t (X : St Z n0 p l e R s vm0 m args below meth c own nm bytes ml ret T locs cells slots h) {o : Int} (hd : decode bytes pc = .ok (.ifnull o, 3)) (ho : (pc : Int) + o = (pt : Int)) (k : Go p e below K (T.setTop (mkF m pt L S))) : Go p e below K (T.setTop (mkF m pc L (.null :: S))) :=
  k.of (fun _ q => XS.ifnullYes X.X.here X.hx rfl rfl (X.d hd) rfl (ho ▸ Int.natCast_nonneg _) (by rw [ho]; rfl) q)
theorem g_ifnull_f (X : St Z n0 p l e R s vm0 m args below meth c own nm bytes ml ret T locs cells slots h) {o : Int} {a : Addr} (hd : decode bytes pc = .ok (.ifnull o, 3)) (hp : pc + 3 = pc') (k : Go p e below K (T.setTop (mkF m pc' L S))) : Go p e below K (T.setTop (mkF m pc L (.ref a :: S))) := by
  subst hp; exact k.of (fun _ q => XS.ifnullNo X.X.here X.hx rfl (X.d hd) rfl q)
theorem g_ifnonnull_t (X : St Z n0 p l e R s vm0 m args below meth c own nm bytes ml ret T locs cells slots h) {o : Int} {a : Addr} (hd : decode bytes pc = .ok (.ifnonnull o, 3)) (ho : (pc : Int) + o = (pt : Int)) (k : Go p e below K (T.setTop (mkF m pt L S))) : Go p e below K (T.setTop (mkF m pc L (.ref a :: S))) :=
  k.of (fun _ q => XS.ifnonnullYes X.X.here X.hx rfl rfl (X.d hd) rfl (ho ▸ Int.natCast_nonneg _) (by rw [ho]; rfl) q)
theorem g_ifnonnull_f (X : St Z n0 p l e R s vm0 m args below meth c own nm bytes ml ret T locs cells slots h) {o : Int} (hd : decode bytes pc = .ok (.ifnonnull o, 3)) (hp : pc + 3 = pc') (k : Go p e below K (T.setTop (mkF m pc' L S))) : Go p e below K (T.setTop (mkF m pc L (.null :: S))) := by
  subst hp; exact k.of (fun _ q => XS.ifnonnullNo X.X.here X.hx rfl (X.d hd) rfl q)
theorem g_acmp (X : St Z n0 p l e R s vm0 m args below meth c own nm bytes ml ret T locs cells slots h) {cd : ACond} {x y : Value} {o : Int} {same : Bool} (h1 : x.isRef = true) (h2 : y.isRef = true) (hd : decode bytes pc = .ok (.if_acmp cd o, 3)) (ho : (pc : Int) + o = (pt : Int)) (hq : decide (x = y) = same) (hp : pc' = if acV cd same = true then pt else pc + 3) (k : Go p e below K (T.setTop (mkF m pc' L S))) : Go p e below K (T.setTop (mkF m pc L (y :: x :: S))) :=
  k.of (fun _ q => Jvm.RoadKit.acmp X.X X.hx rfl h1 h2 rfl (X.d hd) rfl hq (ho ▸ Int.natCast_nonneg _) (by rw [hp, ho]; rfl) q)
theorem g_acmp_eq (X : St Z n0 p l e R s vm0 m args below meth c own nm bytes ml ret T locs cells slots h) {a b : Addr} {o : Int} (hd : decode bytes pc = .ok (.if_acmp .eq o, 3)) (ho : (pc : Int) + o = (pt : Int)) (hp : pc + 3 = pc') (yes : a = b → Go p e below K (T.setTop (mkF m pt L S))) (no : ¬ a = b → Go p e below K (T.setTop (mkF m pc' L S))) : Go p e below K (T.setTop (mkF m pc L (.ref b :: .ref a :: S))) := by
  subst hp
  by_cases hc : a = b
  · exact g_acmp X (same := true) rfl rfl hd ho (decide_eq_true (congrArg Value.ref hc)) rfl (yes hc)
  · exact g_acmp X (same := false) rfl rfl hd ho (decide_eq_false fun q => hc (Value.ref.inj q)) rfl (no hc)
theorem g_acmp_ne (X : St Z n0 p l e R s vm0 m args below meth c own nm bytes ml ret T locs cells slots h) {a b : Addr} {o : Int} (hd : decode bytes pc = .ok (.if_acmp .ne o, 3)) (ho : (pc : Int) + o = (pt : Int)) (hp : pc + 3 = pc') (yes : ¬ a = b → Go p e below K (T.setTop (mkF m pt L S))) (no : a = b → Go p e below K (T.setTop (mkF m pc' L S))) : Go p e below K (T.setTop (mkF m pc L (.ref b :: .ref a :: S))) := by
  subst hp
  by_cases hc : a = b
  · exact g_acmp X (same := true) rfl rfl hd ho (decide_eq_true (congrArg Value.ref hc)) rfl (no hc)
  · exact g_acmp X (same := false) rfl rfl hd ho (decide_eq_false fun q => hc (Value.ref.inj q)) rfl (yes hc)
theorem g_ldc (X : St Z n0 p l e R s vm0 m args below meth c own nm bytes ml ret T locs cells slots h) {i : Nat} {v : Int32} (w : (Jvm.Cond.constant own i v).before a0 Z = true) (hd : decode bytes pc = .ok (.ldc i, 2)) (hp : pc + 2 = pc') (k : Go p e below K (T.setTop (mkF m pc' L (.int v :: S)))) : Go p e below K (T.setTop (mkF m pc L S)) := by
  subst hp; exact k.of (X.X.ldcInt X.hx X.own_ (mvT X.hZ w) (g := mkF m pc L S) rfl (X.d hd))
theorem g_ldc2 (X : St Z n0 p l e R s vm0 m args below meth c own nm bytes ml ret T locs cells slots h) {i : Nat} {v : Int64} (w : (Jvm.Cond.constantLong own i v).before a0 Z = true) (hd : decode bytes pc = .ok (.ldc2_w i, 3)) (hp : pc + 3 = pc') (k : Go p e below K (T.setTop (mkF m pc' L (.long v :: S)))) : Go p e below K (T.setTop (mkF m pc L S)) := by
  subst hp; exact k.of (X.X.ldc2Long X.hx X.own_ (mvT X.hZ w) (g := mkF m pc L S) rfl (X.d hd))
theorem g_getF (X : St Z n0 p l e R s vm0 m args below meth c own nm bytes ml ret T locs cells slots h) {R0 O n d host : String} {i : Nat} {a : Addr} {v : Value} (w : (Jvm.Cond.fieldLink own i R0 n d).before a0 Z = true ∨ (Jvm.Cond.fieldLinkNest own i R0 n d host).before a0 Z = true) (via : Via Z R0 O n d) (F : Fld Z h a O n d v) (hd : decode bytes pc = .ok (.getfield i, 3)) (hp : pc + 3 = pc') (k : ∀ T', St Z n0 p l e R s vm0 m args below meth c own nm bytes ml ret T' locs cells slots h → Go p e below K (T'.setTop (mkF m pc' L (v :: S)))) : Go p e below K (T.setTop (mkF m pc L (.ref a :: S))) := by
  obtain ⟨T', X', e', st'⟩ := getF X.X X.hx X.hZ X.own_ w via X.eT F (g := mkF m pc L (.ref a :: S)) rfl rfl (X.d hd)
  subst hp; exact (k T' (X.to X' e' X.fr X.old (Nat.le_refl _))).of st'
theorem g_getS (X : St Z n0 p l e R s vm0 m args below meth c own nm bytes ml ret T locs cells slots h) {O n d : String} {i : Nat} {v : Value} (w : (Jvm.Cond.fieldLink own i O n d).before a0 Z = true) (F : Sta Z h O n d v) (hd : decode bytes pc = .ok (.getstatic i, 3)) (hp : pc + 3 = pc') (k : ∀ T', St Z n0 p l e R s vm0 m args below meth c own nm bytes ml ret T' locs cells slots h → Go p e below K (T'.setTop (mkF m pc' L (v :: S)))) : Go p e below K (T.setTop (mkF m pc L S)) := by
  obtain ⟨T', X', e', st'⟩ := getS X.X X.hx X.hZ (host := "") X.own_ w Via.refl X.eT F (g := mkF m pc L S) rfl (X.d hd)
  subst hp; exact (k T' (X.to X' e' X.fr X.old (Nat.le_refl _))).of st'
theorem g_putF (X : St Z n0 p l e R s vm0 m args below meth c own nm bytes ml ret T locs cells slots h) {R0 O n d host C : String} {i kk : Nat} {ty : FieldType} {a : Addr} {v old : Value} (w : (Jvm.Cond.fieldLink own i R0 n d).before a0 Z = true ∨ (Jvm.Cond.fieldLinkNest own i R0 n d host).before a0 Z = true) (via : Via Z R0 O n d) (F : Fld Z h a O n d old) (E : Exa Z h a C)
    (La : (Jvm.Cond.lays C O n d).before a0 Z = true ∨ ((Jvm.Cond.laysFinal C O n d).before a0 Z = true ∧ own = O ∧ nm = "<init>")) (wi : (Jvm.Cond.instantiable C kk).before a0 Z = true) (hty : parseFieldDescriptor d = some ty) (hn : narrow ty v = v) (hf : fits ty v = true) (ga : n0 ≤ a) (hd : decode bytes pc = .ok (.putfield i, 3)) (hp : pc + 3 = pc') (k : ∀ T' h', St Z n0 p l e R s vm0 m args below meth c own nm bytes ml ret T' (locs ++ [⟨a, Jvm.RoadKit.slotOf Z O n d⟩]) cells slots h' → Wr h h' a (Jvm.RoadKit.slotOf Z O n d) v → Go p e below K (T'.setTop (mkF m pc' L S))) : Go p e below K (T.setTop (mkF m pc L (v :: .ref a :: S))) := by
  obtain ⟨T', h', X', e', W, st'⟩ := putF X.X X.hx X.hZ X.own_ w via X.eT F E (La.imp id fun q => ⟨q.1, q.2.1, X.nm_.trans q.2.2⟩) wi hty hn hf (g := mkF m pc L (v :: .ref a :: S)) rfl rfl (X.d hd)
  subst hp; exact (k T' h' (X.to X' e' (Fr.snoc X' X.fr ga) (X.old.wr W ga) (Nat.le_of_eq W.size.symm)) W).of st'
theorem g_putFN (X : St Z n0 p l e R s vm0 m args below meth c own nm bytes ml ret T locs cells slots h) {R0 O n d C : String} {i kk : Nat} {ty : FieldType} {a : Addr} {v v' old : Value} (w : (Jvm.Cond.fieldLink own i R0 n d).before a0 Z = true) (via : Via Z R0 O n d) (F : Fld Z h a O n d old) (E : Exa Z h a C)
    (La : (Jvm.Cond.lays C O n d).before a0 Z = true ∨ ((Jvm.Cond.laysFinal C O n d).before a0 Z = true ∧ own = O ∧ nm = "<init>")) (wi : (Jvm.Cond.instantiable C kk).before a0 Z = true) (hty : parseFieldDescriptor d = some ty) (hn : narrow ty v = v') (hf : fits ty v' = true) (ga : n0 ≤ a) (hd : decode bytes pc = .ok (.putfield i, 3)) (hp : pc + 3 = pc') (k : ∀ T' h', St Z n0 p l e R s vm0 m args below meth c own nm bytes ml ret T' (locs ++ [⟨a, Jvm.RoadKit.slotOf Z O n d⟩]) cells slots h' → Wr h h' a (Jvm.RoadKit.slotOf Z O n d) v' → Go p e below K (T'.setTop (mkF m pc' L S))) : Go p e below K (T.setTop (mkF m pc L (v :: .ref a :: S))) := by
  obtain ⟨T', h', X', e', W, st'⟩ := putFN X.X X.hx X.hZ X.own_ w via X.eT F E (La.imp id fun q => ⟨q.1, q.2.1, X.nm_.trans q.2.2⟩) wi hty hn hf (g := mkF m pc L (v :: .ref a :: S)) rfl rfl (X.d hd)
  subst hp; exact (k T' h' (X.to X' e' (Fr.snoc X' X.fr ga) (X.old.wr W ga) (Nat.le_of_eq W.size.symm)) W).of st'
theorem g_new (X : St Z n0 p l e R s vm0 m args below meth c own nm bytes ml ret T locs cells slots h) {C : String} {i n : Nat} (w : (Jvm.Cond.classLink own i C).before a0 Z = true) (wi : (Jvm.Cond.instantiable C n).before a0 Z = true) (wz : (Jvm.Cond.initialized C).before a0 Z = true) (hd : decode bytes pc = .ok (.new i, 3)) (hp : pc + 3 = pc') (hc : cells + 1 ≤ R.cells) (hl : slots + n ≤ R.slots)
    (k : ∀ T' h' a, St Z n0 p l e R s vm0 m args below meth c own nm bytes ml ret T' locs (cells + 1) (slots + n) h' → a = h.size → Ext h h' → Exa Z h' a C → (∀ {O nm d : String} {ty : FieldType}, Laid Z a0 C O nm d → parseFieldDescriptor d = some ty → Fld Z h' a O nm d (defaultValue ty)) → n0 ≤ a → Go p e below K (T'.setTop (mkF m pc' L (.ref a :: S)))) : Go p e below K (T.setTop (mkF m pc L S)) := by
  obtain ⟨T', h', X', e', E, A, D, -, st'⟩ := newO X.X X.hx X.hZ X.own_ w wi wz X.eT (g := mkF m pc L S) rfl (X.d hd) hc hl
  subst hp; exact (k T' h' _ (X.to X' e' X.fr (X.old.ext E) E.1) rfl E A D X.sz).of st'
theorem g_initO (X : St Z n0 p l e R s vm0 m args below meth c own nm bytes ml ret T locs cells slots h) {i : Nat} {a : Addr} (w1 : (Jvm.Cond.methodLink own i Lib.objectInit).before a0 Z = true) (w2 : (Jvm.Cond.instanceMethod Lib.objectInit).before a0 Z = true) (w3 : (Jvm.Cond.code Lib.objectInit ⟨#[0xb1]⟩ 1 none).before a0 Z = true) (hL : L.size = ml) (hd : decode bytes pc = .ok (.invokespecial i, 3)) (hp : pc + 3 = pc') (hf : 1 ≤ R.frames) {W : Nat} (hW : (S.map fun v => v.category).sum = W) (hl : W + 12 ≤ R.locals) (k : ∀ T', St Z n0 p l e R s vm0 m args below meth c own nm bytes ml ret T' locs cells slots h → Go p e below K (T'.setTop (mkF m pc' L S))) : Go p e below K (T.setTop (mkF m pc L (.ref a :: S))) := by
  obtain ⟨T', X', e', st'⟩ := initO X.X X.hx X.hZ X.own_ w1 w2 w3 X.eT (g := mkF m pc L (.ref a :: S)) rfl (by rw [X.ml_]; exact hL) rfl (X.d hd) hf (W := W) (by show 2 * 0 + _ ≤ _; rw [hW, Nat.mul_zero, Nat.zero_add]; exact Nat.le_refl _) hl
  subst hp; exact (k T' (X.to X' e' X.fr X.old (Nat.le_refl _))).of st'
theorem g_castNull (X : St Z n0 p l e R s vm0 m args below meth c own nm bytes ml ret T locs cells slots h) {i : Nat} (hd : decode bytes pc = .ok (.checkcast i, 3)) (hp : pc + 3 = pc') (k : Go p e below K (T.setTop (mkF m pc' L (.null :: S)))) : Go p e below K (T.setTop (mkF m pc L (.null :: S))) := by
  subst hp; exact k.of (fun _ q => X.X.checkcastNull X.hx (g := mkF m pc L (.null :: S)) rfl rfl (X.d hd) _ q)
theorem g_instNull (X : St Z n0 p l e R s vm0 m args below meth c own nm bytes ml ret T locs cells slots h) {i : Nat} (hd : decode bytes pc = .ok (.instanceof i, 3)) (hp : pc + 3 = pc') (k : Go p e below K (T.setTop (mkF m pc' L (.int 0 :: S)))) : Go p e below K (T.setTop (mkF m pc L (.null :: S))) := by
  subst hp; exact k.of (fun _ q => X.X.instanceofNull X.hx (g := mkF m pc L (.null :: S)) rfl rfl (X.d hd) _ q)
theorem g_cast (X : St Z n0 p l e R s vm0 m args below meth c own nm bytes ml ret T locs cells slots h) {k0 : String} {i : Nat} {a : Addr} (w : (Jvm.Cond.classLink own i k0).before a0 Z = true) (F : Ins Z h a k0 true) (hd : decode bytes pc = .ok (.checkcast i, 3)) (hp : pc + 3 = pc') (k : ∀ T', St Z n0 p l e R s vm0 m args below meth c own nm bytes ml ret T' locs cells slots h → Go p e below K (T'.setTop (mkF m pc' L (.ref a :: S)))) : Go p e below K (T.setTop (mkF m pc L (.ref a :: S))) := by
  obtain ⟨T', X', e', st'⟩ := castY X.X X.hx X.hZ X.own_ w X.eT F (g := mkF m pc L (.ref a :: S)) rfl rfl (X.d hd)
  subst hp; exact (k T' (X.to X' e' X.fr X.old (Nat.le_refl _))).of st'
theorem g_inst (X : St Z n0 p l e R s vm0 m args below meth c own nm bytes ml ret T locs cells slots h) {k0 : String} {i : Nat} {a : Addr} (w : (Jvm.Cond.classLink own i k0).before a0 Z = true) (F : Ins Z h a k0 true) (hd : decode bytes pc = .ok (.instanceof i, 3)) (hp : pc + 3 = pc') (k : ∀ T', St Z n0 p l e R s vm0 m args below meth c own nm bytes ml ret T' locs cells slots h → Go p e below K (T'.setTop (mkF m pc' L (.int 1 :: S)))) : Go p e below K (T.setTop (mkF m pc L (.ref a :: S))) := by
  obtain ⟨T', X', e', st'⟩ := instY X.X X.hx X.hZ X.own_ w X.eT F (g := mkF m pc L (.ref a :: S)) rfl rfl (X.d hd)
  subst hp; exact (k T' (X.to X' e' X.fr X.old (Nat.le_refl _))).of st'
theorem g_instN (X : St Z n0 p l e R s vm0 m args below meth c own nm bytes ml ret T locs cells slots h) {k0 c0 : String} {i : Nat} {a : Addr} (w : (Jvm.Cond.classLink own i k0).before a0 Z = true) (F : Ins Z s.heap a k0 false) (E : Exa Z s.heap a c0) (hd : decode bytes pc = .ok (.instanceof i, 3)) (hp : pc + 3 = pc') (k : ∀ T', St Z n0 p l e R s vm0 m args below meth c own nm bytes ml ret T' locs cells slots h → Go p e below K (T'.setTop (mkF m pc' L (.int 0 :: S)))) : Go p e below K (T.setTop (mkF m pc L (.ref a :: S))) := by
  obtain ⟨T', X', e', st'⟩ := instN X.X X.hx X.hZ X.own_ w X.eT F E (g := mkF m pc L (.ref a :: S)) rfl rfl (X.d hd)
  subst hp; exact (k T' (X.to X' e' X.fr X.old (Nat.le_refl _))).of st'
theorem g_iaload (X : St Z n0 p l e R s vm0 m args below meth c own nm bytes ml ret T locs cells slots h) {a : Addr} {j : Int32} {i : Nat} {v : Value} {vs : List Value} (A : Arx Z h a .int vs) (hj : j.toInt = (i : Int)) (hv : vs[i]? = some v) (hd : decode bytes pc = .ok (.iaload, 1)) (hp : pc + 1 = pc') (k : Go p e below K (T.setTop (mkF m pc' L (v :: S)))) : Go p e below K (T.setTop (mkF m pc L (.int j :: .ref a :: S))) := by
  obtain ⟨cl, A, q, -⟩ := A
  obtain ⟨hin, hi⟩ := arx_in q hj (List.getElem?_eq_some_iff.mp hv).1
  subst hp; exact k.of (fun _ z => X.X.iaload X.hx (by rw [X.eT]; exact A.1) (State.isArrayOf_alike X.hZ.alike A.2.1) A.2.2 hin (by rw [hi]; exact arx_at q hv) (g := mkF m pc L (.int j :: .ref a :: S)) rfl rfl (X.d hd) _ z)
theorem g_laload (X : St Z n0 p l e R s vm0 m args below meth c own nm bytes ml ret T locs cells slots h) {a : Addr} {j : Int32} {i : Nat} {v : Value} {vs : List Value} (A : Arx Z h a .long vs) (hj : j.toInt = (i : Int)) (hv : vs[i]? = some v) (hd : decode bytes pc = .ok (.laload, 1)) (hp : pc + 1 = pc') (k : Go p e below K (T.setTop (mkF m pc' L (v :: S)))) : Go p e below K (T.setTop (mkF m pc L (.int j :: .ref a :: S))) := by
  obtain ⟨cl, A, q, -⟩ := A
  obtain ⟨hin, hi⟩ := arx_in q hj (List.getElem?_eq_some_iff.mp hv).1
  subst hp; exact k.of (fun _ z => X.X.laload X.hx (by rw [X.eT]; exact A.1) (State.isArrayOf_alike X.hZ.alike A.2.1) A.2.2 hin (by rw [hi]; exact arx_at q hv) (g := mkF m pc L (.int j :: .ref a :: S)) rfl rfl (X.d hd) _ z)
theorem g_caload (X : St Z n0 p l e R s vm0 m args below meth c own nm bytes ml ret T locs cells slots h) {a : Addr} {j : Int32} {i : Nat} {v : Value} {vs : List Value} (A : Arx Z h a .char vs) (hj : j.toInt = (i : Int)) (hv : vs[i]? = some v) (hd : decode bytes pc = .ok (.caload, 1)) (hp : pc + 1 = pc') (k : Go p e below K (T.setTop (mkF m pc' L (v :: S)))) : Go p e below K (T.setTop (mkF m pc L (.int j :: .ref a :: S))) := by
  obtain ⟨cl, A, q, -⟩ := A
  obtain ⟨hin, hi⟩ := arx_in q hj (List.getElem?_eq_some_iff.mp hv).1
  subst hp; exact k.of (fun _ z => X.X.caload X.hx (by rw [X.eT]; exact A.1) (State.isArrayOf_alike X.hZ.alike A.2.1) A.2.2 hin (by rw [hi]; exact arx_at q hv) (g := mkF m pc L (.int j :: .ref a :: S)) rfl rfl (X.d hd) _ z)
theorem g_baload (X : St Z n0 p l e R s vm0 m args below meth c own nm bytes ml ret T locs cells slots h) {a : Addr} {j : Int32} {i : Nat} {v : Value} {vs : List Value} (A : Arx Z h a .byte vs) (hj : j.toInt = (i : Int)) (hv : vs[i]? = some v) (hd : decode bytes pc = .ok (.baload, 1)) (hp : pc + 1 = pc') (k : Go p e below K (T.setTop (mkF m pc' L (v :: S)))) : Go p e below K (T.setTop (mkF m pc L (.int j :: .ref a :: S))) := by
  obtain ⟨cl, A, q, -⟩ := A
  obtain ⟨hin, hi⟩ := arx_in q hj (List.getElem?_eq_some_iff.mp hv).1
  subst hp; exact k.of (fun _ z => X.X.baloadBytes X.hx (by rw [X.eT]; exact A.1) (State.isArrayOf_alike X.hZ.alike A.2.1) A.2.2 hin (by rw [hi]; exact arx_at q hv) (g := mkF m pc L (.int j :: .ref a :: S)) rfl rfl (X.d hd) _ z)
theorem g_daload (X : St Z n0 p l e R s vm0 m args below meth c own nm bytes ml ret T locs cells slots h) {a : Addr} {j : Int32} {i : Nat} {v : Value} {vs : List Value} (A : Arx Z h a .double vs) (hj : j.toInt = (i : Int)) (hv : vs[i]? = some v) (hd : decode bytes pc = .ok (.daload, 1)) (hp : pc + 1 = pc') (k : Go p e below K (T.setTop (mkF m pc' L (v :: S)))) : Go p e below K (T.setTop (mkF m pc L (.int j :: .ref a :: S))) := by
  obtain ⟨cl, A, q, -⟩ := A
  obtain ⟨hin, hi⟩ := arx_in q hj (List.getElem?_eq_some_iff.mp hv).1
  subst hp; exact k.of (fun _ z => X.X.daload X.hx (by rw [X.eT]; exact A.1) (State.isArrayOf_alike X.hZ.alike A.2.1) A.2.2 hin (by rw [hi]; exact arx_at q hv) (g := mkF m pc L (.int j :: .ref a :: S)) rfl rfl (X.d hd) _ z)
theorem g_aaload (X : St Z n0 p l e R s vm0 m args below meth c own nm bytes ml ret T locs cells slots h) {a : Addr} {j : Int32} {i : Nat} {v : Value} {ty : FieldType} {vs : List Value} (A : Arx Z h a ty vs) (hty : ty.isReference = true) (hj : j.toInt = (i : Int)) (hv : vs[i]? = some v) (hd : decode bytes pc = .ok (.aaload, 1)) (hp : pc + 1 = pc') (k : Go p e below K (T.setTop (mkF m pc' L (v :: S)))) : Go p e below K (T.setTop (mkF m pc L (.int j :: .ref a :: S))) := by
  obtain ⟨cl, A, q, -⟩ := A
  obtain ⟨hin, hi⟩ := arx_in q hj (List.getElem?_eq_some_iff.mp hv).1
  subst hp; exact k.of (fun _ z => X.X.aaload X.hx (by rw [X.eT]; exact A.1) (State.isArrayOf_alike X.hZ.alike A.2.1) hty A.2.2 hin (by rw [hi]; exact arx_at q hv) (g := mkF m pc L (.int j :: .ref a :: S)) rfl rfl (X.d hd) _ z)
theorem g_arraylength (X : St Z n0 p l e R s vm0 m args below meth c own nm bytes ml ret T locs cells slots h) {a : Addr} {ty : FieldType} {vs : List Value} {n : Int32} (A : Arx Z h a ty vs) (hn : vs.length.toInt32 = n) (hd : decode bytes pc = .ok (.arraylength, 1)) (hp : pc + 1 = pc') (k : Go p e below K (T.setTop (mkF m pc' L (.int n :: S)))) : Go p e below K (T.setTop (mkF m pc L (.ref a :: S))) := by
  obtain ⟨cl, A, q, -⟩ := A
  have e2 : cl.slots.size.toInt32 = n := by rw [← hn, ← q]; simp
  subst hp; exact k.of (fun _ z => X.X.arraylength X.hx (by rw [X.eT]; exact A.1) (State.isArrayOf_alike X.hZ.alike A.2.1) (g := mkF m pc L (.ref a :: S)) rfl rfl (X.d hd) _ (by rw [e2]; exact z))
theorem g_iastore (X : St Z n0 p l e R s vm0 m args below meth c own nm bytes ml ret T locs cells slots h) {a : Addr} {j : Int32} {i : Nat} {x : Int32} {vs : List Value} (A : Arx Z h a .int vs) (hj : j.toInt = (i : Int)) (hi : i < vs.length) (ga : n0 ≤ a) (hd : decode bytes pc = .ok (.iastore, 1)) (hp : pc + 1 = pc') (k : ∀ T' h', St Z n0 p l e R s vm0 m args below meth c own nm bytes ml ret T' (locs ++ [⟨a, i⟩]) cells slots h' → Wr h h' a i (.int x) → Arx Z h' a .int (vs.set i (.int x)) → Go p e below K (T'.setTop (mkF m pc' L S))) : Go p e below K (T.setTop (mkF m pc L (.int x :: .int j :: .ref a :: S))) := by
  obtain ⟨cl, A, q, hl⟩ := A
  obtain ⟨hin, hn⟩ := arx_in q hj hi
  obtain ⟨T', h', X', e', W, st'⟩ := stI X.X X.hx X.hZ X.eT A hin (g := mkF m pc L (.int x :: .int j :: .ref a :: S)) rfl rfl (X.d hd)
  rw [hn] at W X'
  subst hp; exact (k T' h' (X.to X' e' (Fr.snoc X' X.fr ga) (X.old.wr W ga) (Nat.le_of_eq W.size.symm)) W ⟨_, A.same W, by rw [← q]; simp [Cell.setSlot], by simpa using hl⟩).of st'
theorem g_lastore (X : St Z n0 p l e R s vm0 m args below meth c own nm bytes ml ret T locs cells slots h) {a : Addr} {j : Int32} {i : Nat} {x : Int64} {vs : List Value} (A : Arx Z h a .long vs) (hj : j.toInt = (i : Int)) (hi : i < vs.length) (ga : n0 ≤ a) (hd : decode bytes pc = .ok (.lastore, 1)) (hp : pc + 1 = pc') (k : ∀ T' h', St Z n0 p l e R s vm0 m args below meth c own nm bytes ml ret T' (locs ++ [⟨a, i⟩]) cells slots h' → Wr h h' a i (.long x) → Arx Z h' a .long (vs.set i (.long x)) → Go p e below K (T'.setTop (mkF m pc' L S))) : Go p e below K (T.setTop (mkF m pc L (.long x :: .int j :: .ref a :: S))) := by
  obtain ⟨cl, A, q, hl⟩ := A
  obtain ⟨hin, hn⟩ := arx_in q hj hi
  obtain ⟨T', h', X', e', W, st'⟩ := stJ X.X X.hx X.hZ X.eT A hin (g := mkF m pc L (.long x :: .int j :: .ref a :: S)) rfl rfl (X.d hd)
  rw [hn] at W X'
  subst hp; exact (k T' h' (X.to X' e' (Fr.snoc X' X.fr ga) (X.old.wr W ga) (Nat.le_of_eq W.size.symm)) W ⟨_, A.same W, by rw [← q]; simp [Cell.setSlot], by simpa using hl⟩).of st'
theorem g_castore (X : St Z n0 p l e R s vm0 m args below meth c own nm bytes ml ret T locs cells slots h) {a : Addr} {j : Int32} {i : Nat} {x : Int32} {vs : List Value} (A : Arx Z h a .char vs) (hj : j.toInt = (i : Int)) (hi : i < vs.length) (ga : n0 ≤ a) (hd : decode bytes pc = .ok (.castore, 1)) (hp : pc + 1 = pc') (k : ∀ T' h', St Z n0 p l e R s vm0 m args below meth c own nm bytes ml ret T' (locs ++ [⟨a, i⟩]) cells slots h' → Wr h h' a i (.int (nar .char x)) → Arx Z h' a .char (vs.set i (.int (nar .char x))) → Go p e below K (T'.setTop (mkF m pc' L S))) : Go p e below K (T.setTop (mkF m pc L (.int x :: .int j :: .ref a :: S))) := by
  obtain ⟨cl, A, q, hl⟩ := A
  obtain ⟨hin, hn⟩ := arx_in q hj hi
  obtain ⟨T', h', X', e', W, st'⟩ := stC X.X X.hx X.hZ X.eT A hin (g := mkF m pc L (.int x :: .int j :: .ref a :: S)) rfl rfl (X.d hd)
  rw [hn] at W X'
  subst hp; exact (k T' h' (X.to X' e' (Fr.snoc X' X.fr ga) (X.old.wr W ga) (Nat.le_of_eq W.size.symm)) W ⟨_, A.same W, by rw [← q]; simp [Cell.setSlot], by simpa using hl⟩).of st'
theorem g_bastore (X : St Z n0 p l e R s vm0 m args below meth c own nm bytes ml ret T locs cells slots h) {a : Addr} {j : Int32} {i : Nat} {x : Int32} {vs : List Value} (A : Arx Z h a .byte vs) (hj : j.toInt = (i : Int)) (hi : i < vs.length) (ga : n0 ≤ a) (hd : decode bytes pc = .ok (.bastore, 1)) (hp : pc + 1 = pc') (k : ∀ T' h', St Z n0 p l e R s vm0 m args below meth c own nm bytes ml ret T' (locs ++ [⟨a, i⟩]) cells slots h' → Wr h h' a i (.int (nar .byte x)) → Arx Z h' a .byte (vs.set i (.int (nar .byte x))) → Go p e below K (T'.setTop (mkF m pc' L S))) : Go p e below K (T.setTop (mkF m pc L (.int x :: .int j :: .ref a :: S))) := by
  obtain ⟨cl, A, q, hl⟩ := A
  obtain ⟨hin, hn⟩ := arx_in q hj hi
  obtain ⟨T', h', X', e', W, st'⟩ := stB X.X X.hx X.hZ X.eT A hin (g := mkF m pc L (.int x :: .int j :: .ref a :: S)) rfl rfl (X.d hd)
  rw [hn] at W X'
  subst hp; exact (k T' h' (X.to X' e' (Fr.snoc X' X.fr ga) (X.old.wr W ga) (Nat.le_of_eq W.size.symm)) W ⟨_, A.same W, by rw [← q]; simp [Cell.setSlot], by simpa using hl⟩).of st'
theorem g_dastore (X : St Z n0 p l e R s vm0 m args below meth c own nm bytes ml ret T locs cells slots h) {a : Addr} {j : Int32} {i : Nat} {x : UInt64} {vs : List Value} (A : Arx Z h a .double vs) (hj : j.toInt = (i : Int)) (hi : i < vs.length) (ga : n0 ≤ a) (hd : decode bytes pc = .ok (.dastore, 1)) (hp : pc + 1 = pc') (k : ∀ T' h', St Z n0 p l e R s vm0 m args below meth c own nm bytes ml ret T' (locs ++ [⟨a, i⟩]) cells slots h' → Wr h h' a i (.double x) → Arx Z h' a .double (vs.set i (.double x)) → Go p e below K (T'.setTop (mkF m pc' L S))) : Go p e below K (T.setTop (mkF m pc L (.double x :: .int j :: .ref a :: S))) := by
  obtain ⟨cl, A, q, hl⟩ := A
  obtain ⟨hin, hn⟩ := arx_in q hj hi
  obtain ⟨T', h', X', e', W, st'⟩ := stD X.X X.hx X.hZ X.eT A hin (g := mkF m pc L (.double x :: .int j :: .ref a :: S)) rfl rfl (X.d hd)
  rw [hn] at W X'
  subst hp; exact (k T' h' (X.to X' e' (Fr.snoc X' X.fr ga) (X.old.wr W ga) (Nat.le_of_eq W.size.symm)) W ⟨_, A.same W, by rw [← q]; simp [Cell.setSlot], by simpa using hl⟩).of st'
theorem g_newarray (X : St Z n0 p l e R s vm0 m args below meth c own nm bytes ml ret T locs cells slots h) {aty : ArrayType} {n : Int32} {cap : Nat} {vs : List Value} (w : (Jvm.Cond.arrayClass (newarray.typeOf aty)).before a0 Z = true) (hn : ¬ n < 0) (hcap : n.toNatClampNeg ≤ cap) (hvs : List.replicate n.toNatClampNeg (defaultValue (newarray.typeOf aty)) = vs) (hb : cap * 8 ≤ 536870912) (hd : decode bytes pc = .ok (.newarray aty, 2)) (hp : pc + 2 = pc') (hc : cells + 1 ≤ R.cells) (hl : slots + cap ≤ R.slots)
    (k : ∀ T' h' a, St Z n0 p l e R s vm0 m args below meth c own nm bytes ml ret T' locs (cells + 1) (slots + cap) h' → a = h.size → Ext h h' → Arx Z h' a (newarray.typeOf aty) vs → n0 ≤ a → Go p e below K (T'.setTop (mkF m pc' L (.ref a :: S)))) : Go p e below K (T.setTop (mkF m pc L (.int n :: S))) := by
  obtain ⟨T', h', cA, X', e', E, A, st'⟩ := newP X.X X.hx X.hZ w X.eT (g := mkF m pc L (.int n :: S)) rfl (X.d hd) rfl hn hcap hb hc hl
  subst hp; exact (k T' h' _ (X.to X' e' X.fr (X.old.ext E) E.1) rfl E ⟨_, A, (arx_new _ _ _).trans hvs, by rw [← hvs, List.length_replicate]; omega⟩ X.sz).of st'
theorem St.afterS (X : St Z n0 p l e R s vm0 m args below meth c own nm bytes ml ret T locs cells slots h) {T' : State} {locs' : List Loc} {cells' slots' : Nat} (Y : Stand p l e R ((s.setVm vm0).setVm T'.vm) m args below meth c T' locs' cells' slots') (h2 : (s.setVm vm0).Since T'.vm T'.heap.size) (g : h.size ≤ T'.heap.size) (N : Fr n0 locs') (z : Old Z n0 T'.heap) : St Z n0 p l e R s T'.vm m args below meth c own nm bytes ml ret T' locs' cells' slots' T'.heap := by
  obtain ⟨k0, hS, hk⟩ := X.2.2.2.2.2
  obtain ⟨Y1, Y2, Y3, Y4⟩ := rebS hS hk Y h2 g X.hZ X.own_
  exact ⟨Y1, ⟨X.hx, X.by_, X.ml_, Y4, Y3, X.ret_, X.lk, X.nm_⟩, rfl, N, z, _, Y2, Nat.le_refl _⟩
theorem g_ldcS (X : St Z n0 p l e R s vm0 m args below meth c own nm bytes ml ret T locs cells slots h) {text : String} {i n : Nat} (w : (Jvm.Cond.stringLink own i text).before a0 Z = true) (wS : ∀ a ∈ Bundle.stringAtoms, a.before a0 Z = true) (hn : 4 * text.toList.length ≤ n) (hbig : n ≤ 536870912) (hc : cells + 2 ≤ R.cells) (hl : slots + (n + 4) ≤ R.slots) (hd : decode bytes pc = .ok (.ldc i, 2)) (hp : pc + 2 = pc') (k : ∀ T' h' a, St Z n0 p l e R s T'.vm m args below meth c own nm bytes ml ret T' locs (cells + 2) (slots + (n + 4)) h' → Ext h h' → Go p e below K (T'.setTop (mkF m pc' L (.ref a :: S)))) : Go p e below K (T.setTop (mkF m pc L S)) := by
  obtain ⟨k0, hS, hk⟩ := X.2.2.2.2.2
  obtain ⟨a, T', h', k1, Y, e', E, Y2, hk1, Y3, Y4, st'⟩ := ldcS X.X X.hx X.hZ X.own_ w wS X.eT hS hk (g := mkF m pc L S) rfl (X.d hd) hn hbig hc hl
  subst hp; exact (k T' h' a ⟨Y, ⟨X.hx, X.by_, X.ml_, Y4, Y3, X.ret_, X.lk, X.nm_⟩, e', X.fr, X.old.ext E, k1, Y2, hk1⟩ E).of st'
theorem g_newarrayE (X : St Z n0 p l e R s vm0 m args below meth c own nm bytes ml ret T locs cells slots h) {aty : ArrayType} {n : Int32} {cap : Nat} {vs : List Value} {ad : String} (had : "[" ++ (newarray.typeOf aty).toString = ad) (w : (Jvm.Cond.arrayClass (newarray.typeOf aty)).before a0 Z = true) (hn : ¬ n < 0) (hcap : n.toNatClampNeg ≤ cap) (hvs : List.replicate n.toNatClampNeg (defaultValue (newarray.typeOf aty)) = vs) (hb : cap * 8 ≤ 536870912) (hd : decode bytes pc = .ok (.newarray aty, 2)) (hp : pc + 2 = pc') (hc : cells + 1 ≤ R.cells) (hl : slots + cap ≤ R.slots)
    (k : ∀ T' h' a, St Z n0 p l e R s vm0 m args below meth c own nm bytes ml ret T' locs (cells + 1) (slots + cap) h' → a = h.size → Ext h h' → Arx Z h' a (newarray.typeOf aty) vs → Exa Z h' a ad → n0 ≤ a → Go p e below K (T'.setTop (mkF m pc' L (.ref a :: S)))) : Go p e below K (T.setTop (mkF m pc L (.int n :: S))) := by
  obtain ⟨T', h', cA, X', e', E, A, Ea, st'⟩ := newPE X.X X.hx X.hZ w X.eT (g := mkF m pc L (.int n :: S)) rfl (X.d hd) rfl hn hcap hb hc hl had
  subst hp; exact (k T' h' _ (X.to X' e' X.fr (X.old.ext E) E.1) rfl E ⟨_, A, (arx_new _ _ _).trans hvs, by rw [← hvs, List.length_replicate]; omega⟩ Ea X.sz).of st'
theorem g_anewA (X : St Z n0 p l e R s vm0 m args below meth c own nm bytes ml ret T locs cells slots h) {i : Nat} {C ad : String} {ty : FieldType} {n : Int32} {cap : Nat} {vs : List Value} (hC : (FieldType.array ty).toString = C) (had : "[" ++ C = ad) (w1 : (Jvm.Cond.classLink own i C).before a0 Z = true) (w2 : (Jvm.Cond.arrayOver (.array ty)).before a0 Z = true) (hn : ¬ n < 0) (hcap : n.toNatClampNeg ≤ cap) (hvs : List.replicate n.toNatClampNeg Value.null = vs) (hb : cap * 8 ≤ 536870912) (hd : decode bytes pc = .ok (.anewarray i, 3)) (hp : pc + 3 = pc') (hc : cells + 1 ≤ R.cells) (hl : slots + cap ≤ R.slots)
    (k : ∀ T' h' a, St Z n0 p l e R s vm0 m args below meth c own nm bytes ml ret T' locs (cells + 1) (slots + cap) h' → a = h.size → Ext h h' → Arx Z h' a (.array ty) vs → Exa Z h' a ad → OV Z ad C → n0 ≤ a → Go p e below K (T'.setTop (mkF m pc' L (.ref a :: S)))) : Go p e below K (T.setTop (mkF m pc L (.int n :: S))) := by
  obtain ⟨T', h', cA, X', e', E, A, Ea, O, st'⟩ := newRA X.X X.hx X.hZ X.own_ hC w1 w2 X.eT (g := mkF m pc L (.int n :: S)) rfl (X.d hd) rfl hn hcap hb hc hl had
  obtain ⟨k1, comp, o1, o2, o3⟩ := O
  have hf : Z.vm.findClass ad = some cA := by obtain ⟨c1, -, g1, g2, -⟩ := Ea; cases A.1.symm.trans g1; exact g2
  subst hp; exact (k T' h' _ (X.to X' e' X.fr (X.old.ext E) E.1) rfl E ⟨_, A, (arx_new _ _ _).trans hvs, by rw [← hvs, List.length_replicate]; omega⟩ Ea ⟨cA, k1, comp, _, hf, o1, o2, o3⟩ X.sz).of st'
theorem g_anewR (X : St Z n0 p l e R s vm0 m args below meth c own nm bytes ml ret T locs cells slots h) {i : Nat} {C ad : String} {n : Int32} {cap : Nat} {vs : List Value} (had : "[" ++ (FieldType.object C).toString = ad) (w1 : (Jvm.Cond.classLink own i C).before a0 Z = true) (w2 : (Jvm.Cond.arrayOver (.object C)).before a0 Z = true) (hn : ¬ n < 0) (hcap : n.toNatClampNeg ≤ cap) (hvs : List.replicate n.toNatClampNeg Value.null = vs) (hb : cap * 8 ≤ 536870912) (hd : decode bytes pc = .ok (.anewarray i, 3)) (hp : pc + 3 = pc') (hc : cells + 1 ≤ R.cells) (hl : slots + cap ≤ R.slots)
    (k : ∀ T' h' a, St Z n0 p l e R s vm0 m args below meth c own nm bytes ml ret T' locs (cells + 1) (slots + cap) h' → a = h.size → Ext h h' → Arx Z h' a (.object C) vs → Exa Z h' a ad → OV Z ad C → n0 ≤ a → Go p e below K (T'.setTop (mkF m pc' L (.ref a :: S)))) : Go p e below K (T.setTop (mkF m pc L (.int n :: S))) := by
  obtain ⟨T', h', cA, X', e', E, A, Ea, O, st'⟩ := newRE X.X X.hx X.hZ X.own_ w1 w2 X.eT (g := mkF m pc L (.int n :: S)) rfl (X.d hd) rfl hn hcap hb hc hl had
  obtain ⟨k1, comp, o1, o2, o3⟩ := O
  have hf : Z.vm.findClass ad = some cA := by obtain ⟨c1, -, g1, g2, -⟩ := Ea; cases A.1.symm.trans g1; exact g2
  subst hp; exact (k T' h' _ (X.to X' e' X.fr (X.old.ext E) E.1) rfl E ⟨_, A, (arx_new _ _ _).trans hvs, by rw [← hvs, List.length_replicate]; omega⟩ Ea ⟨cA, k1, comp, _, hf, o1, o2, o3⟩ X.sz).of st'
theorem g_aastore (X : St Z n0 p l e R s vm0 m args below meth c own nm bytes ml ret T locs cells slots h) {a y : Addr} {j : Int32} {i : Nat} {ty : FieldType} {ad C : String} {vs : List Value} (A : Arx Z h a ty vs) (hty : ty.isReference = true) (E : Exa Z h a ad) (O : OV Z ad C) (F : Exa Z h y C) (hj : j.toInt = (i : Int)) (hi : i < vs.length) (ga : n0 ≤ a) (hd : decode bytes pc = .ok (.aastore, 1)) (hp : pc + 1 = pc') (k : ∀ T' h', St Z n0 p l e R s vm0 m args below meth c own nm bytes ml ret T' (locs ++ [⟨a, i⟩]) cells slots h' → Wr h h' a i (.ref y) → Arx Z h' a ty (vs.set i (.ref y)) → Go p e below K (T'.setTop (mkF m pc' L S))) : Go p e below K (T.setTop (mkF m pc L (.ref y :: .int j :: .ref a :: S))) := by
  have sto := own_sto E O F
  obtain ⟨cl, A, q, hl⟩ := A
  obtain ⟨hin, hn⟩ := arx_in q hj hi
  obtain ⟨T', h', X', e', W, st'⟩ := stR X.X X.hx X.hZ X.eT A hin hty sto (g := mkF m pc L (.ref y :: .int j :: .ref a :: S)) rfl rfl (X.d hd)
  rw [hn] at W X'
  subst hp; exact (k T' h' (X.to X' e' (Fr.snoc X' X.fr ga) (X.old.wr W ga) (Nat.le_of_eq W.size.symm)) W ⟨_, A.same W, by rw [← q]; simp [Cell.setSlot], by simpa using hl⟩).of st'
theorem g_clone (X : St Z n0 p l e R s vm0 m args below meth c own nm bytes ml ret T locs cells slots h) {i : Nat} {a : Addr} {ad : String} {ty : FieldType} {vs : List Value} {cap W : Nat} (w1 : (Jvm.Cond.methodLink own i ⟨ad, "clone", "()Ljava/lang/Object;"⟩).before a0 Z = true) (w2 : (Jvm.Cond.sameMethod ad "java/lang/Object" "clone" "()Ljava/lang/Object;").before a0 Z = true) (w3 : (Jvm.Cond.native ⟨"java/lang/Object", "clone", "()Ljava/lang/Object;"⟩).before a0 Z = true) (w4 : (Jvm.Cond.instanceMethod ⟨"java/lang/Object", "clone", "()Ljava/lang/Object;"⟩).before a0 Z = true) (w5 : (Jvm.Cond.selects ad ⟨ad, "clone", "()Ljava/lang/Object;"⟩ ⟨"java/lang/Object", "clone", "()Ljava/lang/Object;"⟩).before a0 Z = true) (w6 : (Jvm.Cond.castable ad "java/lang/Cloneable").before a0 Z = true) (A : Arx Z h a ty vs) (EA : Exa Z h a ad) (hfv : ∀ v ∈ vs, fits ty v = true) (hcap : vs.length ≤ cap) (hL : L.size = ml) (hW : (S.map fun v => v.category).sum = W) (hf : 1 ≤ R.frames) (hl : W + 14 ≤ R.locals) (hd : decode bytes pc = .ok (.invokevirtual i, 3)) (hp : pc + 3 = pc') (hc : cells + 1 ≤ R.cells) (hsl : slots + cap ≤ R.slots)
    (k : ∀ T' h' b, St Z n0 p l e R s vm0 m args below meth c own nm bytes ml ret T' locs (cells + 1) (slots + cap) h' → b = h.size → Ext h h' → Arx Z h' b ty vs → Exa Z h' b ad → n0 ≤ b → Go p e below K (T'.setTop (mkF m pc' L (.ref b :: S)))) : Go p e below K (T.setTop (mkF m pc L (.ref a :: S))) := by
  obtain ⟨cl, A, q, hlen⟩ := A
  have FC : FitC Z cl := fitC_of A fun j hj v hv => hfv v (by rw [← q]; exact Array.mem_toList_iff.mpr (Array.mem_of_getElem? hv))
  obtain ⟨T', h', X', e', E, A', E', st'⟩ := cloneA X.X X.hx X.hZ X.own_ w1 w2 w3 w4 w5 w6 X.eT A EA FC (g := mkF m pc L (.ref a :: S)) rfl (by rw [X.ml_]; exact hL) rfl (X.d hd) hf (W := W) (by show 2 * 0 + _ ≤ _; rw [hW, Nat.mul_zero, Nat.zero_add]; exact Nat.le_refl _) hl (by rw [← Array.length_toList, q]; exact hcap) hc hsl
  subst hp; exact (k T' h' _ (X.to X' e' X.fr (X.old.ext E) E.1) rfl E ⟨_, A', q, hlen⟩ E' X.sz).of st'
theorem g_callSB (X : St Z n0 p l e R s vm0 m args below meth c own nm bytes ml ret T locs cells slots h) {i : Nat} {y : MethodName} {b' : ByteArray} {ml' : Nat} {ret' : Option FieldType} {cc ss : Nat} {Q : Option Value → Heap → List Loc → Prop} {ps : List FieldType} {r : Option FieldType} {W : Nat} {S0 rest : List Value} (argsL : List Value) (w1 : (Jvm.Cond.methodLink own i y).before a0 Z = true) (w2 : (Jvm.Cond.static y).before a0 Z = true) (w0 : (Jvm.Cond.initialized y.cls).before a0 Z = true) (w4 : (Jvm.Cond.code y b' ml' ret').before a0 Z = true) (Bk : BackS l R p e below (s.setVm vm0) args y 3 W (fun A a' => a' = argsL.toArray ∧ A.U.heap = h ∧ A.cells + cc ≤ R.cells ∧ A.slots + ss ≤ R.slots) (fun A _ v B => ∃ L, Q v B.U.heap L ∧ B.locs = A.locs ++ L ∧ B.cells = A.cells + cc ∧ B.slots = A.slots + ss)) (hy : y.cls ≠ "java/lang/invoke/MethodHandle" ∧ y.cls ≠ "java/lang/invoke/VarHandle") (hc : cells + cc ≤ R.cells) (hs : slots + ss ≤ R.slots) (hL : L.size = ml) (hps : parseMethodDescriptor y.desc = some ⟨ps, r⟩) (hlen : argsL.length = ps.length) (hS : S0 = argsL.reverse ++ rest) (hW : (rest.map fun v => v.category).sum = W) (hd : decode bytes pc = .ok (.invokestatic i, 3)) (hp : pc + 3 = pc') (k : ∀ v T' h' L'', (Old Z n0 h' → Fr n0 L'' → St Z n0 p l e R s T'.vm m args below meth c own nm bytes ml ret T' (locs ++ L'') (cells + cc) (slots + ss) h') → Q v h' L'' → Go p e below K (T'.setTop (mkF m pc' L (v.toList ++ rest)))) : Go p e below K (T.setTop (mkF m pc L S0)) := by
  subst hS hp
  obtain ⟨v, _, ⟨T', L'', k', n'⟩, -, X', hS2, hgr, ⟨Lc, hQ, l', y', z'⟩, st'⟩ := callSS X.X X.hx (y := y) X.own_ (mvT X.hZ w1) (mvT X.hZ w2) (mvT X.hZ w0) (mvT X.hZ w4) hy Bk (g := mkF m pc L (argsL.reverse ++ rest)) rfl (by rw [X.ml_]; exact hL) (argsL := argsL) (rest := rest) (lenOf hps hlen) rfl (by show 2 * 0 + _ ≤ _; rw [hW, Nat.mul_zero, Nat.zero_add]; exact Nat.le_refl _) (X.d hd) (fun _ _ => ⟨rfl, X.eT, hc, hs⟩)
  dsimp only [Pt.U, Pt.locs, Pt.cells, Pt.slots] at X' hS2 hgr l' y' z' st' hQ
  subst l' y' z'
  exact (k v T' T'.heap Lc (fun hz hF => X.afterS X' hS2 (X.eT ▸ hgr) (X.fr.app hF) hz) hQ).of (fun _ q => st'.trans q)
theorem g_callS (X : St Z n0 p l e R s vm0 m args below meth c own nm bytes ml ret T locs cells slots h) {i : Nat} {y : MethodName} {b' : ByteArray} {ml' : Nat} {ret' : Option FieldType} {rm : Room} {Q : Option Value → Heap → List Loc → Prop} {ps : List FieldType} {r : Option FieldType} {W : Nat} {S0 rest : List Value} (argsL : List Value) (w1 : (Jvm.Cond.methodLink own i y).before a0 Z = true) (w2 : (Jvm.Cond.static y).before a0 Z = true) (w0 : (Jvm.Cond.initialized y.cls).before a0 Z = true) (w4 : (Jvm.Cond.code y b' ml' ret').before a0 Z = true) (w3 : (Jvm.Cond.initialized y.cls).before a0 Z = true) (C : Con l Z y b' ml' ret' [] rm rm.cells rm.slots argsL.toArray h Q) (hy : y.cls ≠ "java/lang/invoke/MethodHandle" ∧ y.cls ≠ "java/lang/invoke/VarHandle") (hf : rm.frames + 1 ≤ R.frames) (hl : W + (ml' + 11) + rm.locals ≤ R.locals) (hc : cells + rm.cells ≤ R.cells) (hs : slots + rm.slots ≤ R.slots) (hL : L.size = ml) (hps : parseMethodDescriptor y.desc = some ⟨ps, r⟩) (hlen : argsL.length = ps.length) (hS : S0 = argsL.reverse ++ rest) (hW : (rest.map fun v => v.category).sum = W) (hd : decode bytes pc = .ok (.invokestatic i, 3)) (hp : pc + 3 = pc') (k : ∀ v T' h' L'', (Old Z n0 h' → Fr n0 L'' → St Z n0 p l e R s T'.vm m args below meth c own nm bytes ml ret T' (locs ++ L'') (cells + rm.cells) (slots + rm.slots) h') → Q v h' L'' → Go p e below K (T'.setTop (mkF m pc' L (v.toList ++ rest)))) : Go p e below K (T.setTop (mkF m pc L S0)) :=
  g_callSB X argsL w1 w2 w0 w4 (backOfS (W := W) C X.hZ w4 w3 hf hl) hy hc hs hL hps hlen hS hW hd hp k
theorem g_callIB (X : St Z n0 p l e R s vm0 m args below meth c own nm bytes ml ret T locs cells slots h) {i : Nat} {y : MethodName} {b' : ByteArray} {ml' : Nat} {ret' : Option FieldType} {cc ss : Nat} {Q : Option Value → Heap → List Loc → Prop} {ps : List FieldType} {r : Option FieldType} {W : Nat} {S0 rest : List Value} (argsL : List Value) {a : Addr} (hinit : y.name = "<init>") (w1 : (Jvm.Cond.methodLink own i y).before a0 Z = true) (w2 : (Jvm.Cond.instanceMethod y).before a0 Z = true) (hr : ret' = none) (w4 : (Jvm.Cond.code y b' ml' ret').before a0 Z = true) (Bk : BackS l R p e below (s.setVm vm0) args y 3 W (fun A a' => a' = (.ref a :: argsL).toArray ∧ A.U.heap = h ∧ A.cells + cc ≤ R.cells ∧ A.slots + ss ≤ R.slots) (fun A _ v B => ∃ L, Q v B.U.heap L ∧ B.locs = A.locs ++ L ∧ B.cells = A.cells + cc ∧ B.slots = A.slots + ss)) (hy : y.cls ≠ "java/lang/invoke/MethodHandle" ∧ y.cls ≠ "java/lang/invoke/VarHandle") (hc : cells + cc ≤ R.cells) (hs : slots + ss ≤ R.slots) (hL : L.size = ml) (hps : parseMethodDescriptor y.desc = some ⟨ps, r⟩) (hlen : argsL.length = ps.length) (hS : S0 = argsL.reverse ++ .ref a :: rest) (hW : (rest.map fun v => v.category).sum = W) (hd : decode bytes pc = .ok (.invokespecial i, 3)) (hp : pc + 3 = pc') (k : ∀ v T' h' L'', (Old Z n0 h' → Fr n0 L'' → St Z n0 p l e R s T'.vm m args below meth c own nm bytes ml ret T' (locs ++ L'') (cells + cc) (slots + ss) h') → Q v h' L'' → Go p e below K (T'.setTop (mkF m pc' L (v.toList ++ rest)))) : Go p e below K (T.setTop (mkF m pc L S0)) := by
  subst hS hp
  subst hr
  obtain ⟨v, _, ⟨T', L'', k', n'⟩, -, X', hS2, hgr, ⟨Lc, hQ, l', y', z'⟩, st'⟩ := X.X.specialBackS X.hx (y := y) hinit X.own_ (mvT X.hZ w1) (mvT X.hZ w2) (mvT X.hZ w4) hy Bk (g := mkF m pc L (argsL.reverse ++ .ref a :: rest)) rfl (by rw [X.ml_]; exact hL) (Steps.refl _) (a := a) (argsL := argsL) (rest := rest) (lenOf hps hlen) rfl (by show 2 * 0 + _ ≤ _; rw [hW, Nat.mul_zero, Nat.zero_add]; exact Nat.le_refl _) (X.d hd) (fun _ _ => ⟨rfl, X.eT, hc, hs⟩)
  dsimp only [Pt.U, Pt.locs, Pt.cells, Pt.slots] at X' hS2 hgr l' y' z' st' hQ
  subst l' y' z'
  exact (k v T' T'.heap Lc (fun hz hF => X.afterS X' hS2 (X.eT ▸ hgr) (X.fr.app hF) hz) hQ).of (fun _ q => st'.trans q)
theorem g_callI (X : St Z n0 p l e R s vm0 m args below meth c own nm bytes ml ret T locs cells slots h) {i : Nat} {y : MethodName} {b' : ByteArray} {ml' : Nat} {ret' : Option FieldType} {rm : Room} {Q : Option Value → Heap → List Loc → Prop} {ps : List FieldType} {r : Option FieldType} {W : Nat} {S0 rest : List Value} (argsL : List Value) {a : Addr} (hinit : y.name = "<init>") (w1 : (Jvm.Cond.methodLink own i y).before a0 Z = true) (w2 : (Jvm.Cond.instanceMethod y).before a0 Z = true) (hr : ret' = none) (w4 : (Jvm.Cond.code y b' ml' ret').before a0 Z = true) (w3 : (Jvm.Cond.initialized y.cls).before a0 Z = true) (C : Con l Z y b' ml' ret' [] rm rm.cells rm.slots (.ref a :: argsL).toArray h Q) (hy : y.cls ≠ "java/lang/invoke/MethodHandle" ∧ y.cls ≠ "java/lang/invoke/VarHandle") (hf : rm.frames + 1 ≤ R.frames) (hl : W + (ml' + 11) + rm.locals ≤ R.locals) (hc : cells + rm.cells ≤ R.cells) (hs : slots + rm.slots ≤ R.slots) (hL : L.size = ml) (hps : parseMethodDescriptor y.desc = some ⟨ps, r⟩) (hlen : argsL.length = ps.length) (hS : S0 = argsL.reverse ++ .ref a :: rest) (hW : (rest.map fun v => v.category).sum = W) (hd : decode bytes pc = .ok (.invokespecial i, 3)) (hp : pc + 3 = pc') (k : ∀ v T' h' L'', (Old Z n0 h' → Fr n0 L'' → St Z n0 p l e R s T'.vm m args below meth c own nm bytes ml ret T' (locs ++ L'') (cells + rm.cells) (slots + rm.slots) h') → Q v h' L'' → Go p e below K (T'.setTop (mkF m pc' L (v.toList ++ rest)))) : Go p e below K (T.setTop (mkF m pc L S0)) :=
  g_callIB X argsL hinit w1 w2 hr w4 (backOfS (W := W) C X.hZ w4 w3 hf hl) hy hc hs hL hps hlen hS hW hd hp k
theorem g_callVB (X : St Z n0 p l e R s vm0 m args below meth c own nm bytes ml ret T locs cells slots h) {i : Nat} {y : MethodName} {b' : ByteArray} {ml' : Nat} {ret' : Option FieldType} {cc ss : Nat} {Q : Option Value → Heap → List Loc → Prop} {ps : List FieldType} {r : Option FieldType} {W : Nat} {S0 rest : List Value} (argsL : List Value) {C0 : String} {z : MethodName} {a : Addr} (w1 : (Jvm.Cond.methodLink own i y).before a0 Z = true) (w2 : (Jvm.Cond.declares y).before a0 Z = true) (nf : NotFace (s.setVm vm0) y) (w5 : (Jvm.Cond.selects C0 y z).before a0 Z = true) (w6 : (Jvm.Cond.instanceMethod z).before a0 Z = true) (E : Exa Z h a C0) (w4 : (Jvm.Cond.code z b' ml' ret').before a0 Z = true) (Bk : BackS l R p e below (s.setVm vm0) args z 3 W (fun A a' => a' = (.ref a :: argsL).toArray ∧ A.U.heap = h ∧ A.cells + cc ≤ R.cells ∧ A.slots + ss ≤ R.slots) (fun A _ v B => ∃ L, Q v B.U.heap L ∧ B.locs = A.locs ++ L ∧ B.cells = A.cells + cc ∧ B.slots = A.slots + ss)) (hy : y.cls ≠ "java/lang/invoke/MethodHandle" ∧ y.cls ≠ "java/lang/invoke/VarHandle") (hc : cells + cc ≤ R.cells) (hs : slots + ss ≤ R.slots) (hL : L.size = ml) (hps : parseMethodDescriptor y.desc = some ⟨ps, r⟩) (hlen : argsL.length = ps.length) (hS : S0 = argsL.reverse ++ .ref a :: rest) (hW : (rest.map fun v => v.category).sum = W) (hd : decode bytes pc = .ok (.invokevirtual i, 3)) (hp : pc + 3 = pc') (k : ∀ v T' h' L'', (Old Z n0 h' → Fr n0 L'' → St Z n0 p l e R s T'.vm m args below meth c own nm bytes ml ret T' (locs ++ L'') (cells + cc) (slots + ss) h') → Q v h' L'' → Go p e below K (T'.setTop (mkF m pc' L (v.toList ++ rest)))) : Go p e below K (T.setTop (mkF m pc L S0)) := by
  subst hS hp
  obtain ⟨cq, kq, q1, q2, q3⟩ := isOf X.hZ X.eT E
  obtain ⟨v, _, ⟨T', L'', k', n'⟩, -, X', hS2, hgr, ⟨Lc, hQ, l', y', z'⟩, st'⟩ := X.X.virtualBackS X.hx (y := y) (z := z) X.own_ (mvT X.hZ w1) (mvT X.hZ w2) nf (mvT X.hZ w5) (mvT X.hZ w6) hy Bk q1 q3 (g := mkF m pc L (argsL.reverse ++ .ref a :: rest)) rfl (by rw [X.ml_]; exact hL) (Steps.refl _) (argsL := argsL) (rest := rest) (lenOf hps hlen) rfl (by show 2 * 0 + _ ≤ _; rw [hW, Nat.mul_zero, Nat.zero_add]; exact Nat.le_refl _) (X.d hd) (fun _ _ => ⟨rfl, X.eT, hc, hs⟩)
  dsimp only [Pt.U, Pt.locs, Pt.cells, Pt.slots] at X' hS2 hgr l' y' z' st' hQ
  subst l' y' z'
  exact (k v T' T'.heap Lc (fun hz hF => X.afterS X' hS2 (X.eT ▸ hgr) (X.fr.app hF) hz) hQ).of (fun _ q => st'.trans q)
theorem g_callV (X : St Z n0 p l e R s vm0 m args below meth c own nm bytes ml ret T locs cells slots h) {i : Nat} {y : MethodName} {b' : ByteArray} {ml' : Nat} {ret' : Option FieldType} {rm : Room} {Q : Option Value → Heap → List Loc → Prop} {ps : List FieldType} {r : Option FieldType} {W : Nat} {S0 rest : List Value} (argsL : List Value) {C0 : String} {z : MethodName} {a : Addr} (w1 : (Jvm.Cond.methodLink own i y).before a0 Z = true) (w2 : (Jvm.Cond.declares y).before a0 Z = true) (nf : NotFace (s.setVm vm0) y) (w5 : (Jvm.Cond.selects C0 y z).before a0 Z = true) (w6 : (Jvm.Cond.instanceMethod z).before a0 Z = true) (E : Exa Z h a C0) (w4 : (Jvm.Cond.code z b' ml' ret').before a0 Z = true) (w3 : (Jvm.Cond.initialized z.cls).before a0 Z = true) (C : Con l Z z b' ml' ret' [] rm rm.cells rm.slots (.ref a :: argsL).toArray h Q) (hy : y.cls ≠ "java/lang/invoke/MethodHandle" ∧ y.cls ≠ "java/lang/invoke/VarHandle") (hf : rm.frames + 1 ≤ R.frames) (hl : W + (ml' + 11) + rm.locals ≤ R.locals) (hc : cells + rm.cells ≤ R.cells) (hs : slots + rm.slots ≤ R.slots) (hL : L.size = ml) (hps : parseMethodDescriptor y.desc = some ⟨ps, r⟩) (hlen : argsL.length = ps.length) (hS : S0 = argsL.reverse ++ .ref a :: rest) (hW : (rest.map fun v => v.category).sum = W) (hd : decode bytes pc = .ok (.invokevirtual i, 3)) (hp : pc + 3 = pc') (k : ∀ v T' h' L'', (Old Z n0 h' → Fr n0 L'' → St Z n0 p l e R s T'.vm m args below meth c own nm bytes ml ret T' (locs ++ L'') (cells + rm.cells) (slots + rm.slots) h') → Q v h' L'' → Go p e below K (T'.setTop (mkF m pc' L (v.toList ++ rest)))) : Go p e below K (T.setTop (mkF m pc L S0)) :=
  g_callVB X argsL w1 w2 nf w5 w6 E w4 (backOfS (W := W) C X.hZ w4 w3 hf hl) hy hc hs hL hps hlen hS hW hd hp k
theorem g_callPB (X : St Z n0 p l e R s vm0 m args below meth c own nm bytes ml ret T locs cells slots h) {i : Nat} {y : MethodName} {b' : ByteArray} {ml' : Nat} {ret' : Option FieldType} {cc ss : Nat} {Q : Option Value → Heap → List Loc → Prop} {ps : List FieldType} {r : Option FieldType} {W : Nat} {S0 rest : List Value} (argsL : List Value) {C0 : String} {kk : Nat} {a : Addr} (w1 : (Jvm.Cond.methodLink own i y).before a0 Z = true) (w2 : (Jvm.Cond.instanceMethod y).before a0 Z = true) (wp : (Jvm.Cond.privateMethod y).before a0 Z = true) (wi : (Jvm.Cond.instantiable y.cls kk).before a0 Z = true) (E : Exa Z h a C0) (w4 : (Jvm.Cond.code y b' ml' ret').before a0 Z = true) (Bk : BackS l R p e below (s.setVm vm0) args y 3 W (fun A a' => a' = (.ref a :: argsL).toArray ∧ A.U.heap = h ∧ A.cells + cc ≤ R.cells ∧ A.slots + ss ≤ R.slots) (fun A _ v B => ∃ L, Q v B.U.heap L ∧ B.locs = A.locs ++ L ∧ B.cells = A.cells + cc ∧ B.slots = A.slots + ss)) (hy : y.cls ≠ "java/lang/invoke/MethodHandle" ∧ y.cls ≠ "java/lang/invoke/VarHandle") (hc : cells + cc ≤ R.cells) (hs : slots + ss ≤ R.slots) (hL : L.size = ml) (hps : parseMethodDescriptor y.desc = some ⟨ps, r⟩) (hlen : argsL.length = ps.length) (hS : S0 = argsL.reverse ++ .ref a :: rest) (hW : (rest.map fun v => v.category).sum = W) (hd : decode bytes pc = .ok (.invokevirtual i, 3)) (hp : pc + 3 = pc') (k : ∀ v T' h' L'', (Old Z n0 h' → Fr n0 L'' → St Z n0 p l e R s T'.vm m args below meth c own nm bytes ml ret T' (locs ++ L'') (cells + cc) (slots + ss) h') → Q v h' L'' → Go p e below K (T'.setTop (mkF m pc' L (v.toList ++ rest)))) : Go p e below K (T.setTop (mkF m pc L S0)) := by
  subst hS hp
  obtain ⟨cq, q1, q2⟩ := E.cell
  have hpr : State.PrivateAt (s.setVm vm0) y := Cond.privateMethod_at (mvP X.hZ wp (args := #[]))
  obtain ⟨c1, k1, f1, f2, f3, f4, -, -⟩ := Cond.instantiable_spec (show (Jvm.Cond.instantiable y.cls kk).holds #[] (s.setVm vm0) none (s.setVm vm0) [] = true from mvT X.hZ wi)
  obtain ⟨v, _, ⟨T', L'', k', n'⟩, -, X', hS2, hgr, ⟨Lc, hQ, l', y', z'⟩, st'⟩ := X.X.privateBackS X.hx (y := y) X.own_ (mvT X.hZ w1) (mvT X.hZ w2) (selects_self_of_private f1 f2 (by cases hq : k1.isInterface with | false => rfl | true => rw [hq] at f4; simp at f4) hpr (mvT X.hZ w2) hy) hpr (mvT X.hZ w4) hy Bk (g := mkF m pc L (argsL.reverse ++ .ref a :: rest)) rfl (by rw [X.ml_]; exact hL) (Steps.refl _) (a := a) (by rw [X.eT]; exact q1) q2 (argsL := argsL) (rest := rest) (lenOf hps hlen) rfl (by show 2 * 0 + _ ≤ _; rw [hW, Nat.mul_zero, Nat.zero_add]; exact Nat.le_refl _) (X.d hd) (fun _ _ => ⟨rfl, X.eT, hc, hs⟩)
  dsimp only [Pt.U, Pt.locs, Pt.cells, Pt.slots] at X' hS2 hgr l' y' z' st' hQ
  subst l' y' z'
  exact (k v T' T'.heap Lc (fun hz hF => X.afterS X' hS2 (X.eT ▸ hgr) (X.fr.app hF) hz) hQ).of (fun _ q => st'.trans q)
theorem g_callP (X : St Z n0 p l e R s vm0 m args below meth c own nm bytes ml ret T locs cells slots h) {i : Nat} {y : MethodName} {b' : ByteArray} {ml' : Nat} {ret' : Option FieldType} {rm : Room} {Q : Option Value → Heap → List Loc → Prop} {ps : List FieldType} {r : Option FieldType} {W : Nat} {S0 rest : List Value} (argsL : List Value) {C0 : String} {kk : Nat} {a : Addr} (w1 : (Jvm.Cond.methodLink own i y).before a0 Z = true) (w2 : (Jvm.Cond.instanceMethod y).before a0 Z = true) (wp : (Jvm.Cond.privateMethod y).before a0 Z = true) (wi : (Jvm.Cond.instantiable y.cls kk).before a0 Z = true) (E : Exa Z h a C0) (w4 : (Jvm.Cond.code y b' ml' ret').before a0 Z = true) (w3 : (Jvm.Cond.initialized y.cls).before a0 Z = true) (C : Con l Z y b' ml' ret' [] rm rm.cells rm.slots (.ref a :: argsL).toArray h Q) (hy : y.cls ≠ "java/lang/invoke/MethodHandle" ∧ y.cls ≠ "java/lang/invoke/VarHandle") (hf : rm.frames + 1 ≤ R.frames) (hl : W + (ml' + 11) + rm.locals ≤ R.locals) (hc : cells + rm.cells ≤ R.cells) (hs : slots + rm.slots ≤ R.slots) (hL : L.size = ml) (hps : parseMethodDescriptor y.desc = some ⟨ps, r⟩) (hlen : argsL.length = ps.length) (hS : S0 = argsL.reverse ++ .ref a :: rest) (hW : (rest.map fun v => v.category).sum = W) (hd : decode bytes pc = .ok (.invokevirtual i, 3)) (hp : pc + 3 = pc') (k : ∀ v T' h' L'', (Old Z n0 h' → Fr n0 L'' → St Z n0 p l e R s T'.vm m args below meth c own nm bytes ml ret T' (locs ++ L'') (cells + rm.cells) (slots + rm.slots) h') → Q v h' L'' → Go p e below K (T'.setTop (mkF m pc' L (v.toList ++ rest)))) : Go p e below K (T.setTop (mkF m pc L S0)) :=
  g_callPB X argsL w1 w2 wp wi E w4 (backOfS (W := W) C X.hZ w4 w3 hf hl) hy hc hs hL hps hlen hS hW hd hp k
theorem g_callQB (X : St Z n0 p l e R s vm0 m args below meth c own nm bytes ml ret T locs cells slots h) {i : Nat} {y : MethodName} {b' : ByteArray} {ml' : Nat} {ret' : Option FieldType} {cc ss : Nat} {Q : Option Value → Heap → List Loc → Prop} {ps : List FieldType} {r : Option FieldType} {W : Nat} {S0 rest : List Value} (argsL : List Value) {C0 C1 : String} {a : Addr} (w1 : (Jvm.Cond.methodLink own i y).before a0 Z = true) (w2 : (Jvm.Cond.instanceMethod y).before a0 Z = true) (wp : (Jvm.Cond.privateMethod y).before a0 Z = true) (w5 : (Jvm.Cond.selects C1 y y).before a0 Z = true) (E : Exa Z h a C0) (w4 : (Jvm.Cond.code y b' ml' ret').before a0 Z = true) (Bk : BackS l R p e below (s.setVm vm0) args y 3 W (fun A a' => a' = (.ref a :: argsL).toArray ∧ A.U.heap = h ∧ A.cells + cc ≤ R.cells ∧ A.slots + ss ≤ R.slots) (fun A _ v B => ∃ L, Q v B.U.heap L ∧ B.locs = A.locs ++ L ∧ B.cells = A.cells + cc ∧ B.slots = A.slots + ss)) (hy : y.cls ≠ "java/lang/invoke/MethodHandle" ∧ y.cls ≠ "java/lang/invoke/VarHandle") (hc : cells + cc ≤ R.cells) (hs : slots + ss ≤ R.slots) (hL : L.size = ml) (hps : parseMethodDescriptor y.desc = some ⟨ps, r⟩) (hlen : argsL.length = ps.length) (hS : S0 = argsL.reverse ++ .ref a :: rest) (hW : (rest.map fun v => v.category).sum = W) (hd : decode bytes pc = .ok (.invokevirtual i, 3)) (hp : pc + 3 = pc') (k : ∀ v T' h' L'', (Old Z n0 h' → Fr n0 L'' → St Z n0 p l e R s T'.vm m args below meth c own nm bytes ml ret T' (locs ++ L'') (cells + cc) (slots + ss) h') → Q v h' L'' → Go p e below K (T'.setTop (mkF m pc' L (v.toList ++ rest)))) : Go p e below K (T.setTop (mkF m pc L S0)) := by
  subst hS hp
  obtain ⟨cq, q1, q2⟩ := E.cell
  have hpr : State.PrivateAt (s.setVm vm0) y := Cond.privateMethod_at (mvP X.hZ wp (args := #[]))
  obtain ⟨v, _, ⟨T', L'', k', n'⟩, -, X', hS2, hgr, ⟨Lc, hQ, l', y', z'⟩, st'⟩ := X.X.privateBackS X.hx (y := y) X.own_ (mvT X.hZ w1) (mvT X.hZ w2) (mvT X.hZ (own_selP w2 wp w5 hy)) hpr (mvT X.hZ w4) hy Bk (g := mkF m pc L (argsL.reverse ++ .ref a :: rest)) rfl (by rw [X.ml_]; exact hL) (Steps.refl _) (a := a) (by rw [X.eT]; exact q1) q2 (argsL := argsL) (rest := rest) (lenOf hps hlen) rfl (by show 2 * 0 + _ ≤ _; rw [hW, Nat.mul_zero, Nat.zero_add]; exact Nat.le_refl _) (X.d hd) (fun _ _ => ⟨rfl, X.eT, hc, hs⟩)
  dsimp only [Pt.U, Pt.locs, Pt.cells, Pt.slots] at X' hS2 hgr l' y' z' st' hQ
  subst l' y' z'
  exact (k v T' T'.heap Lc (fun hz hF => X.afterS X' hS2 (X.eT ▸ hgr) (X.fr.app hF) hz) hQ).of (fun _ q => st'.trans q)
theorem g_callQ (X : St Z n0 p l e R s vm0 m args below meth c own nm bytes ml ret T locs cells slots h) {i : Nat} {y : MethodName} {b' : ByteArray} {ml' : Nat} {ret' : Option FieldType} {rm : Room} {Q : Option Value → Heap → List Loc → Prop} {ps : List FieldType} {r : Option FieldType} {W : Nat} {S0 rest : List Value} (argsL : List Value) {C0 C1 : String} {a : Addr} (w1 : (Jvm.Cond.methodLink own i y).before a0 Z = true) (w2 : (Jvm.Cond.instanceMethod y).before a0 Z = true) (wp : (Jvm.Cond.privateMethod y).before a0 Z = true) (w5 : (Jvm.Cond.selects C1 y y).before a0 Z = true) (E : Exa Z h a C0) (w4 : (Jvm.Cond.code y b' ml' ret').before a0 Z = true) (w3 : (Jvm.Cond.initialized y.cls).before a0 Z = true) (C : Con l Z y b' ml' ret' [] rm rm.cells rm.slots (.ref a :: argsL).toArray h Q) (hy : y.cls ≠ "java/lang/invoke/MethodHandle" ∧ y.cls ≠ "java/lang/invoke/VarHandle") (hf : rm.frames + 1 ≤ R.frames) (hl : W + (ml' + 11) + rm.locals ≤ R.locals) (hc : cells + rm.cells ≤ R.cells) (hs : slots + rm.slots ≤ R.slots) (hL : L.size = ml) (hps : parseMethodDescriptor y.desc = some ⟨ps, r⟩) (hlen : argsL.length = ps.length) (hS : S0 = argsL.reverse ++ .ref a :: rest) (hW : (rest.map fun v => v.category).sum = W) (hd : decode bytes pc = .ok (.invokevirtual i, 3)) (hp : pc + 3 = pc') (k : ∀ v T' h' L'', (Old Z n0 h' → Fr n0 L'' → St Z n0 p l e R s T'.vm m args below meth c own nm bytes ml ret T' (locs ++ L'') (cells + rm.cells) (slots + rm.slots) h') → Q v h' L'' → Go p e below K (T'.setTop (mkF m pc' L (v.toList ++ rest)))) : Go p e below K (T.setTop (mkF m pc L S0)) :=
  g_callQB X argsL w1 w2 wp w5 E w4 (backOfS (W := W) C X.hZ w4 w3 hf hl) hy hc hs hL hps hlen hS hW hd hp k
theorem g_callUB (X : St Z n0 p l e R s vm0 m args below meth c own nm bytes ml ret T locs cells slots h) {i : Nat} {y : MethodName} {b' : ByteArray} {ml' : Nat} {ret' : Option FieldType} {cc ss : Nat} {Q : Option Value → Heap → List Loc → Prop} {ps : List FieldType} {r : Option FieldType} {W : Nat} {S0 rest : List Value} (argsL : List Value) {C1 : String} {y' : MethodName} {a : Addr} (w1 : (Jvm.Cond.methodLink own i y).before a0 Z = true) (w2 : (Jvm.Cond.instanceMethod y).before a0 Z = true) (w5 : (Jvm.Cond.selects C1 y' y').before a0 Z = true) (hyc : y'.cls = y.cls) (w6 : (Jvm.Cond.superclass own y.cls).before a0 Z = true) (hni : y.name ≠ "<init>") (E : Exa Z h a own) (w4 : (Jvm.Cond.code y b' ml' ret').before a0 Z = true) (Bk : BackS l R p e below (s.setVm vm0) args y 3 W (fun A a' => a' = (.ref a :: argsL).toArray ∧ A.U.heap = h ∧ A.cells + cc ≤ R.cells ∧ A.slots + ss ≤ R.slots) (fun A _ v B => ∃ L, Q v B.U.heap L ∧ B.locs = A.locs ++ L ∧ B.cells = A.cells + cc ∧ B.slots = A.slots + ss)) (hy : y.cls ≠ "java/lang/invoke/MethodHandle" ∧ y.cls ≠ "java/lang/invoke/VarHandle") (hc : cells + cc ≤ R.cells) (hs : slots + ss ≤ R.slots) (hL : L.size = ml) (hps : parseMethodDescriptor y.desc = some ⟨ps, r⟩) (hlen : argsL.length = ps.length) (hS : S0 = argsL.reverse ++ .ref a :: rest) (hW : (rest.map fun v => v.category).sum = W) (hd : decode bytes pc = .ok (.invokespecial i, 3)) (hp : pc + 3 = pc') (k : ∀ v T' h' L'', (Old Z n0 h' → Fr n0 L'' → St Z n0 p l e R s T'.vm m args below meth c own nm bytes ml ret T' (locs ++ L'') (cells + cc) (slots + ss) h') → Q v h' L'' → Go p e below K (T'.setTop (mkF m pc' L (v.toList ++ rest)))) : Go p e below K (T.setTop (mkF m pc L S0)) := by
  subst hS hp
  obtain ⟨v, _, ⟨T', L'', k', n'⟩, -, X', hS2, hgr, ⟨Lc, hQ, l', y', z'⟩, st'⟩ := superBackS X.X X.hx X.hZ (y := y) X.own_ w1 (own_sameM w2 w5 hyc hy) w2 w6 hni Bk X.eT (Ins.self E) (g := mkF m pc L (argsL.reverse ++ .ref a :: rest)) rfl (by rw [X.ml_]; exact hL) w4 (argsL := argsL) (rest := rest) (lenOf hps hlen) rfl (by show 2 * 0 + _ ≤ _; rw [hW, Nat.mul_zero, Nat.zero_add]; exact Nat.le_refl _) (X.d hd) (fun _ _ => ⟨rfl, X.eT, hc, hs⟩)
  dsimp only [Pt.U, Pt.locs, Pt.cells, Pt.slots] at X' hS2 hgr l' y' z' st' hQ
  subst l' y' z'
  exact (k v T' T'.heap Lc (fun hz hF => X.afterS X' hS2 (X.eT ▸ hgr) (X.fr.app hF) hz) hQ).of (fun _ q => st'.trans q)
theorem g_callU (X : St Z n0 p l e R s vm0 m args below meth c own nm bytes ml ret T locs cells slots h) {i : Nat} {y : MethodName} {b' : ByteArray} {ml' : Nat} {ret' : Option FieldType} {rm : Room} {Q : Option Value → Heap → List Loc → Prop} {ps : List FieldType} {r : Option FieldType} {W : Nat} {S0 rest : List Value} (argsL : List Value) {C1 : String} {y' : MethodName} {a : Addr} (w1 : (Jvm.Cond.methodLink own i y).before a0 Z = true) (w2 : (Jvm.Cond.instanceMethod y).before a0 Z = true) (w5 : (Jvm.Cond.selects C1 y' y').before a0 Z = true) (hyc : y'.cls = y.cls) (w6 : (Jvm.Cond.superclass own y.cls).before a0 Z = true) (hni : y.name ≠ "<init>") (E : Exa Z h a own) (w4 : (Jvm.Cond.code y b' ml' ret').before a0 Z = true) (w3 : (Jvm.Cond.initialized y.cls).before a0 Z = true) (C : Con l Z y b' ml' ret' [] rm rm.cells rm.slots (.ref a :: argsL).toArray h Q) (hy : y.cls ≠ "java/lang/invoke/MethodHandle" ∧ y.cls ≠ "java/lang/invoke/VarHandle") (hf : rm.frames + 1 ≤ R.frames) (hl : W + (ml' + 11) + rm.locals ≤ R.locals) (hc : cells + rm.cells ≤ R.cells) (hs : slots + rm.slots ≤ R.slots) (hL : L.size = ml) (hps : parseMethodDescriptor y.desc = some ⟨ps, r⟩) (hlen : argsL.length = ps.length) (hS : S0 = argsL.reverse ++ .ref a :: rest) (hW : (rest.map fun v => v.category).sum = W) (hd : decode bytes pc = .ok (.invokespecial i, 3)) (hp : pc + 3 = pc') (k : ∀ v T' h' L'', (Old Z n0 h' → Fr n0 L'' → St Z n0 p l e R s T'.vm m args below meth c own nm bytes ml ret T' (locs ++ L'') (cells + rm.cells) (slots + rm.slots) h') → Q v h' L'' → Go p e below K (T'.setTop (mkF m pc' L (v.toList ++ rest)))) : Go p e below K (T.setTop (mkF m pc L S0)) :=
  g_callUB X argsL w1 w2 w5 hyc w6 hni E w4 (backOfS (W := W) C X.hZ w4 w3 hf hl) hy hc hs hL hps hlen hS hW hd hp k
theorem g_callSNB (X : St Z n0 p l e R s vm0 m args below meth c own nm bytes ml ret T locs cells slots h) {i : Nat} {y : MethodName} {b' : ByteArray} {ml' : Nat} {ret' : Option FieldType} {cc ss : Nat} {Q : Option Value → Heap → List Loc → Prop} {ps : List FieldType} {r : Option FieldType} {W : Nat} {S0 rest : List Value} (argsL : List Value) {host : String} (w1 : (Jvm.Cond.methodLinkNest own i y host).before a0 Z = true) (w2 : (Jvm.Cond.static y).before a0 Z = true) (w0 : (Jvm.Cond.initialized y.cls).before a0 Z = true) (w4 : (Jvm.Cond.code y b' ml' ret').before a0 Z = true) (Bk : BackS l R p e below (s.setVm vm0) args y 3 W (fun A a' => a' = argsL.toArray ∧ A.U.heap = h ∧ A.cells + cc ≤ R.cells ∧ A.slots + ss ≤ R.slots) (fun A _ v B => ∃ L, Q v B.U.heap L ∧ B.locs = A.locs ++ L ∧ B.cells = A.cells + cc ∧ B.slots = A.slots + ss)) (hy : y.cls ≠ "java/lang/invoke/MethodHandle" ∧ y.cls ≠ "java/lang/invoke/VarHandle") (hc : cells + cc ≤ R.cells) (hs : slots + ss ≤ R.slots) (hL : L.size = ml) (hps : parseMethodDescriptor y.desc = some ⟨ps, r⟩) (hlen : argsL.length = ps.length) (hS : S0 = argsL.reverse ++ rest) (hW : (rest.map fun v => v.category).sum = W) (hd : decode bytes pc = .ok (.invokestatic i, 3)) (hp : pc + 3 = pc') (k : ∀ v T' h' L'', (Old Z n0 h' → Fr n0 L'' → St Z n0 p l e R s T'.vm m args below meth c own nm bytes ml ret T' (locs ++ L'') (cells + cc) (slots + ss) h') → Q v h' L'' → Go p e below K (T'.setTop (mkF m pc' L (v.toList ++ rest)))) : Go p e below K (T.setTop (mkF m pc L S0)) := by
  subst hS hp
  obtain ⟨v, _, ⟨T', L'', k', n'⟩, -, X', hS2, hgr, ⟨Lc, hQ, l', y', z'⟩, st'⟩ := callSNS X.X X.hx (y := y) X.own_ (Cond.methodLinkNest_wide X.hZ w1) (mvT X.hZ w2) (mvT X.hZ w0) (mvT X.hZ w4) hy Bk (g := mkF m pc L (argsL.reverse ++ rest)) rfl (by rw [X.ml_]; exact hL) (argsL := argsL) (rest := rest) (lenOf hps hlen) rfl (by show 2 * 0 + _ ≤ _; rw [hW, Nat.mul_zero, Nat.zero_add]; exact Nat.le_refl _) (X.d hd) (fun _ _ => ⟨rfl, X.eT, hc, hs⟩)
  dsimp only [Pt.U, Pt.locs, Pt.cells, Pt.slots] at X' hS2 hgr l' y' z' st' hQ
  subst l' y' z'
  exact (k v T' T'.heap Lc (fun hz hF => X.afterS X' hS2 (X.eT ▸ hgr) (X.fr.app hF) hz) hQ).of (fun _ q => st'.trans q)
theorem g_callSN (X : St Z n0 p l e R s vm0 m args below meth c own nm bytes ml ret T locs cells slots h) {i : Nat} {y : MethodName} {b' : ByteArray} {ml' : Nat} {ret' : Option FieldType} {rm : Room} {Q : Option Value → Heap → List Loc → Prop} {ps : List FieldType} {r : Option FieldType} {W : Nat} {S0 rest : List Value} (argsL : List Value) {host : String} (w1 : (Jvm.Cond.methodLinkNest own i y host).before a0 Z = true) (w2 : (Jvm.Cond.static y).before a0 Z = true) (w0 : (Jvm.Cond.initialized y.cls).before a0 Z = true) (w4 : (Jvm.Cond.code y b' ml' ret').before a0 Z = true) (w3 : (Jvm.Cond.initialized y.cls).before a0 Z = true) (C : Con l Z y b' ml' ret' [] rm rm.cells rm.slots argsL.toArray h Q) (hy : y.cls ≠ "java/lang/invoke/MethodHandle" ∧ y.cls ≠ "java/lang/invoke/VarHandle") (hf : rm.frames + 1 ≤ R.frames) (hl : W + (ml' + 11) + rm.locals ≤ R.locals) (hc : cells + rm.cells ≤ R.cells) (hs : slots + rm.slots ≤ R.slots) (hL : L.size = ml) (hps : parseMethodDescriptor y.desc = some ⟨ps, r⟩) (hlen : argsL.length = ps.length) (hS : S0 = argsL.reverse ++ rest) (hW : (rest.map fun v => v.category).sum = W) (hd : decode bytes pc = .ok (.invokestatic i, 3)) (hp : pc + 3 = pc') (k : ∀ v T' h' L'', (Old Z n0 h' → Fr n0 L'' → St Z n0 p l e R s T'.vm m args below meth c own nm bytes ml ret T' (locs ++ L'') (cells + rm.cells) (slots + rm.slots) h') → Q v h' L'' → Go p e below K (T'.setTop (mkF m pc' L (v.toList ++ rest)))) : Go p e below K (T.setTop (mkF m pc L S0)) :=
  g_callSNB X argsL w1 w2 w0 w4 (backOfS (W := W) C X.hZ w4 w3 hf hl) hy hc hs hL hps hlen hS hW hd hp k
theorem g_ncallSB (X : St Z n0 p l e R s vm0 m args below meth c own nm bytes ml ret T locs cells slots h) {i : Nat} {y : MethodName} {b' : ByteArray} {ml' : Nat} {ret' : Option FieldType} {cc ss : Nat} {Q : Option Value → Heap → List Loc → Prop} {ps : List FieldType} {r : Option FieldType} {W : Nat} {S0 rest : List Value} (argsL : List Value) (w1 : (Jvm.Cond.methodLink own i y).before a0 Z = true) (w2 : (Jvm.Cond.static y).before a0 Z = true) (w0 : (Jvm.Cond.initialized y.cls).before a0 Z = true) (w4 : (Jvm.Cond.code y b' ml' ret').before a0 Z = true) (Bk : Back l R p e below (s.setVm vm0) args y 3 W (fun A a' => a' = argsL.toArray ∧ A.U.heap = h ∧ A.cells + cc ≤ R.cells ∧ A.slots + ss ≤ R.slots) (fun A _ v B => ∃ L, Q v B.U.heap L ∧ B.locs = A.locs ++ L ∧ B.cells = A.cells + cc ∧ B.slots = A.slots + ss)) (hy : y.cls ≠ "java/lang/invoke/MethodHandle" ∧ y.cls ≠ "java/lang/invoke/VarHandle") (hc : cells + cc ≤ R.cells) (hs : slots + ss ≤ R.slots) (hL : L.size = ml) (hps : parseMethodDescriptor y.desc = some ⟨ps, r⟩) (hlen : argsL.length = ps.length) (hS : S0 = argsL.reverse ++ rest) (hW : (rest.map fun v => v.category).sum = W) (hd : decode bytes pc = .ok (.invokestatic i, 3)) (hp : pc + 3 = pc') (k : ∀ v T' h' L'', (Old Z n0 h' → Fr n0 L'' → h.size ≤ h'.size → St Z n0 p l e R s vm0 m args below meth c own nm bytes ml ret T' (locs ++ L'') (cells + cc) (slots + ss) h') → Q v h' L'' → Go p e below K (T'.setTop (mkF m pc' L (v.toList ++ rest)))) : Go p e below K (T.setTop (mkF m pc L S0)) := by
  subst hS hp
  obtain ⟨v, _, ⟨T', L'', k', n'⟩, -, X', ⟨Lc, hQ, l', y', z'⟩, st'⟩ := Jvm.LawKit.callS X.X X.hx (y := y) X.own_ (mvT X.hZ w1) (mvT X.hZ w2) (mvT X.hZ w0) (mvT X.hZ w4) hy Bk (g := mkF m pc L (argsL.reverse ++ rest)) rfl (by rw [X.ml_]; exact hL) (argsL := argsL) (rest := rest) (lenOf hps hlen) rfl (by show 2 * 0 + _ ≤ _; rw [hW, Nat.mul_zero, Nat.zero_add]; exact Nat.le_refl _) (X.d hd) (fun _ _ => ⟨rfl, X.eT, hc, hs⟩)
  dsimp only [Pt.U, Pt.locs, Pt.cells, Pt.slots] at X' l' y' z' st' hQ
  subst l' y' z'
  exact (k v T' T'.heap Lc (fun hz hF zz => X.to X' rfl (X.fr.app hF) hz zz) hQ).of st'
theorem g_ncallS (X : St Z n0 p l e R s vm0 m args below meth c own nm bytes ml ret T locs cells slots h) {i : Nat} {y : MethodName} {b' : ByteArray} {ml' : Nat} {ret' : Option FieldType} {rm : Room} {Q : Option Value → Heap → List Loc → Prop} {ps : List FieldType} {r : Option FieldType} {W : Nat} {S0 rest : List Value} (argsL : List Value) (w1 : (Jvm.Cond.methodLink own i y).before a0 Z = true) (w2 : (Jvm.Cond.static y).before a0 Z = true) (w0 : (Jvm.Cond.initialized y.cls).before a0 Z = true) (w4 : (Jvm.Cond.code y b' ml' ret').before a0 Z = true) (w3 : (Jvm.Cond.initialized y.cls).before a0 Z = true) (C : Nar.Con l Z y b' ml' ret' [] rm rm.cells rm.slots argsL.toArray h Q) (hy : y.cls ≠ "java/lang/invoke/MethodHandle" ∧ y.cls ≠ "java/lang/invoke/VarHandle") (hf : rm.frames + 1 ≤ R.frames) (hl : W + (ml' + 11) + rm.locals ≤ R.locals) (hc : cells + rm.cells ≤ R.cells) (hs : slots + rm.slots ≤ R.slots) (hL : L.size = ml) (hps : parseMethodDescriptor y.desc = some ⟨ps, r⟩) (hlen : argsL.length = ps.length) (hS : S0 = argsL.reverse ++ rest) (hW : (rest.map fun v => v.category).sum = W) (hd : decode bytes pc = .ok (.invokestatic i, 3)) (hp : pc + 3 = pc') (k : ∀ v T' h' L'', (Old Z n0 h' → Fr n0 L'' → h.size ≤ h'.size → St Z n0 p l e R s vm0 m args below meth c own nm bytes ml ret T' (locs ++ L'') (cells + rm.cells) (slots + rm.slots) h') → Q v h' L'' → Go p e below K (T'.setTop (mkF m pc' L (v.toList ++ rest)))) : Go p e below K (T.setTop (mkF m pc L S0)) :=
  g_ncallSB X argsL w1 w2 w0 w4 (backOf (W := W) C X.hZ w4 w3 hf hl) hy hc hs hL hps hlen hS hW hd hp k
theorem g_ncallIB (X : St Z n0 p l e R s vm0 m args below meth c own nm bytes ml ret T locs cells slots h) {i : Nat} {y : MethodName} {b' : ByteArray} {ml' : Nat} {ret' : Option FieldType} {cc ss : Nat} {Q : Option Value → Heap → List Loc → Prop} {ps : List FieldType} {r : Option FieldType} {W : Nat} {S0 rest : List Value} (argsL : List Value) {a : Addr} (hinit : y.name = "<init>") (w1 : (Jvm.Cond.methodLink own i y).before a0 Z = true) (w2 : (Jvm.Cond.instanceMethod y).before a0 Z = true) (hr : ret' = none) (w4 : (Jvm.Cond.code y b' ml' ret').before a0 Z = true) (Bk : Back l R p e below (s.setVm vm0) args y 3 W (fun A a' => a' = (.ref a :: argsL).toArray ∧ A.U.heap = h ∧ A.cells + cc ≤ R.cells ∧ A.slots + ss ≤ R.slots) (fun A _ v B => ∃ L, Q v B.U.heap L ∧ B.locs = A.locs ++ L ∧ B.cells = A.cells + cc ∧ B.slots = A.slots + ss)) (hy : y.cls ≠ "java/lang/invoke/MethodHandle" ∧ y.cls ≠ "java/lang/invoke/VarHandle") (hc : cells + cc ≤ R.cells) (hs : slots + ss ≤ R.slots) (hL : L.size = ml) (hps : parseMethodDescriptor y.desc = some ⟨ps, r⟩) (hlen : argsL.length = ps.length) (hS : S0 = argsL.reverse ++ .ref a :: rest) (hW : (rest.map fun v => v.category).sum = W) (hd : decode bytes pc = .ok (.invokespecial i, 3)) (hp : pc + 3 = pc') (k : ∀ v T' h' L'', (Old Z n0 h' → Fr n0 L'' → h.size ≤ h'.size → St Z n0 p l e R s vm0 m args below meth c own nm bytes ml ret T' (locs ++ L'') (cells + cc) (slots + ss) h') → Q v h' L'' → Go p e below K (T'.setTop (mkF m pc' L (v.toList ++ rest)))) : Go p e below K (T.setTop (mkF m pc L S0)) := by
  subst hS hp
  subst hr
  obtain ⟨v, _, ⟨T', L'', k', n'⟩, -, X', ⟨Lc, hQ, l', y', z'⟩, st'⟩ := X.X.specialBack X.hx (y := y) hinit X.own_ (mvT X.hZ w1) (mvT X.hZ w2) (mvT X.hZ w4) hy Bk (g := mkF m pc L (argsL.reverse ++ .ref a :: rest)) rfl (by rw [X.ml_]; exact hL) (Steps.refl _) (a := a) (argsL := argsL) (rest := rest) (lenOf hps hlen) rfl (by show 2 * 0 + _ ≤ _; rw [hW, Nat.mul_zero, Nat.zero_add]; exact Nat.le_refl _) (X.d hd) (fun _ _ => ⟨rfl, X.eT, hc, hs⟩)
  dsimp only [Pt.U, Pt.locs, Pt.cells, Pt.slots] at X' l' y' z' st' hQ
  subst l' y' z'
  exact (k v T' T'.heap Lc (fun hz hF zz => X.to X' rfl (X.fr.app hF) hz zz) hQ).of (fun _ q => st'.trans q)
theorem g_ncallI (X : St Z n0 p l e R s vm0 m args below meth c own nm bytes ml ret T locs cells slots h) {i : Nat} {y : MethodName} {b' : ByteArray} {ml' : Nat} {ret' : Option FieldType} {rm : Room} {Q : Option Value → Heap → List Loc → Prop} {ps : List FieldType} {r : Option FieldType} {W : Nat} {S0 rest : List Value} (argsL : List Value) {a : Addr} (hinit : y.name = "<init>") (w1 : (Jvm.Cond.methodLink own i y).before a0 Z = true) (w2 : (Jvm.Cond.instanceMethod y).before a0 Z = true) (hr : ret' = none) (w4 : (Jvm.Cond.code y b' ml' ret').before a0 Z = true) (w3 : (Jvm.Cond.initialized y.cls).before a0 Z = true) (C : Nar.Con l Z y b' ml' ret' [] rm rm.cells rm.slots (.ref a :: argsL).toArray h Q) (hy : y.cls ≠ "java/lang/invoke/MethodHandle" ∧ y.cls ≠ "java/lang/invoke/VarHandle") (hf : rm.frames + 1 ≤ R.frames) (hl : W + (ml' + 11) + rm.locals ≤ R.locals) (hc : cells + rm.cells ≤ R.cells) (hs : slots + rm.slots ≤ R.slots) (hL : L.size = ml) (hps : parseMethodDescriptor y.desc = some ⟨ps, r⟩) (hlen : argsL.length = ps.length) (hS : S0 = argsL.reverse ++ .ref a :: rest) (hW : (rest.map fun v => v.category).sum = W) (hd : decode bytes pc = .ok (.invokespecial i, 3)) (hp : pc + 3 = pc') (k : ∀ v T' h' L'', (Old Z n0 h' → Fr n0 L'' → h.size ≤ h'.size → St Z n0 p l e R s vm0 m args below meth c own nm bytes ml ret T' (locs ++ L'') (cells + rm.cells) (slots + rm.slots) h') → Q v h' L'' → Go p e below K (T'.setTop (mkF m pc' L (v.toList ++ rest)))) : Go p e below K (T.setTop (mkF m pc L S0)) :=
  g_ncallIB X argsL hinit w1 w2 hr w4 (backOf (W := W) C X.hZ w4 w3 hf hl) hy hc hs hL hps hlen hS hW hd hp k
theorem g_ncallVB (X : St Z n0 p l e R s vm0 m args below meth c own nm bytes ml ret T locs cells slots h) {i : Nat} {y : MethodName} {b' : ByteArray} {ml' : Nat} {ret' : Option FieldType} {cc ss : Nat} {Q : Option Value → Heap → List Loc → Prop} {ps : List FieldType} {r : Option FieldType} {W : Nat} {S0 rest : List Value} (argsL : List Value) {C0 : String} {z : MethodName} {a : Addr} (w1 : (Jvm.Cond.methodLink own i y).before a0 Z = true) (w2 : (Jvm.Cond.declares y).before a0 Z = true) (nf : NotFace (s.setVm vm0) y) (w5 : (Jvm.Cond.selects C0 y z).before a0 Z = true) (w6 : (Jvm.Cond.instanceMethod z).before a0 Z = true) (E : Exa Z h a C0) (w4 : (Jvm.Cond.code z b' ml' ret').before a0 Z = true) (Bk : Back l R p e below (s.setVm vm0) args z 3 W (fun A a' => a' = (.ref a :: argsL).toArray ∧ A.U.heap = h ∧ A.cells + cc ≤ R.cells ∧ A.slots + ss ≤ R.slots) (fun A _ v B => ∃ L, Q v B.U.heap L ∧ B.locs = A.locs ++ L ∧ B.cells = A.cells + cc ∧ B.slots = A.slots + ss)) (hy : y.cls ≠ "java/lang/invoke/MethodHandle" ∧ y.cls ≠ "java/lang/invoke/VarHandle") (hc : cells + cc ≤ R.cells) (hs : slots + ss ≤ R.slots) (hL : L.size = ml) (hps : parseMethodDescriptor y.desc = some ⟨ps, r⟩) (hlen : argsL.length = ps.length) (hS : S0 = argsL.reverse ++ .ref a :: rest) (hW : (rest.map fun v => v.category).sum = W) (hd : decode bytes pc = .ok (.invokevirtual i, 3)) (hp : pc + 3 = pc') (k : ∀ v T' h' L'', (Old Z n0 h' → Fr n0 L'' → h.size ≤ h'.size → St Z n0 p l e R s vm0 m args below meth c own nm bytes ml ret T' (locs ++ L'') (cells + cc) (slots + ss) h') → Q v h' L'' → Go p e below K (T'.setTop (mkF m pc' L (v.toList ++ rest)))) : Go p e below K (T.setTop (mkF m pc L S0)) := by
  subst hS hp
  obtain ⟨cq, kq, q1, q2, q3⟩ := isOf X.hZ X.eT E
  obtain ⟨v, _, ⟨T', L'', k', n'⟩, -, X', ⟨Lc, hQ, l', y', z'⟩, st'⟩ := X.X.virtualBack X.hx (y := y) (z := z) X.own_ (mvT X.hZ w1) (mvT X.hZ w2) nf (mvT X.hZ w5) (mvT X.hZ w6) hy Bk q1 q3 (g := mkF m pc L (argsL.reverse ++ .ref a :: rest)) rfl (by rw [X.ml_]; exact hL) (Steps.refl _) (argsL := argsL) (rest := rest) (lenOf hps hlen) rfl (by show 2 * 0 + _ ≤ _; rw [hW, Nat.mul_zero, Nat.zero_add]; exact Nat.le_refl _) (X.d hd) (fun _ _ => ⟨rfl, X.eT, hc, hs⟩)
  dsimp only [Pt.U, Pt.locs, Pt.cells, Pt.slots] at X' l' y' z' st' hQ
  subst l' y' z'
  exact (k v T' T'.heap Lc (fun hz hF zz => X.to X' rfl (X.fr.app hF) hz zz) hQ).of (fun _ q => st'.trans q)
theorem g_ncallV (X : St Z n0 p l e R s vm0 m args below meth c own nm bytes ml ret T locs cells slots h) {i : Nat} {y : MethodName} {b' : ByteArray} {ml' : Nat} {ret' : Option FieldType} {rm : Room} {Q : Option Value → Heap → List Loc → Prop} {ps : List FieldType} {r : Option FieldType} {W : Nat} {S0 rest : List Value} (argsL : List Value) {C0 : String} {z : MethodName} {a : Addr} (w1 : (Jvm.Cond.methodLink own i y).before a0 Z = true) (w2 : (Jvm.Cond.declares y).before a0 Z = true) (nf : NotFace (s.setVm vm0) y) (w5 : (Jvm.Cond.selects C0 y z).before a0 Z = true) (w6 : (Jvm.Cond.instanceMethod z).before a0 Z = true) (E : Exa Z h a C0) (w4 : (Jvm.Cond.code z b' ml' ret').before a0 Z = true) (w3 : (Jvm.Cond.initialized z.cls).before a0 Z = true) (C : Nar.Con l Z z b' ml' ret' [] rm rm.cells rm.slots (.ref a :: argsL).toArray h Q) (hy : y.cls ≠ "java/lang/invoke/MethodHandle" ∧ y.cls ≠ "java/lang/invoke/VarHandle") (hf : rm.frames + 1 ≤ R.frames) (hl : W + (ml' + 11) + rm.locals ≤ R.locals) (hc : cells + rm.cells ≤ R.cells) (hs : slots + rm.slots ≤ R.slots) (hL : L.size = ml) (hps : parseMethodDescriptor y.desc = some ⟨ps, r⟩) (hlen : argsL.length = ps.length) (hS : S0 = argsL.reverse ++ .ref a :: rest) (hW : (rest.map fun v => v.category).sum = W) (hd : decode bytes pc = .ok (.invokevirtual i, 3)) (hp : pc + 3 = pc') (k : ∀ v T' h' L'', (Old Z n0 h' → Fr n0 L'' → h.size ≤ h'.size → St Z n0 p l e R s vm0 m args below meth c own nm bytes ml ret T' (locs ++ L'') (cells + rm.cells) (slots + rm.slots) h') → Q v h' L'' → Go p e below K (T'.setTop (mkF m pc' L (v.toList ++ rest)))) : Go p e below K (T.setTop (mkF m pc L S0)) :=
  g_ncallVB X argsL w1 w2 nf w5 w6 E w4 (backOf (W := W) C X.hZ w4 w3 hf hl) hy hc hs hL hps hlen hS hW hd hp k
theorem g_ncallPB (X : St Z n0 p l e R s vm0 m args below meth c own nm bytes ml ret T locs cells slots h) {i : Nat} {y : MethodName} {b' : ByteArray} {ml' : Nat} {ret' : Option FieldType} {cc ss : Nat} {Q : Option Value → Heap → List Loc → Prop} {ps : List FieldType} {r : Option FieldType} {W : Nat} {S0 rest : List Value} (argsL : List Value) {C0 : String} {kk : Nat} {a : Addr} (w1 : (Jvm.Cond.methodLink own i y).before a0 Z = true) (w2 : (Jvm.Cond.instanceMethod y).before a0 Z = true) (wp : (Jvm.Cond.privateMethod y).before a0 Z = true) (wi : (Jvm.Cond.instantiable y.cls kk).before a0 Z = true) (E : Exa Z h a C0) (w4 : (Jvm.Cond.code y b' ml' ret').before a0 Z = true) (Bk : Back l R p e below (s.setVm vm0) args y 3 W (fun A a' => a' = (.ref a :: argsL).toArray ∧ A.U.heap = h ∧ A.cells + cc ≤ R.cells ∧ A.slots + ss ≤ R.slots) (fun A _ v B => ∃ L, Q v B.U.heap L ∧ B.locs = A.locs ++ L ∧ B.cells = A.cells + cc ∧ B.slots = A.slots + ss)) (hy : y.cls ≠ "java/lang/invoke/MethodHandle" ∧ y.cls ≠ "java/lang/invoke/VarHandle") (hc : cells + cc ≤ R.cells) (hs : slots + ss ≤ R.slots) (hL : L.size = ml) (hps : parseMethodDescriptor y.desc = some ⟨ps, r⟩) (hlen : argsL.length = ps.length) (hS : S0 = argsL.reverse ++ .ref a :: rest) (hW : (rest.map fun v => v.category).sum = W) (hd : decode bytes pc = .ok (.invokevirtual i, 3)) (hp : pc + 3 = pc') (k : ∀ v T' h' L'', (Old Z n0 h' → Fr n0 L'' → h.size ≤ h'.size → St Z n0 p l e R s vm0 m args below meth c own nm bytes ml ret T' (locs ++ L'') (cells + cc) (slots + ss) h') → Q v h' L'' → Go p e below K (T'.setTop (mkF m pc' L (v.toList ++ rest)))) : Go p e below K (T.setTop (mkF m pc L S0)) := by
  subst hS hp
  obtain ⟨cq, q1, q2⟩ := E.cell
  have hpr : State.PrivateAt (s.setVm vm0) y := Cond.privateMethod_at (mvP X.hZ wp (args := #[]))
  obtain ⟨c1, k1, f1, f2, f3, f4, -, -⟩ := Cond.instantiable_spec (show (Jvm.Cond.instantiable y.cls kk).holds #[] (s.setVm vm0) none (s.setVm vm0) [] = true from mvT X.hZ wi)
  obtain ⟨v, _, ⟨T', L'', k', n'⟩, -, X', ⟨Lc, hQ, l', y', z'⟩, st'⟩ := X.X.privateBack X.hx (y := y) X.own_ (mvT X.hZ w1) (mvT X.hZ w2) (selects_self_of_private f1 f2 (by cases hq : k1.isInterface with | false => rfl | true => rw [hq] at f4; simp at f4) hpr (mvT X.hZ w2) hy) hpr (mvT X.hZ w4) hy Bk (g := mkF m pc L (argsL.reverse ++ .ref a :: rest)) rfl (by rw [X.ml_]; exact hL) (Steps.refl _) (a := a) (by rw [X.eT]; exact q1) q2 (argsL := argsL) (rest := rest) (lenOf hps hlen) rfl (by show 2 * 0 + _ ≤ _; rw [hW, Nat.mul_zero, Nat.zero_add]; exact Nat.le_refl _) (X.d hd) (fun _ _ => ⟨rfl, X.eT, hc, hs⟩)
  dsimp only [Pt.U, Pt.locs, Pt.cells, Pt.slots] at X' l' y' z' st' hQ
  subst l' y' z'
  exact (k v T' T'.heap Lc (fun hz hF zz => X.to X' rfl (X.fr.app hF) hz zz) hQ).of (fun _ q => st'.trans q)
theorem g_ncallP (X : St Z n0 p l e R s vm0 m args below meth c own nm bytes ml ret T locs cells slots h) {i : Nat} {y : MethodName} {b' : ByteArray} {ml' : Nat} {ret' : Option FieldType} {rm : Room} {Q : Option Value → Heap → List Loc → Prop} {ps : List FieldType} {r : Option FieldType} {W : Nat} {S0 rest : List Value} (argsL : List Value) {C0 : String} {kk : Nat} {a : Addr} (w1 : (Jvm.Cond.methodLink own i y).before a0 Z = true) (w2 : (Jvm.Cond.instanceMethod y).before a0 Z = true) (wp : (Jvm.Cond.privateMethod y).before a0 Z = true) (wi : (Jvm.Cond.instantiable y.cls kk).before a0 Z = true) (E : Exa Z h a C0) (w4 : (Jvm.Cond.code y b' ml' ret').before a0 Z = true) (w3 : (Jvm.Cond.initialized y.cls).before a0 Z = true) (C : Nar.Con l Z y b' ml' ret' [] rm rm.cells rm.slots (.ref a :: argsL).toArray h Q) (hy : y.cls ≠ "java/lang/invoke/MethodHandle" ∧ y.cls ≠ "java/lang/invoke/VarHandle") (hf : rm.frames + 1 ≤ R.frames) (hl : W + (ml' + 11) + rm.locals ≤ R.locals) (hc : cells + rm.cells ≤ R.cells) (hs : slots + rm.slots ≤ R.slots) (hL : L.size = ml) (hps : parseMethodDescriptor y.desc = some ⟨ps, r⟩) (hlen : argsL.length = ps.length) (hS : S0 = argsL.reverse ++ .ref a :: rest) (hW : (rest.map fun v => v.category).sum = W) (hd : decode bytes pc = .ok (.invokevirtual i, 3)) (hp : pc + 3 = pc') (k : ∀ v T' h' L'', (Old Z n0 h' → Fr n0 L'' → h.size ≤ h'.size → St Z n0 p l e R s vm0 m args below meth c own nm bytes ml ret T' (locs ++ L'') (cells + rm.cells) (slots + rm.slots) h') → Q v h' L'' → Go p e below K (T'.setTop (mkF m pc' L (v.toList ++ rest)))) : Go p e below K (T.setTop (mkF m pc L S0)) :=
  g_ncallPB X argsL w1 w2 wp wi E w4 (backOf (W := W) C X.hZ w4 w3 hf hl) hy hc hs hL hps hlen hS hW hd hp k
theorem g_ncallQB (X : St Z n0 p l e R s vm0 m args below meth c own nm bytes ml ret T locs cells slots h) {i : Nat} {y : MethodName} {b' : ByteArray} {ml' : Nat} {ret' : Option FieldType} {cc ss : Nat} {Q : Option Value → Heap → List Loc → Prop} {ps : List FieldType} {r : Option FieldType} {W : Nat} {S0 rest : List Value} (argsL : List Value) {C0 C1 : String} {a : Addr} (w1 : (Jvm.Cond.methodLink own i y).before a0 Z = true) (w2 : (Jvm.Cond.instanceMethod y).before a0 Z = true) (wp : (Jvm.Cond.privateMethod y).before a0 Z = true) (w5 : (Jvm.Cond.selects C1 y y).before a0 Z = true) (E : Exa Z h a C0) (w4 : (Jvm.Cond.code y b' ml' ret').before a0 Z = true) (Bk : Back l R p e below (s.setVm vm0) args y 3 W (fun A a' => a' = (.ref a :: argsL).toArray ∧ A.U.heap = h ∧ A.cells + cc ≤ R.cells ∧ A.slots + ss ≤ R.slots) (fun A _ v B => ∃ L, Q v B.U.heap L ∧ B.locs = A.locs ++ L ∧ B.cells = A.cells + cc ∧ B.slots = A.slots + ss)) (hy : y.cls ≠ "java/lang/invoke/MethodHandle" ∧ y.cls ≠ "java/lang/invoke/VarHandle") (hc : cells + cc ≤ R.cells) (hs : slots + ss ≤ R.slots) (hL : L.size = ml) (hps : parseMethodDescriptor y.desc = some ⟨ps, r⟩) (hlen : argsL.length = ps.length) (hS : S0 = argsL.reverse ++ .ref a :: rest) (hW : (rest.map fun v => v.category).sum = W) (hd : decode bytes pc = .ok (.invokevirtual i, 3)) (hp : pc + 3 = pc') (k : ∀ v T' h' L'', (Old Z n0 h' → Fr n0 L'' → h.size ≤ h'.size → St Z n0 p l e R s vm0 m args below meth c own nm bytes ml ret T' (locs ++ L'') (cells + cc) (slots + ss) h') → Q v h' L'' → Go p e below K (T'.setTop (mkF m pc' L (v.toList ++ rest)))) : Go p e below K (T.setTop (mkF m pc L S0)) := by
  subst hS hp
  obtain ⟨cq, q1, q2⟩ := E.cell
  have hpr : State.PrivateAt (s.setVm vm0) y := Cond.privateMethod_at (mvP X.hZ wp (args := #[]))
  obtain ⟨v, _, ⟨T', L'', k', n'⟩, -, X', ⟨Lc, hQ, l', y', z'⟩, st'⟩ := X.X.privateBack X.hx (y := y) X.own_ (mvT X.hZ w1) (mvT X.hZ w2) (mvT X.hZ (own_selP w2 wp w5 hy)) hpr (mvT X.hZ w4) hy Bk (g := mkF m pc L (argsL.reverse ++ .ref a :: rest)) rfl (by rw [X.ml_]; exact hL) (Steps.refl _) (a := a) (by rw [X.eT]; exact q1) q2 (argsL := argsL) (rest := rest) (lenOf hps hlen) rfl (by show 2 * 0 + _ ≤ _; rw [hW, Nat.mul_zero, Nat.zero_add]; exact Nat.le_refl _) (X.d hd) (fun _ _ => ⟨rfl, X.eT, hc, hs⟩)
  dsimp only [Pt.U, Pt.locs, Pt.cells, Pt.slots] at X' l' y' z' st' hQ
  subst l' y' z'
  exact (k v T' T'.heap Lc (fun hz hF zz => X.to X' rfl (X.fr.app hF) hz zz) hQ).of (fun _ q => st'.trans q)
theorem g_ncallQ (X : St Z n0 p l e R s vm0 m args below meth c own nm bytes ml ret T locs cells slots h) {i : Nat} {y : MethodName} {b' : ByteArray} {ml' : Nat} {ret' : Option FieldType} {rm : Room} {Q : Option Value → Heap → List Loc → Prop} {ps : List FieldType} {r : Option FieldType} {W : Nat} {S0 rest : List Value} (argsL : List Value) {C0 C1 : String} {a : Addr} (w1 : (Jvm.Cond.methodLink own i y).before a0 Z = true) (w2 : (Jvm.Cond.instanceMethod y).before a0 Z = true) (wp : (Jvm.Cond.privateMethod y).before a0 Z = true) (w5 : (Jvm.Cond.selects C1 y y).before a0 Z = true) (E : Exa Z h a C0) (w4 : (Jvm.Cond.code y b' ml' ret').before a0 Z = true) (w3 : (Jvm.Cond.initialized y.cls).before a0 Z = true) (C : Nar.Con l Z y b' ml' ret' [] rm rm.cells rm.slots (.ref a :: argsL).toArray h Q) (hy : y.cls ≠ "java/lang/invoke/MethodHandle" ∧ y.cls ≠ "java/lang/invoke/VarHandle") (hf : rm.frames + 1 ≤ R.frames) (hl : W + (ml' + 11) + rm.locals ≤ R.locals) (hc : cells + rm.cells ≤ R.cells) (hs : slots + rm.slots ≤ R.slots) (hL : L.size = ml) (hps : parseMethodDescriptor y.desc = some ⟨ps, r⟩) (hlen : argsL.length = ps.length) (hS : S0 = argsL.reverse ++ .ref a :: rest) (hW : (rest.map fun v => v.category).sum = W) (hd : decode bytes pc = .ok (.invokevirtual i, 3)) (hp : pc + 3 = pc') (k : ∀ v T' h' L'', (Old Z n0 h' → Fr n0 L'' → h.size ≤ h'.size → St Z n0 p l e R s vm0 m args below meth c own nm bytes ml ret T' (locs ++ L'') (cells + rm.cells) (slots + rm.slots) h') → Q v h' L'' → Go p e below K (T'.setTop (mkF m pc' L (v.toList ++ rest)))) : Go p e below K (T.setTop (mkF m pc L S0)) :=
  g_ncallQB X argsL w1 w2 wp w5 E w4 (backOf (W := W) C X.hZ w4 w3 hf hl) hy hc hs hL hps hlen hS hW hd hp k
theorem g_ncallUB (X : St Z n0 p l e R s vm0 m args below meth c own nm bytes ml ret T locs cells slots h) {i : Nat} {y : MethodName} {b' : ByteArray} {ml' : Nat} {ret' : Option FieldType} {cc ss : Nat} {Q : Option Value → Heap → List Loc → Prop} {ps : List FieldType} {r : Option FieldType} {W : Nat} {S0 rest : List Value} (argsL : List Value) {C1 : String} {y' : MethodName} {a : Addr} (w1 : (Jvm.Cond.methodLink own i y).before a0 Z = true) (w2 : (Jvm.Cond.instanceMethod y).before a0 Z = true) (w5 : (Jvm.Cond.selects C1 y' y').before a0 Z = true) (hyc : y'.cls = y.cls) (w6 : (Jvm.Cond.superclass own y.cls).before a0 Z = true) (hni : y.name ≠ "<init>") (E : Exa Z h a own) (w4 : (Jvm.Cond.code y b' ml' ret').before a0 Z = true) (Bk : Back l R p e below (s.setVm vm0) args y 3 W (fun A a' => a' = (.ref a :: argsL).toArray ∧ A.U.heap = h ∧ A.cells + cc ≤ R.cells ∧ A.slots + ss ≤ R.slots) (fun A _ v B => ∃ L, Q v B.U.heap L ∧ B.locs = A.locs ++ L ∧ B.cells = A.cells + cc ∧ B.slots = A.slots + ss)) (hy : y.cls ≠ "java/lang/invoke/MethodHandle" ∧ y.cls ≠ "java/lang/invoke/VarHandle") (hc : cells + cc ≤ R.cells) (hs : slots + ss ≤ R.slots) (hL : L.size = ml) (hps : parseMethodDescriptor y.desc = some ⟨ps, r⟩) (hlen : argsL.length = ps.length) (hS : S0 = argsL.reverse ++ .ref a :: rest) (hW : (rest.map fun v => v.category).sum = W) (hd : decode bytes pc = .ok (.invokespecial i, 3)) (hp : pc + 3 = pc') (k : ∀ v T' h' L'', (Old Z n0 h' → Fr n0 L'' → h.size ≤ h'.size → St Z n0 p l e R s vm0 m args below meth c own nm bytes ml ret T' (locs ++ L'') (cells + cc) (slots + ss) h') → Q v h' L'' → Go p e below K (T'.setTop (mkF m pc' L (v.toList ++ rest)))) : Go p e below K (T.setTop (mkF m pc L S0)) := by
  subst hS hp
  obtain ⟨v, _, ⟨T', L'', k', n'⟩, -, X', ⟨Lc, hQ, l', y', z'⟩, st'⟩ := superBack X.X X.hx X.hZ (y := y) X.own_ w1 (own_sameM w2 w5 hyc hy) w2 w6 hni Bk X.eT (Ins.self E) (g := mkF m pc L (argsL.reverse ++ .ref a :: rest)) rfl (by rw [X.ml_]; exact hL) w4 (argsL := argsL) (rest := rest) (lenOf hps hlen) rfl (by show 2 * 0 + _ ≤ _; rw [hW, Nat.mul_zero, Nat.zero_add]; exact Nat.le_refl _) (X.d hd) (fun _ _ => ⟨rfl, X.eT, hc, hs⟩)
  dsimp only [Pt.U, Pt.locs, Pt.cells, Pt.slots] at X' l' y' z' st' hQ
  subst l' y' z'
  exact (k v T' T'.heap Lc (fun hz hF zz => X.to X' rfl (X.fr.app hF) hz zz) hQ).of (fun _ q => st'.trans q)
theorem g_ncallU (X : St Z n0 p l e R s vm0 m args below meth c own nm bytes ml ret T locs cells slots h) {i : Nat} {y : MethodName} {b' : ByteArray} {ml' : Nat} {ret' : Option FieldType} {rm : Room} {Q : Option Value → Heap → List Loc → Prop} {ps : List FieldType} {r : Option FieldType} {W : Nat} {S0 rest : List Value} (argsL : List Value) {C1 : String} {y' : MethodName} {a : Addr} (w1 : (Jvm.Cond.methodLink own i y).before a0 Z = true) (w2 : (Jvm.Cond.instanceMethod y).before a0 Z = true) (w5 : (Jvm.Cond.selects C1 y' y').before a0 Z = true) (hyc : y'.cls = y.cls) (w6 : (Jvm.Cond.superclass own y.cls).before a0 Z = true) (hni : y.name ≠ "<init>") (E : Exa Z h a own) (w4 : (Jvm.Cond.code y b' ml' ret').before a0 Z = true) (w3 : (Jvm.Cond.initialized y.cls).before a0 Z = true) (C : Nar.Con l Z y b' ml' ret' [] rm rm.cells rm.slots (.ref a :: argsL).toArray h Q) (hy : y.cls ≠ "java/lang/invoke/MethodHandle" ∧ y.cls ≠ "java/lang/invoke/VarHandle") (hf : rm.frames + 1 ≤ R.frames) (hl : W + (ml' + 11) + rm.locals ≤ R.locals) (hc : cells + rm.cells ≤ R.cells) (hs : slots + rm.slots ≤ R.slots) (hL : L.size = ml) (hps : parseMethodDescriptor y.desc = some ⟨ps, r⟩) (hlen : argsL.length = ps.length) (hS : S0 = argsL.reverse ++ .ref a :: rest) (hW : (rest.map fun v => v.category).sum = W) (hd : decode bytes pc = .ok (.invokespecial i, 3)) (hp : pc + 3 = pc') (k : ∀ v T' h' L'', (Old Z n0 h' → Fr n0 L'' → h.size ≤ h'.size → St Z n0 p l e R s vm0 m args below meth c own nm bytes ml ret T' (locs ++ L'') (cells + rm.cells) (slots + rm.slots) h') → Q v h' L'' → Go p e below K (T'.setTop (mkF m pc' L (v.toList ++ rest)))) : Go p e below K (T.setTop (mkF m pc L S0)) :=
  g_ncallUB X argsL w1 w2 w5 hyc w6 hni E w4 (backOf (W := W) C X.hZ w4 w3 hf hl) hy hc hs hL hps hlen hS hW hd hp k
theorem g_ncallSNB (X : St Z n0 p l e R s vm0 m args below meth c own nm bytes ml ret T locs cells slots h) {i : Nat} {y : MethodName} {b' : ByteArray} {ml' : Nat} {ret' : Option FieldType} {cc ss : Nat} {Q : Option Value → Heap → List Loc → Prop} {ps : List FieldType} {r : Option FieldType} {W : Nat} {S0 rest : List Value} (argsL : List Value) {host : String} (w1 : (Jvm.Cond.methodLinkNest own i y host).before a0 Z = true) (w2 : (Jvm.Cond.static y).before a0 Z = true) (w0 : (Jvm.Cond.initialized y.cls).before a0 Z = true) (w4 : (Jvm.Cond.code y b' ml' ret').before a0 Z = true) (Bk : Back l R p e below (s.setVm vm0) args y 3 W (fun A a' => a' = argsL.toArray ∧ A.U.heap = h ∧ A.cells + cc ≤ R.cells ∧ A.slots + ss ≤ R.slots) (fun A _ v B => ∃ L, Q v B.U.heap L ∧ B.locs = A.locs ++ L ∧ B.cells = A.cells + cc ∧ B.slots = A.slots + ss)) (hy : y.cls ≠ "java/lang/invoke/MethodHandle" ∧ y.cls ≠ "java/lang/invoke/VarHandle") (hc : cells + cc ≤ R.cells) (hs : slots + ss ≤ R.slots) (hL : L.size = ml) (hps : parseMethodDescriptor y.desc = some ⟨ps, r⟩) (hlen : argsL.length = ps.length) (hS : S0 = argsL.reverse ++ rest) (hW : (rest.map fun v => v.category).sum = W) (hd : decode bytes pc = .ok (.invokestatic i, 3)) (hp : pc + 3 = pc') (k : ∀ v T' h' L'', (Old Z n0 h' → Fr n0 L'' → h.size ≤ h'.size → St Z n0 p l e R s vm0 m args below meth c own nm bytes ml ret T' (locs ++ L'') (cells + cc) (slots + ss) h') → Q v h' L'' → Go p e below K (T'.setTop (mkF m pc' L (v.toList ++ rest)))) : Go p e below K (T.setTop (mkF m pc L S0)) := by
  subst hS hp
  obtain ⟨v, _, ⟨T', L'', k', n'⟩, -, X', ⟨Lc, hQ, l', y', z'⟩, st'⟩ := callSN X.X X.hx (y := y) X.own_ (Cond.methodLinkNest_wide X.hZ w1) (mvT X.hZ w2) (mvT X.hZ w0) (mvT X.hZ w4) hy Bk (g := mkF m pc L (argsL.reverse ++ rest)) rfl (by rw [X.ml_]; exact hL) (argsL := argsL) (rest := rest) (lenOf hps hlen) rfl (by show 2 * 0 + _ ≤ _; rw [hW, Nat.mul_zero, Nat.zero_add]; exact Nat.le_refl _) (X.d hd) (fun _ _ => ⟨rfl, X.eT, hc, hs⟩)
  dsimp only [Pt.U, Pt.locs, Pt.cells, Pt.slots] at X' l' y' z' st' hQ
  subst l' y' z'
  exact (k v T' T'.heap Lc (fun hz hF zz => X.to X' rfl (X.fr.app hF) hz zz) hQ).of (fun _ q => st'.trans q)
theorem g_ncallSN (X : St Z n0 p l e R s vm0 m args below meth c own nm bytes ml ret T locs cells slots h) {i : Nat} {y : MethodName} {b' : ByteArray} {ml' : Nat} {ret' : Option FieldType} {rm : Room} {Q : Option Value → Heap → List Loc → Prop} {ps : List FieldType} {r : Option FieldType} {W : Nat} {S0 rest : List Value} (argsL : List Value) {host : String} (w1 : (Jvm.Cond.methodLinkNest own i y host).before a0 Z = true) (w2 : (Jvm.Cond.static y).before a0 Z = true) (w0 : (Jvm.Cond.initialized y.cls).before a0 Z = true) (w4 : (Jvm.Cond.code y b' ml' ret').before a0 Z = true) (w3 : (Jvm.Cond.initialized y.cls).before a0 Z = true) (C : Nar.Con l Z y b' ml' ret' [] rm rm.cells rm.slots argsL.toArray h Q) (hy : y.cls ≠ "java/lang/invoke/MethodHandle" ∧ y.cls ≠ "java/lang/invoke/VarHandle") (hf : rm.frames + 1 ≤ R.frames) (hl : W + (ml' + 11) + rm.locals ≤ R.locals) (hc : cells + rm.cells ≤ R.cells) (hs : slots + rm.slots ≤ R.slots) (hL : L.size = ml) (hps : parseMethodDescriptor y.desc = some ⟨ps, r⟩) (hlen : argsL.length = ps.length) (hS : S0 = argsL.reverse ++ rest) (hW : (rest.map fun v => v.category).sum = W) (hd : decode bytes pc = .ok (.invokestatic i, 3)) (hp : pc + 3 = pc') (k : ∀ v T' h' L'', (Old Z n0 h' → Fr n0 L'' → h.size ≤ h'.size → St Z n0 p l e R s vm0 m args below meth c own nm bytes ml ret T' (locs ++ L'') (cells + rm.cells) (slots + rm.slots) h') → Q v h' L'' → Go p e below K (T'.setTop (mkF m pc' L (v.toList ++ rest)))) : Go p e below K (T.setTop (mkF m pc L S0)) :=
  g_ncallSNB X argsL w1 w2 w0 w4 (backOf (W := W) C X.hZ w4 w3 hf hl) hy hc hs hL hps hlen hS hW hd hp k
theorem g_arraycopy (X : St Z n0 p l e R s vm0 m args below meth c own nm bytes ml ret T locs cells slots h) {i : Nat} {a b : Addr} {sp dp nn : Int32} {si di ni : Nat} {ty : FieldType} {vs vd : List Value} {W : Nat} (w1 : (Jvm.Cond.methodLink own i Jvm.Stand.acN).before a0 Z = true) (w2 : (Jvm.Cond.native Jvm.Stand.acN).before a0 Z = true) (w3 : (Jvm.Cond.static Jvm.Stand.acN).before a0 Z = true) (w4 : (Jvm.Cond.initialized "java/lang/System").before a0 Z = true) (A : Arx Z h a ty vs) (B : Arx Z h b ty vd) (hty : refKind ty = false) (fs : ∀ v ∈ vs, fits ty v = true) (fd : ∀ v ∈ vd, fits ty v = true) (h1 : sp.toInt = (si : Int)) (h2 : dp.toInt = (di : Int)) (h3 : nn.toInt = (ni : Int)) (h4 : si + ni ≤ vs.length) (h5 : di + ni ≤ vd.length) (ge : n0 ≤ b) (hL : L.size = ml) (hW : (S.map fun v => v.category).sum = W) (hf : 1 ≤ R.frames) (hl : W + (nativeFrameWords "java/lang/System" "arraycopy" 5 + 11) ≤ R.locals) (hd : decode bytes pc = .ok (.invokestatic i, 3)) (hp : pc + 3 = pc')
    (k : ∀ T' h' locs', St Z n0 p l e R s vm0 m args below meth c own nm bytes ml ret T' locs' cells slots h' → Keep h h' [b] → Arx Z h' b ty (vd.take di ++ (vs.drop si).take ni ++ vd.drop (di + ni)) → Go p e below K (T'.setTop (mkF m pc' L S))) : Go p e below K (T.setTop (mkF m pc L (.int nn :: .int dp :: .ref b :: .int sp :: .ref a :: S))) := by
  have q1 := own_clampN h1; have q2 := own_clampN h2; have q3 := own_clampN h3
  obtain ⟨ka, VA⟩ := arx_arv (n := Int32.ofNat vs.length) (d := .int 0) A (Int32.toInt_ofNat_small A.le) fs
  obtain ⟨kb, VB⟩ := arx_arv (n := Int32.ofNat vd.length) (d := .int 0) B (Int32.toInt_ofNat_small B.le) fd
  have c1 := (own_clampN (Int32.toInt_ofNat_small A.le)).2; have c2 := (own_clampN (Int32.toInt_ofNat_small B.le)).2
  have hus : (vs.drop si).take ni = (List.range nn.toNatClampNeg).map fun i => vs.getD (sp.toNatClampNeg + i) (.int 0) := by
    rw [q1.2, q3.2]
    apply List.ext_getElem?
    intro j
    by_cases hj : j < ni
    · rw [List.getElem?_take_of_lt hj, List.getElem?_drop, List.getElem?_map, List.getElem?_range hj]
      simp [List.getElem?_eq_getElem (show si + j < vs.length by omega)]
    · rw [List.getElem?_eq_none (by rw [List.length_take, List.length_drop]; omega), List.getElem?_eq_none (by simp; omega)]
  obtain ⟨T', h', L', X', e', N', K', B', st'⟩ := cpA X.X X.hx X.hZ X.own_ w1 w2 w3 w4 X.eT VA VB (Or.inl ⟨rfl, hty⟩) q1.1 q2.1 q3.1 (by rw [q1.2, q3.2, c1]; exact h4) (by rw [q2.2, q3.2, c2]; exact h5) hus (by rw [q2.2, q3.2]; exact h5) X.fr ge (g := mkF m pc L (.int nn :: .int dp :: .ref b :: .int sp :: .ref a :: S)) rfl (by rw [X.ml_]; exact hL) rfl (X.d hd) hf (W := W) (by show 2 * 0 + _ ≤ _; rw [hW, Nat.mul_zero, Nat.zero_add]; exact Nat.le_refl _) hl
  rw [q2.2, q3.2] at B'
  subst hp; exact (k T' h' L' (X.to X' e' N' (X.old.keep K' (allS ge all0)) K'.1) K' (arv_arx B' (by rw [Int32.toInt_ofNat_small B.le]; simp only [List.length_append, List.length_take, List.length_drop]; omega))).of st'
theorem g_rawbits (X : St Z n0 p l e R s vm0 m args below meth c own nm bytes ml ret T locs cells slots h) {i : Nat} {b : UInt64} {W : Nat} (w1 : (Jvm.Cond.methodLink own i doubleToRawLongBitsName).before a0 Z = true) (w2 : (Jvm.Cond.native doubleToRawLongBitsName).before a0 Z = true) (w3 : (Jvm.Cond.static doubleToRawLongBitsName).before a0 Z = true) (w4 : (Jvm.Cond.initialized "java/lang/Double").before a0 Z = true) (hL : L.size = ml) (hW : (S.map fun v => v.category).sum = W) (hf : 1 ≤ R.frames) (hl : W + (nativeFrameWords "java/lang/Double" "doubleToRawLongBits" 2 + 11) ≤ R.locals) (hd : decode bytes pc = .ok (.invokestatic i, 3)) (hp : pc + 3 = pc') (k : ∀ T', St Z n0 p l e R s vm0 m args below meth c own nm bytes ml ret T' locs cells slots h → Go p e below K (T'.setTop (mkF m pc' L (.long b.toInt64 :: S)))) : Go p e below K (T.setTop (mkF m pc L (.double b :: S))) := by
  obtain ⟨vm', X', st'⟩ := X.X.doubleToRawLongBits X.hx X.own_ (mvT X.hZ w1) (mvT X.hZ w2) (mvT X.hZ w3) (mvT X.hZ w4) (g := mkF m pc L (.double b :: S)) rfl (by rw [X.ml_]; exact hL) rfl (X.d hd) hf (by show 2 * 0 + _ + _ ≤ _; rw [hW, Nat.mul_zero, Nat.zero_add]; exact hl)
  subst hp; exact (k _ (X.to X' X.eT X.fr X.old (Nat.le_refl _))).of st'
theorem g_retI (X : St Z n0 p l e R s vm0 m args below meth c own nm bytes ml ret T locs cells slots h) {C N : Nat} {Q : Option Value → Heap → List Loc → Prop} {z : Int32} (hr : ret = some .int) (hd : decode bytes pc = .ok (.ireturn, 1)) (hc : cells ≤ C) (hs : slots ≤ N) (q : Q (some (.int z)) h locs) : Go p e below (Kq s C N Q) (T.setTop (mkF m pc L (.int z :: S))) := by
  obtain ⟨k0, hS, hk⟩ := X.2.2.2.2.2
  obtain ⟨fs, hl, hrun, hended, q1, q2, q3, hsame⟩ := X.X.leaveW hS (X.eT.symm ▸ hk) (v := (some (.int z))) (fun h => by rw [X.ret_, hr] at h; cases h) X.lk
  exact ⟨_, _, retOut X.X X.hx (t := .int) (X.ret_.trans hr) rfl (Or.inl ⟨rfl, Or.inl rfl, _, rfl⟩) (X.d hd) hl, hrun, hended, _, _, rfl, (show Q _ T.heap _ by rw [X.eT]; exact q), q1, q2, q3, hsame.mono hc hs⟩
theorem g_retL (X : St Z n0 p l e R s vm0 m args below meth c own nm bytes ml ret T locs cells slots h) {C N : Nat} {Q : Option Value → Heap → List Loc → Prop} {z : Int64} (hr : ret = some .long) (hd : decode bytes pc = .ok (.lreturn, 1)) (hc : cells ≤ C) (hs : slots ≤ N) (q : Q (some (.long z)) h locs) : Go p e below (Kq s C N Q) (T.setTop (mkF m pc L (.long z :: S))) := by
  obtain ⟨k0, hS, hk⟩ := X.2.2.2.2.2
  obtain ⟨fs, hl, hrun, hended, q1, q2, q3, hsame⟩ := X.X.leaveW hS (X.eT.symm ▸ hk) (v := (some (.long z))) (fun h => by rw [X.ret_, hr] at h; cases h) X.lk
  exact ⟨_, _, retOut X.X X.hx (t := .long) (X.ret_.trans hr) rfl (Or.inr (Or.inl ⟨rfl, rfl, _, rfl⟩)) (X.d hd) hl, hrun, hended, _, _, rfl, (show Q _ T.heap _ by rw [X.eT]; exact q), q1, q2, q3, hsame.mono hc hs⟩
theorem g_retD (X : St Z n0 p l e R s vm0 m args below meth c own nm bytes ml ret T locs cells slots h) {C N : Nat} {Q : Option Value → Heap → List Loc → Prop} {z : UInt64} (hr : ret = some .double) (hd : decode bytes pc = .ok (.dreturn, 1)) (hc : cells ≤ C) (hs : slots ≤ N) (q : Q (some (.double z)) h locs) : Go p e below (Kq s C N Q) (T.setTop (mkF m pc L (.double z :: S))) := by
  obtain ⟨k0, hS, hk⟩ := X.2.2.2.2.2
  obtain ⟨fs, hl, hrun, hended, q1, q2, q3, hsame⟩ := X.X.leaveW hS (X.eT.symm ▸ hk) (v := (some (.double z))) (fun h => by rw [X.ret_, hr] at h; cases h) X.lk
  exact ⟨_, _, retOut X.X X.hx (t := .double) (X.ret_.trans hr) rfl (Or.inr (Or.inr (Or.inl ⟨rfl, rfl, _, rfl⟩))) (X.d hd) hl, hrun, hended, _, _, rfl, (show Q _ T.heap _ by rw [X.eT]; exact q), q1, q2, q3, hsame.mono hc hs⟩
theorem g_retA (X : St Z n0 p l e R s vm0 m args below meth c own nm bytes ml ret T locs cells slots h) {C N : Nat} {Q : Option Value → Heap → List Loc → Prop} {z : Value} {t : FieldType} (hz : z.isRef = true) (ht : t.isReference = true) (hr : ret = some t) (hd : decode bytes pc = .ok (.areturn, 1)) (hc : cells ≤ C) (hs : slots ≤ N) (q : Q (some z) h locs) : Go p e below (Kq s C N Q) (T.setTop (mkF m pc L (z :: S))) := by
  obtain ⟨k0, hS, hk⟩ := X.2.2.2.2.2
  obtain ⟨fs, hl, hrun, hended, q1, q2, q3, hsame⟩ := X.X.leaveW hS (X.eT.symm ▸ hk) (v := (some z)) (fun h => by rw [X.ret_, hr] at h; cases h) X.lk
  exact ⟨_, _, retOut X.X X.hx (t := t) (X.ret_.trans hr) (by cases z <;> cases t <;> simp [Value.isRef, FieldType.isReference, narrow] at hz ht ⊢) (Or.inr (Or.inr (Or.inr (Or.inr ⟨rfl, ht, hz⟩)))) (X.d hd) hl, hrun, hended, _, _, rfl, (show Q _ T.heap _ by rw [X.eT]; exact q), q1, q2, q3, hsame.mono hc hs⟩
theorem g_retN (X : St Z n0 p l e R s vm0 m args below meth c own nm bytes ml ret T locs cells slots h) {C N : Nat} {Q : Option Value → Heap → List Loc → Prop} {z : Int32} {t : FieldType} (ht : t = .boolean ∨ t = .byte ∨ t = .char ∨ t = .short) (hr : ret = some t) (hd : decode bytes pc = .ok (.ireturn, 1)) (hc : cells ≤ C) (hs : slots ≤ N) (q : Q (some (.int (nar t z))) h locs) : Go p e below (Kq s C N Q) (T.setTop (mkF m pc L (.int z :: S))) := by
  obtain ⟨k0, hS, hk⟩ := X.2.2.2.2.2
  obtain ⟨fs, hl, hrun, hended, q1, q2, q3, hsame⟩ := X.X.leaveW hS (X.eT.symm ▸ hk) (v := (some (.int (nar t z)))) (fun h => by rw [X.ret_, hr] at h; cases h) X.lk
  exact ⟨_, _, retN X.X X.hx (t := t) (X.ret_.trans hr) ht (X.d hd) hl, hrun, hended, _, _, rfl, (show Q _ T.heap _ by rw [X.eT]; exact q), q1, q2, q3, hsame.mono hc hs⟩
theorem g_ret (X : St Z n0 p l e R s vm0 m args below meth c own nm bytes ml ret T locs cells slots h) {C N : Nat} {Q : Option Value → Heap → List Loc → Prop} (hr : ret = none) (hd : decode bytes pc = .ok (.return_, 1)) (hc : cells ≤ C) (hs : slots ≤ N) (q : Q none h locs) : Go p e below (Kq s C N Q) (T.setTop (mkF m pc L [])) := by
  obtain ⟨k0, hS, hk⟩ := X.2.2.2.2.2
  obtain ⟨fs, hl, hrun, hended, q1, q2, q3, hsame⟩ := X.X.leaveW hS (X.eT.symm ▸ hk) (v := none) (fun _ => rfl) X.lk
  exact ⟨_, _, X.X.returnOut X.hx (X.ret_.trans hr) (X.d hd) hl, hrun, hended, _, _, rfl, (show Q _ T.heap _ by rw [X.eT]; exact q), q1, q2, q3, hsame.mono hc hs⟩

end Own
end Wid

theorem m0 : (Jvm.Cond.methodLink "com/example/indexloom/indexloom/TextsFindPinLaw" (29 : Nat) ({ cls := "com/example/indexloom/indexloom/TextsFindPinLaw", name := "field", desc := "(JI)I" } : Jvm.MethodName)) ∈ tables_1 := List.mem_of_getElem? (i := 0) rfl
theorem m1 : (Jvm.Cond.static ({ cls := "com/example/indexloom/indexloom/TextsFindPinLaw", name := "field", desc := "(JI)I" } : Jvm.MethodName)) ∈ tables_1 := List.mem_of_getElem? (i := 1) rfl
theorem m2 : (Jvm.Cond.initialized "com/example/indexloom/indexloom/TextsFindPinLaw") ∈ tables_1 := List.mem_of_getElem? (i := 2) rfl
theorem m3 : (Jvm.Cond.code ({ cls := "com/example/indexloom/indexloom/TextsFindPinLaw", name := "field", desc := "(JI)I" } : Jvm.MethodName) method_2_code (3 : Nat) (Option.some Jvm.ClassFile.FieldType.int)) ∈ tables_1 := List.mem_of_getElem? (i := 3) rfl
theorem m4 : (Jvm.Cond.constantLong "com/example/indexloom/indexloom/TextsFindPinLaw" (7 : Nat) (262143 : Int64)) ∈ tables_1 := List.mem_of_getElem? (i := 4) rfl
theorem m5 : (Jvm.Cond.methodLink "com/example/indexloom/indexloom/TextsFindPinLaw" (33 : Nat) ({ cls := "com/example/indexloom/indexloom/TextsFindPinLaw", name := "str", desc := "(I)Ljava/lang/String;" } : Jvm.MethodName)) ∈ tables_1 := List.mem_of_getElem? (i := 5) rfl
theorem m6 : (Jvm.Cond.static ({ cls := "com/example/indexloom/indexloom/TextsFindPinLaw", name := "str", desc := "(I)Ljava/lang/String;" } : Jvm.MethodName)) ∈ tables_1 := List.mem_of_getElem? (i := 6) rfl
theorem m7 : (Jvm.Cond.code ({ cls := "com/example/indexloom/indexloom/TextsFindPinLaw", name := "str", desc := "(I)Ljava/lang/String;" } : Jvm.MethodName) method_3_code (4 : Nat) (Option.some (Jvm.ClassFile.FieldType.object "java/lang/String"))) ∈ tables_1 := List.mem_of_getElem? (i := 7) rfl
theorem m8 : (Jvm.Cond.classLink "com/example/indexloom/indexloom/TextsFindPinLaw" (9 : Nat) "java/lang/String") ∈ tables_1 := List.mem_of_getElem? (i := 8) rfl
theorem m9 : (Jvm.Cond.instantiable "java/lang/String" (4 : Nat)) ∈ tables_1 := List.mem_of_getElem? (i := 9) rfl
theorem m10 : (Jvm.Cond.initialized "java/lang/String") ∈ tables_1 := List.mem_of_getElem? (i := 10) rfl
theorem m11 : (Jvm.Cond.arrayClass Jvm.ClassFile.FieldType.char) ∈ tables_1 := List.mem_of_getElem? (i := 11) rfl
theorem m12 : (Jvm.Cond.methodLink "com/example/indexloom/indexloom/TextsFindPinLaw" (11 : Nat) ({ cls := "java/lang/String", name := "<init>", desc := "([C)V" } : Jvm.MethodName)) ∈ tables_1 := List.mem_of_getElem? (i := 12) rfl
theorem m13 : (Jvm.Cond.instanceMethod ({ cls := "java/lang/String", name := "<init>", desc := "([C)V" } : Jvm.MethodName)) ∈ tables_1 := List.mem_of_getElem? (i := 13) rfl
theorem m14 : (Jvm.Cond.code ({ cls := "java/lang/String", name := "<init>", desc := "([C)V" } : Jvm.MethodName) jdk_42_method_3_code (2 : Nat) (Option.none : Option Jvm.ClassFile.FieldType)) ∈ tables_1 := List.mem_of_getElem? (i := 14) rfl
theorem m15 : (Jvm.Cond.methodLink "java/lang/String" (27 : Nat) ({ cls := "java/lang/String", name := "<init>", desc := "([CIILjava/lang/Void;)V" } : Jvm.MethodName)) ∈ tables_1 := List.mem_of_getElem? (i := 15) rfl
theorem m16 : (Jvm.Cond.instanceMethod ({ cls := "java/lang/String", name := "<init>", desc := "([CIILjava/lang/Void;)V" } : Jvm.MethodName)) ∈ tables_1 := List.mem_of_getElem? (i := 16) rfl
theorem m18 : (Jvm.Cond.code ({ cls := "java/lang/String", name := "<init>", desc := "([CIILjava/lang/Void;)V" } : Jvm.MethodName) jdk_42_method_149_code (6 : Nat) (Option.none : Option Jvm.ClassFile.FieldType)) ∈ tables_1 := List.mem_of_getElem? (i := 18) rfl
theorem m19 : (Jvm.Cond.methodLink "java/lang/String" (1 : Nat) ({ cls := "java/lang/Object", name := "<init>", desc := "()V" } : Jvm.MethodName)) ∈ tables_1 := List.mem_of_getElem? (i := 19) rfl
theorem m20 : (Jvm.Cond.instanceMethod ({ cls := "java/lang/Object", name := "<init>", desc := "()V" } : Jvm.MethodName)) ∈ tables_1 := List.mem_of_getElem? (i := 20) rfl
theorem m21 : (Jvm.Cond.code ({ cls := "java/lang/Object", name := "<init>", desc := "()V" } : Jvm.MethodName) object_method_1_code (1 : Nat) (Option.none : Option Jvm.ClassFile.FieldType)) ∈ tables_1 := List.mem_of_getElem? (i := 21) rfl
theorem m22 : (Jvm.Cond.stringLink "java/lang/String" (7 : Nat) "") ∈ tables_1 := List.mem_of_getElem? (i := 22) rfl
theorem m23 : (Jvm.Cond.arrayClass Jvm.ClassFile.FieldType.byte) ∈ tables_1 := List.mem_of_getElem? (i := 23) rfl
theorem m24 : (Jvm.Cond.laysFinal "java/lang/String" "java/lang/String" "value" "[B") ∈ tables_1 := List.mem_of_getElem? (i := 24) rfl
theorem m25 : (Jvm.Cond.laysFinal "java/lang/String" "java/lang/String" "coder" "B") ∈ tables_1 := List.mem_of_getElem? (i := 25) rfl
theorem m28 : (Jvm.Cond.fieldLink "java/lang/String" (9 : Nat) "java/lang/String" "value" "[B") ∈ tables_1 := List.mem_of_getElem? (i := 28) rfl
theorem m29 : (Jvm.Cond.fieldLink "java/lang/String" (15 : Nat) "java/lang/String" "coder" "B") ∈ tables_1 := List.mem_of_getElem? (i := 29) rfl
theorem m30 : (Jvm.Cond.methodLink "com/example/indexloom/indexloom/TextsFindPinLaw" (37 : Nat) ({ cls := "com/example/indexloom/indexloom/TextsFindPinLaw", name := "enc", desc := "(I[B)I" } : Jvm.MethodName)) ∈ tables_1 := List.mem_of_getElem? (i := 30) rfl
theorem m31 : (Jvm.Cond.static ({ cls := "com/example/indexloom/indexloom/TextsFindPinLaw", name := "enc", desc := "(I[B)I" } : Jvm.MethodName)) ∈ tables_1 := List.mem_of_getElem? (i := 31) rfl
theorem m32 : (Jvm.Cond.code ({ cls := "com/example/indexloom/indexloom/TextsFindPinLaw", name := "enc", desc := "(I[B)I" } : Jvm.MethodName) method_5_code (4 : Nat) (Option.some Jvm.ClassFile.FieldType.int)) ∈ tables_1 := List.mem_of_getElem? (i := 32) rfl
theorem m33 : (Jvm.Cond.methodLink "com/example/indexloom/indexloom/TextsFindPinLaw" (41 : Nat) ({ cls := "java/lang/String", name := "equals", desc := "(Ljava/lang/Object;)Z" } : Jvm.MethodName)) ∈ tables_1 := List.mem_of_getElem? (i := 33) rfl
theorem m34 : (Jvm.Cond.declares ({ cls := "java/lang/String", name := "equals", desc := "(Ljava/lang/Object;)Z" } : Jvm.MethodName)) ∈ tables_1 := List.mem_of_getElem? (i := 34) rfl
theorem m35 : (Jvm.Cond.instanceMethod ({ cls := "java/lang/String", name := "equals", desc := "(Ljava/lang/Object;)Z" } : Jvm.MethodName)) ∈ tables_1 := List.mem_of_getElem? (i := 35) rfl
theorem m36 : (Jvm.Cond.selects "java/lang/String" ({ cls := "java/lang/String", name := "equals", desc := "(Ljava/lang/Object;)Z" } : Jvm.MethodName) ({ cls := "java/lang/String", name := "equals", desc := "(Ljava/lang/Object;)Z" } : Jvm.MethodName)) ∈ tables_1 := List.mem_of_getElem? (i := 36) rfl
theorem m37 : (Jvm.Cond.code ({ cls := "java/lang/String", name := "equals", desc := "(Ljava/lang/Object;)Z" } : Jvm.MethodName) jdk_42_method_66_code (3 : Nat) (Option.some Jvm.ClassFile.FieldType.boolean)) ∈ tables_1 := List.mem_of_getElem? (i := 37) rfl
theorem m38 : (Jvm.Cond.classLink "java/lang/String" (10 : Nat) "java/lang/String") ∈ tables_1 := List.mem_of_getElem? (i := 38) rfl
theorem m39 : (Jvm.Cond.fieldLink "java/lang/String" (38 : Nat) "java/lang/String" "COMPACT_STRINGS" "Z") ∈ tables_1 := List.mem_of_getElem? (i := 39) rfl
theorem m40 : (Jvm.Cond.methodLink "java/lang/String" (541 : Nat) ({ cls := "java/lang/StringLatin1", name := "equals", desc := "([B[B)Z" } : Jvm.MethodName)) ∈ tables_1 := List.mem_of_getElem? (i := 40) rfl
theorem m41 : (Jvm.Cond.static ({ cls := "java/lang/StringLatin1", name := "equals", desc := "([B[B)Z" } : Jvm.MethodName)) ∈ tables_1 := List.mem_of_getElem? (i := 41) rfl
theorem m42 : (Jvm.Cond.initialized "java/lang/StringLatin1") ∈ tables_1 := List.mem_of_getElem? (i := 42) rfl
theorem m43 : (Jvm.Cond.code ({ cls := "java/lang/StringLatin1", name := "equals", desc := "([B[B)Z" } : Jvm.MethodName) jdk_43_method_13_code (3 : Nat) (Option.some Jvm.ClassFile.FieldType.boolean)) ∈ tables_1 := List.mem_of_getElem? (i := 43) rfl
theorem m44 : (Jvm.Cond.methodLink "com/example/indexloom/indexloom/TextsFindPinLaw" (45 : Nat) ({ cls := "com/example/indexloom/indexloom/TextsFindPinLaw", name := "start", desc := "(I)I" } : Jvm.MethodName)) ∈ tables_1 := List.mem_of_getElem? (i := 44) rfl
theorem m45 : (Jvm.Cond.static ({ cls := "com/example/indexloom/indexloom/TextsFindPinLaw", name := "start", desc := "(I)I" } : Jvm.MethodName)) ∈ tables_1 := List.mem_of_getElem? (i := 45) rfl
theorem m46 : (Jvm.Cond.code ({ cls := "com/example/indexloom/indexloom/TextsFindPinLaw", name := "start", desc := "(I)I" } : Jvm.MethodName) method_8_code (1 : Nat) (Option.some Jvm.ClassFile.FieldType.int)) ∈ tables_1 := List.mem_of_getElem? (i := 46) rfl
theorem m47 : (Jvm.Cond.methodLink "com/example/indexloom/indexloom/TextsFindPinLaw" (49 : Nat) ({ cls := "com/example/indexloom/indexloom/TextsFindPinLaw", name := "end", desc := "(II)I" } : Jvm.MethodName)) ∈ tables_1 := List.mem_of_getElem? (i := 47) rfl
theorem m48 : (Jvm.Cond.static ({ cls := "com/example/indexloom/indexloom/TextsFindPinLaw", name := "end", desc := "(II)I" } : Jvm.MethodName)) ∈ tables_1 := List.mem_of_getElem? (i := 48) rfl
theorem m49 : (Jvm.Cond.code ({ cls := "com/example/indexloom/indexloom/TextsFindPinLaw", name := "end", desc := "(II)I" } : Jvm.MethodName) method_9_code (2 : Nat) (Option.some Jvm.ClassFile.FieldType.int)) ∈ tables_1 := List.mem_of_getElem? (i := 49) rfl
theorem m50 : (Jvm.Cond.constant "com/example/indexloom/indexloom/TextsFindPinLaw" (28 : Nat) (16777215 : Int32)) ∈ tables_1 := List.mem_of_getElem? (i := 50) rfl
theorem m51 : (Jvm.Cond.methodLink "com/example/indexloom/indexloom/TextsFindPinLaw" (53 : Nat) ({ cls := "com/example/indexloom/indexloom/TextsFindPinLaw", name := "expected", desc := "([BII[BII[BII[BII)I" } : Jvm.MethodName)) ∈ tables_1 := List.mem_of_getElem? (i := 51) rfl
theorem m52 : (Jvm.Cond.static ({ cls := "com/example/indexloom/indexloom/TextsFindPinLaw", name := "expected", desc := "([BII[BII[BII[BII)I" } : Jvm.MethodName)) ∈ tables_1 := List.mem_of_getElem? (i := 52) rfl
theorem m53 : (Jvm.Cond.code ({ cls := "com/example/indexloom/indexloom/TextsFindPinLaw", name := "expected", desc := "([BII[BII[BII[BII)I" } : Jvm.MethodName) method_7_code (12 : Nat) (Option.some Jvm.ClassFile.FieldType.int)) ∈ tables_1 := List.mem_of_getElem? (i := 53) rfl
theorem m54 : (Jvm.Cond.methodLink "com/example/indexloom/indexloom/TextsFindPinLaw" (24 : Nat) ({ cls := "com/example/indexloom/indexloom/TextsFindPinLaw", name := "match", desc := "([BII[BI)Z" } : Jvm.MethodName)) ∈ tables_1 := List.mem_of_getElem? (i := 54) rfl
theorem m55 : (Jvm.Cond.static ({ cls := "com/example/indexloom/indexloom/TextsFindPinLaw", name := "match", desc := "([BII[BI)Z" } : Jvm.MethodName)) ∈ tables_1 := List.mem_of_getElem? (i := 55) rfl
theorem m56 : (Jvm.Cond.code ({ cls := "com/example/indexloom/indexloom/TextsFindPinLaw", name := "match", desc := "([BII[BI)Z" } : Jvm.MethodName) method_6_code (5 : Nat) (Option.some Jvm.ClassFile.FieldType.boolean)) ∈ tables_1 := List.mem_of_getElem? (i := 56) rfl
theorem m57 : (Jvm.Cond.classLink "com/example/indexloom/indexloom/TextsFindPinLaw" (57 : Nat) "com/example/indexloom/indexloom/Texts") ∈ tables_1 := List.mem_of_getElem? (i := 57) rfl
theorem m58 : (Jvm.Cond.instantiable "com/example/indexloom/indexloom/Texts" (7 : Nat)) ∈ tables_1 := List.mem_of_getElem? (i := 58) rfl
theorem m59 : (Jvm.Cond.initialized "com/example/indexloom/indexloom/Texts") ∈ tables_1 := List.mem_of_getElem? (i := 59) rfl
theorem m60 : (Jvm.Cond.methodLink "com/example/indexloom/indexloom/TextsFindPinLaw" (59 : Nat) ({ cls := "com/example/indexloom/indexloom/Texts", name := "<init>", desc := "()V" } : Jvm.MethodName)) ∈ tables_1 := List.mem_of_getElem? (i := 60) rfl
theorem m61 : (Jvm.Cond.instanceMethod ({ cls := "com/example/indexloom/indexloom/Texts", name := "<init>", desc := "()V" } : Jvm.MethodName)) ∈ tables_1 := List.mem_of_getElem? (i := 61) rfl
theorem m62 : (Jvm.Cond.code ({ cls := "com/example/indexloom/indexloom/Texts", name := "<init>", desc := "()V" } : Jvm.MethodName) prog_100_method_1_code (1 : Nat) (Option.none : Option Jvm.ClassFile.FieldType)) ∈ tables_1 := List.mem_of_getElem? (i := 62) rfl
theorem m63 : (Jvm.Cond.methodLink "com/example/indexloom/indexloom/Texts" (1 : Nat) ({ cls := "java/lang/Object", name := "<init>", desc := "()V" } : Jvm.MethodName)) ∈ tables_1 := List.mem_of_getElem? (i := 63) rfl
theorem m64 : (Jvm.Cond.arrayClass Jvm.ClassFile.FieldType.int) ∈ tables_1 := List.mem_of_getElem? (i := 64) rfl
theorem m65 : (Jvm.Cond.fieldLink "com/example/indexloom/indexloom/Texts" (9 : Nat) "com/example/indexloom/indexloom/Texts" "slots" "[I") ∈ tables_1 := List.mem_of_getElem? (i := 65) rfl
theorem m66 : (Jvm.Cond.lays "com/example/indexloom/indexloom/Texts" "com/example/indexloom/indexloom/Texts" "slots" "[I") ∈ tables_1 := List.mem_of_getElem? (i := 66) rfl
theorem m67 : (Jvm.Cond.classLink "com/example/indexloom/indexloom/Texts" (13 : Nat) "[B") ∈ tables_1 := List.mem_of_getElem? (i := 67) rfl
theorem m68 : (Jvm.Cond.arrayOver (Jvm.ClassFile.FieldType.array Jvm.ClassFile.FieldType.byte)) ∈ tables_1 := List.mem_of_getElem? (i := 68) rfl
theorem m69 : (Jvm.Cond.fieldLink "com/example/indexloom/indexloom/Texts" (15 : Nat) "com/example/indexloom/indexloom/Texts" "bytes" "[[B") ∈ tables_1 := List.mem_of_getElem? (i := 69) rfl
theorem m70 : (Jvm.Cond.lays "com/example/indexloom/indexloom/Texts" "com/example/indexloom/indexloom/Texts" "bytes" "[[B") ∈ tables_1 := List.mem_of_getElem? (i := 70) rfl
theorem m71 : (Jvm.Cond.fieldLink "com/example/indexloom/indexloom/Texts" (19 : Nat) "com/example/indexloom/indexloom/Texts" "hashes" "[I") ∈ tables_1 := List.mem_of_getElem? (i := 71) rfl
theorem m72 : (Jvm.Cond.lays "com/example/indexloom/indexloom/Texts" "com/example/indexloom/indexloom/Texts" "hashes" "[I") ∈ tables_1 := List.mem_of_getElem? (i := 72) rfl
theorem m73 : (Jvm.Cond.classLink "com/example/indexloom/indexloom/Texts" (22 : Nat) "java/lang/String") ∈ tables_1 := List.mem_of_getElem? (i := 73) rfl
theorem m74 : (Jvm.Cond.arrayOver (Jvm.ClassFile.FieldType.object "java/lang/String")) ∈ tables_1 := List.mem_of_getElem? (i := 74) rfl
theorem m75 : (Jvm.Cond.fieldLink "com/example/indexloom/indexloom/Texts" (24 : Nat) "com/example/indexloom/indexloom/Texts" "texts" "[Ljava/lang/String;") ∈ tables_1 := List.mem_of_getElem? (i := 75) rfl
theorem m76 : (Jvm.Cond.lays "com/example/indexloom/indexloom/Texts" "com/example/indexloom/indexloom/Texts" "texts" "[Ljava/lang/String;") ∈ tables_1 := List.mem_of_getElem? (i := 76) rfl
theorem m77 : (Jvm.Cond.fieldLink "com/example/indexloom/indexloom/Texts" (28 : Nat) "com/example/indexloom/indexloom/Texts" "following" "[I") ∈ tables_1 := List.mem_of_getElem? (i := 77) rfl
theorem m78 : (Jvm.Cond.lays "com/example/indexloom/indexloom/Texts" "com/example/indexloom/indexloom/Texts" "following" "[I") ∈ tables_1 := List.mem_of_getElem? (i := 78) rfl
theorem m79 : (Jvm.Cond.fieldLink "com/example/indexloom/indexloom/Texts" (31 : Nat) "com/example/indexloom/indexloom/Texts" "last" "I") ∈ tables_1 := List.mem_of_getElem? (i := 79) rfl
theorem m80 : (Jvm.Cond.lays "com/example/indexloom/indexloom/Texts" "com/example/indexloom/indexloom/Texts" "last" "I") ∈ tables_1 := List.mem_of_getElem? (i := 80) rfl
theorem m81 : (Jvm.Cond.methodLink "com/example/indexloom/indexloom/TextsFindPinLaw" (60 : Nat) ({ cls := "com/example/indexloom/indexloom/Texts", name := "number", desc := "(Ljava/lang/String;)I" } : Jvm.MethodName)) ∈ tables_1 := List.mem_of_getElem? (i := 81) rfl
theorem m82 : (Jvm.Cond.declares ({ cls := "com/example/indexloom/indexloom/Texts", name := "number", desc := "(Ljava/lang/String;)I" } : Jvm.MethodName)) ∈ tables_1 := List.mem_of_getElem? (i := 82) rfl
theorem m83 : (Jvm.Cond.instanceMethod ({ cls := "com/example/indexloom/indexloom/Texts", name := "number", desc := "(Ljava/lang/String;)I" } : Jvm.MethodName)) ∈ tables_1 := List.mem_of_getElem? (i := 83) rfl
theorem m84 : (Jvm.Cond.selects "com/example/indexloom/indexloom/Texts" ({ cls := "com/example/indexloom/indexloom/Texts", name := "number", desc := "(Ljava/lang/String;)I" } : Jvm.MethodName) ({ cls := "com/example/indexloom/indexloom/Texts", name := "number", desc := "(Ljava/lang/String;)I" } : Jvm.MethodName)) ∈ tables_1 := List.mem_of_getElem? (i := 84) rfl
theorem m85 : (Jvm.Cond.code ({ cls := "com/example/indexloom/indexloom/Texts", name := "number", desc := "(Ljava/lang/String;)I" } : Jvm.MethodName) prog_100_method_7_code (5 : Nat) (Option.some Jvm.ClassFile.FieldType.int)) ∈ tables_1 := List.mem_of_getElem? (i := 85) rfl
theorem m86 : (Jvm.Cond.fieldLink "com/example/indexloom/indexloom/Texts" (53 : Nat) "java/nio/charset/StandardCharsets" "UTF_8" "Ljava/nio/charset/Charset;") ∈ tables_1 := List.mem_of_getElem? (i := 86) rfl
theorem m88 : (Jvm.Cond.methodLink "com/example/indexloom/indexloom/Texts" (59 : Nat) ({ cls := "java/lang/String", name := "getBytes", desc := "(Ljava/nio/charset/Charset;)[B" } : Jvm.MethodName)) ∈ tables_1 := List.mem_of_getElem? (i := 88) rfl
theorem m89 : (Jvm.Cond.declares ({ cls := "java/lang/String", name := "getBytes", desc := "(Ljava/nio/charset/Charset;)[B" } : Jvm.MethodName)) ∈ tables_1 := List.mem_of_getElem? (i := 89) rfl
theorem m90 : (Jvm.Cond.instanceMethod ({ cls := "java/lang/String", name := "getBytes", desc := "(Ljava/nio/charset/Charset;)[B" } : Jvm.MethodName)) ∈ tables_1 := List.mem_of_getElem? (i := 90) rfl
theorem m91 : (Jvm.Cond.selects "java/lang/String" ({ cls := "java/lang/String", name := "getBytes", desc := "(Ljava/nio/charset/Charset;)[B" } : Jvm.MethodName) ({ cls := "java/lang/String", name := "getBytes", desc := "(Ljava/nio/charset/Charset;)[B" } : Jvm.MethodName)) ∈ tables_1 := List.mem_of_getElem? (i := 91) rfl
theorem m92 : (Jvm.Cond.code ({ cls := "java/lang/String", name := "getBytes", desc := "(Ljava/nio/charset/Charset;)[B" } : Jvm.MethodName) jdk_42_method_64_code (2 : Nat) (Option.some (Jvm.ClassFile.FieldType.array Jvm.ClassFile.FieldType.byte))) ∈ tables_1 := List.mem_of_getElem? (i := 92) rfl
theorem m93 : (Jvm.Cond.methodLink "java/lang/String" (335 : Nat) ({ cls := "java/lang/String", name := "coder", desc := "()B" } : Jvm.MethodName)) ∈ tables_1 := List.mem_of_getElem? (i := 93) rfl
theorem m94 : (Jvm.Cond.declares ({ cls := "java/lang/String", name := "coder", desc := "()B" } : Jvm.MethodName)) ∈ tables_1 := List.mem_of_getElem? (i := 94) rfl
theorem m95 : (Jvm.Cond.instanceMethod ({ cls := "java/lang/String", name := "coder", desc := "()B" } : Jvm.MethodName)) ∈ tables_1 := List.mem_of_getElem? (i := 95) rfl
theorem m96 : (Jvm.Cond.selects "java/lang/String" ({ cls := "java/lang/String", name := "coder", desc := "()B" } : Jvm.MethodName) ({ cls := "java/lang/String", name := "coder", desc := "()B" } : Jvm.MethodName)) ∈ tables_1 := List.mem_of_getElem? (i := 96) rfl
theorem m97 : (Jvm.Cond.code ({ cls := "java/lang/String", name := "coder", desc := "()B" } : Jvm.MethodName) jdk_42_method_152_code (1 : Nat) (Option.some Jvm.ClassFile.FieldType.byte)) ∈ tables_1 := List.mem_of_getElem? (i := 97) rfl
theorem m98 : (Jvm.Cond.methodLink "java/lang/String" (535 : Nat) ({ cls := "java/lang/String", name := "encode", desc := "(Ljava/nio/charset/Charset;B[B)[B" } : Jvm.MethodName)) ∈ tables_1 := List.mem_of_getElem? (i := 98) rfl
theorem m99 : (Jvm.Cond.static ({ cls := "java/lang/String", name := "encode", desc := "(Ljava/nio/charset/Charset;B[B)[B" } : Jvm.MethodName)) ∈ tables_1 := List.mem_of_getElem? (i := 99) rfl
theorem m100 : (Jvm.Cond.code ({ cls := "java/lang/String", name := "encode", desc := "(Ljava/nio/charset/Charset;B[B)[B" } : Jvm.MethodName) jdk_42_method_18_code (3 : Nat) (Option.some (Jvm.ClassFile.FieldType.array Jvm.ClassFile.FieldType.byte))) ∈ tables_1 := List.mem_of_getElem? (i := 100) rfl
theorem m101 : (Jvm.Cond.fieldLink "java/lang/String" (86 : Nat) "sun/nio/cs/UTF_8" "INSTANCE" "Lsun/nio/cs/UTF_8;") ∈ tables_1 := List.mem_of_getElem? (i := 101) rfl
theorem m103 : (Jvm.Cond.methodLink "java/lang/String" (252 : Nat) ({ cls := "java/lang/String", name := "encodeUTF8", desc := "(B[BZ)[B" } : Jvm.MethodName)) ∈ tables_1 := List.mem_of_getElem? (i := 103) rfl
theorem m104 : (Jvm.Cond.static ({ cls := "java/lang/String", name := "encodeUTF8", desc := "(B[BZ)[B" } : Jvm.MethodName)) ∈ tables_1 := List.mem_of_getElem? (i := 104) rfl
theorem m105 : (Jvm.Cond.code ({ cls := "java/lang/String", name := "encodeUTF8", desc := "(B[BZ)[B" } : Jvm.MethodName) jdk_42_method_46_code (9 : Nat) (Option.some (Jvm.ClassFile.FieldType.array Jvm.ClassFile.FieldType.byte))) ∈ tables_1 := List.mem_of_getElem? (i := 105) rfl
theorem m106 : (Jvm.Cond.methodLink "java/lang/String" (128 : Nat) ({ cls := "java/lang/StringCoding", name := "hasNegatives", desc := "([BII)Z" } : Jvm.MethodName)) ∈ tables_1 := List.mem_of_getElem? (i := 106) rfl
theorem m107 : (Jvm.Cond.static ({ cls := "java/lang/StringCoding", name := "hasNegatives", desc := "([BII)Z" } : Jvm.MethodName)) ∈ tables_1 := List.mem_of_getElem? (i := 107) rfl
theorem m108 : (Jvm.Cond.initialized "java/lang/StringCoding") ∈ tables_1 := List.mem_of_getElem? (i := 108) rfl
theorem m109 : (Jvm.Cond.code ({ cls := "java/lang/StringCoding", name := "hasNegatives", desc := "([BII)Z" } : Jvm.MethodName) jdk_123_method_2_code (3 : Nat) (Option.some Jvm.ClassFile.FieldType.boolean)) ∈ tables_1 := List.mem_of_getElem? (i := 109) rfl
theorem m110 : (Jvm.Cond.methodLink "java/lang/StringCoding" (7 : Nat) ({ cls := "java/lang/StringCoding", name := "countPositives", desc := "([BII)I" } : Jvm.MethodName)) ∈ tables_1 := List.mem_of_getElem? (i := 110) rfl
theorem m111 : (Jvm.Cond.static ({ cls := "java/lang/StringCoding", name := "countPositives", desc := "([BII)I" } : Jvm.MethodName)) ∈ tables_1 := List.mem_of_getElem? (i := 111) rfl
theorem m112 : (Jvm.Cond.code ({ cls := "java/lang/StringCoding", name := "countPositives", desc := "([BII)I" } : Jvm.MethodName) jdk_123_method_3_code (5 : Nat) (Option.some Jvm.ClassFile.FieldType.int)) ∈ tables_1 := List.mem_of_getElem? (i := 112) rfl
theorem m113 : (Jvm.Cond.methodLink "java/lang/String" (279 : Nat) ({ cls := "[B", name := "clone", desc := "()Ljava/lang/Object;" } : Jvm.MethodName)) ∈ tables_1 := List.mem_of_getElem? (i := 113) rfl
theorem m114 : (Jvm.Cond.sameMethod "[B" "java/lang/Object" "clone" "()Ljava/lang/Object;") ∈ tables_1 := List.mem_of_getElem? (i := 114) rfl
theorem m116 : (Jvm.Cond.instanceMethod ({ cls := "java/lang/Object", name := "clone", desc := "()Ljava/lang/Object;" } : Jvm.MethodName)) ∈ tables_1 := List.mem_of_getElem? (i := 116) rfl
theorem m117 : (Jvm.Cond.selects "[B" ({ cls := "[B", name := "clone", desc := "()Ljava/lang/Object;" } : Jvm.MethodName) ({ cls := "java/lang/Object", name := "clone", desc := "()Ljava/lang/Object;" } : Jvm.MethodName)) ∈ tables_1 := List.mem_of_getElem? (i := 117) rfl
theorem m118 : (Jvm.Cond.native ({ cls := "java/lang/Object", name := "clone", desc := "()Ljava/lang/Object;" } : Jvm.MethodName)) ∈ tables_1 := List.mem_of_getElem? (i := 118) rfl
theorem m119 : (Jvm.Cond.castable "[B" "java/lang/Cloneable") ∈ tables_1 := List.mem_of_getElem? (i := 119) rfl
theorem m120 : (Jvm.Cond.classLink "java/lang/String" (280 : Nat) "[B") ∈ tables_1 := List.mem_of_getElem? (i := 120) rfl
theorem m122 : (Jvm.Cond.methodLink "com/example/indexloom/indexloom/Texts" (63 : Nat) ({ cls := "com/example/indexloom/indexloom/Texts", name := "find", desc := "([BII)I" } : Jvm.MethodName)) ∈ tables_1 := List.mem_of_getElem? (i := 122) rfl
theorem m123 : (Jvm.Cond.declares ({ cls := "com/example/indexloom/indexloom/Texts", name := "find", desc := "([BII)I" } : Jvm.MethodName)) ∈ tables_1 := List.mem_of_getElem? (i := 123) rfl
theorem m124 : (Jvm.Cond.instanceMethod ({ cls := "com/example/indexloom/indexloom/Texts", name := "find", desc := "([BII)I" } : Jvm.MethodName)) ∈ tables_1 := List.mem_of_getElem? (i := 124) rfl
theorem m125 : (Jvm.Cond.selects "com/example/indexloom/indexloom/Texts" ({ cls := "com/example/indexloom/indexloom/Texts", name := "find", desc := "([BII)I" } : Jvm.MethodName) ({ cls := "com/example/indexloom/indexloom/Texts", name := "find", desc := "([BII)I" } : Jvm.MethodName)) ∈ tables_1 := List.mem_of_getElem? (i := 125) rfl
theorem m126 : (Jvm.Cond.code ({ cls := "com/example/indexloom/indexloom/Texts", name := "find", desc := "([BII)I" } : Jvm.MethodName) prog_100_method_4_code (6 : Nat) (Option.some Jvm.ClassFile.FieldType.int)) ∈ tables_1 := List.mem_of_getElem? (i := 126) rfl
theorem m127 : (Jvm.Cond.methodLink "com/example/indexloom/indexloom/Texts" (42 : Nat) ({ cls := "com/example/indexloom/indexloom/Texts", name := "lookUp", desc := "([BII)I" } : Jvm.MethodName)) ∈ tables_1 := List.mem_of_getElem? (i := 127) rfl
theorem m128 : (Jvm.Cond.instanceMethod ({ cls := "com/example/indexloom/indexloom/Texts", name := "lookUp", desc := "([BII)I" } : Jvm.MethodName)) ∈ tables_1 := List.mem_of_getElem? (i := 128) rfl
theorem m129 : (Jvm.Cond.privateMethod ({ cls := "com/example/indexloom/indexloom/Texts", name := "lookUp", desc := "([BII)I" } : Jvm.MethodName)) ∈ tables_1 := List.mem_of_getElem? (i := 129) rfl
theorem m130 : (Jvm.Cond.code ({ cls := "com/example/indexloom/indexloom/Texts", name := "lookUp", desc := "([BII)I" } : Jvm.MethodName) prog_100_method_6_code (8 : Nat) (Option.some Jvm.ClassFile.FieldType.int)) ∈ tables_1 := List.mem_of_getElem? (i := 130) rfl
theorem m131 : (Jvm.Cond.methodLink "com/example/indexloom/indexloom/Texts" (50 : Nat) ({ cls := "com/example/indexloom/indexloom/Texts", name := "hash", desc := "([BII)I" } : Jvm.MethodName)) ∈ tables_1 := List.mem_of_getElem? (i := 131) rfl
theorem m132 : (Jvm.Cond.static ({ cls := "com/example/indexloom/indexloom/Texts", name := "hash", desc := "([BII)I" } : Jvm.MethodName)) ∈ tables_1 := List.mem_of_getElem? (i := 132) rfl
theorem m133 : (Jvm.Cond.code ({ cls := "com/example/indexloom/indexloom/Texts", name := "hash", desc := "([BII)I" } : Jvm.MethodName) prog_100_method_10_code (5 : Nat) (Option.some Jvm.ClassFile.FieldType.int)) ∈ tables_1 := List.mem_of_getElem? (i := 133) rfl
theorem m134 : (Jvm.Cond.fieldLink "com/example/indexloom/indexloom/Texts" (35 : Nat) "com/example/indexloom/indexloom/Texts" "size" "I") ∈ tables_1 := List.mem_of_getElem? (i := 134) rfl
theorem m135 : (Jvm.Cond.lays "com/example/indexloom/indexloom/Texts" "com/example/indexloom/indexloom/Texts" "size" "I") ∈ tables_1 := List.mem_of_getElem? (i := 135) rfl
theorem m136 : (Jvm.Cond.methodLink "com/example/indexloom/indexloom/Texts" (77 : Nat) ({ cls := "com/example/indexloom/indexloom/Texts", name := "free", desc := "(I)I" } : Jvm.MethodName)) ∈ tables_1 := List.mem_of_getElem? (i := 136) rfl
theorem m137 : (Jvm.Cond.instanceMethod ({ cls := "com/example/indexloom/indexloom/Texts", name := "free", desc := "(I)I" } : Jvm.MethodName)) ∈ tables_1 := List.mem_of_getElem? (i := 137) rfl
theorem m138 : (Jvm.Cond.privateMethod ({ cls := "com/example/indexloom/indexloom/Texts", name := "free", desc := "(I)I" } : Jvm.MethodName)) ∈ tables_1 := List.mem_of_getElem? (i := 138) rfl
theorem m139 : (Jvm.Cond.code ({ cls := "com/example/indexloom/indexloom/Texts", name := "free", desc := "(I)I" } : Jvm.MethodName) prog_100_method_8_code (4 : Nat) (Option.some Jvm.ClassFile.FieldType.int)) ∈ tables_1 := List.mem_of_getElem? (i := 139) rfl
theorem m140 : (Jvm.Cond.methodLink "com/example/indexloom/indexloom/Texts" (46 : Nat) ({ cls := "com/example/indexloom/indexloom/Texts", name := "follow", desc := "(I)V" } : Jvm.MethodName)) ∈ tables_1 := List.mem_of_getElem? (i := 140) rfl
theorem m141 : (Jvm.Cond.instanceMethod ({ cls := "com/example/indexloom/indexloom/Texts", name := "follow", desc := "(I)V" } : Jvm.MethodName)) ∈ tables_1 := List.mem_of_getElem? (i := 141) rfl
theorem m142 : (Jvm.Cond.privateMethod ({ cls := "com/example/indexloom/indexloom/Texts", name := "follow", desc := "(I)V" } : Jvm.MethodName)) ∈ tables_1 := List.mem_of_getElem? (i := 142) rfl
theorem m143 : (Jvm.Cond.code ({ cls := "com/example/indexloom/indexloom/Texts", name := "follow", desc := "(I)V" } : Jvm.MethodName) prog_100_method_5_code (2 : Nat) (Option.none : Option Jvm.ClassFile.FieldType)) ∈ tables_1 := List.mem_of_getElem? (i := 143) rfl
theorem m144 : (Jvm.Cond.methodLink "com/example/indexloom/indexloom/Texts" (38 : Nat) ({ cls := "com/example/indexloom/indexloom/Texts", name := "equal", desc := "([B[BII)Z" } : Jvm.MethodName)) ∈ tables_1 := List.mem_of_getElem? (i := 144) rfl
theorem m145 : (Jvm.Cond.static ({ cls := "com/example/indexloom/indexloom/Texts", name := "equal", desc := "([B[BII)Z" } : Jvm.MethodName)) ∈ tables_1 := List.mem_of_getElem? (i := 145) rfl
theorem m146 : (Jvm.Cond.code ({ cls := "com/example/indexloom/indexloom/Texts", name := "equal", desc := "([B[BII)Z" } : Jvm.MethodName) prog_100_method_9_code (5 : Nat) (Option.some Jvm.ClassFile.FieldType.boolean)) ∈ tables_1 := List.mem_of_getElem? (i := 146) rfl
theorem m147 : (Jvm.Cond.methodLink "com/example/indexloom/indexloom/TextsFindPinLaw" (64 : Nat) ({ cls := "com/example/indexloom/indexloom/Texts", name := "find", desc := "([BII)I" } : Jvm.MethodName)) ∈ tables_1 := List.mem_of_getElem? (i := 147) rfl
theorem m148 : (Jvm.Cond.methodLink "java/lang/String" (177 : Nat) ({ cls := "java/lang/StringUTF16", name := "compress", desc := "([CII)[B" } : Jvm.MethodName)) ∈ tables_1 := List.mem_of_getElem? (i := 148) rfl
theorem m149 : (Jvm.Cond.static ({ cls := "java/lang/StringUTF16", name := "compress", desc := "([CII)[B" } : Jvm.MethodName)) ∈ tables_1 := List.mem_of_getElem? (i := 149) rfl
theorem m150 : (Jvm.Cond.initialized "java/lang/StringUTF16") ∈ tables_1 := List.mem_of_getElem? (i := 150) rfl
theorem m151 : (Jvm.Cond.code ({ cls := "java/lang/StringUTF16", name := "compress", desc := "([CII)[B" } : Jvm.MethodName) jdk_52_method_16_code (6 : Nat) (Option.some (Jvm.ClassFile.FieldType.array Jvm.ClassFile.FieldType.byte))) ∈ tables_1 := List.mem_of_getElem? (i := 151) rfl
theorem m152 : (Jvm.Cond.methodLink "java/lang/StringUTF16" (115 : Nat) ({ cls := "java/lang/StringUTF16", name := "compress", desc := "([CI[BII)I" } : Jvm.MethodName)) ∈ tables_1 := List.mem_of_getElem? (i := 152) rfl
theorem m153 : (Jvm.Cond.static ({ cls := "java/lang/StringUTF16", name := "compress", desc := "([CI[BII)I" } : Jvm.MethodName)) ∈ tables_1 := List.mem_of_getElem? (i := 153) rfl
theorem m154 : (Jvm.Cond.code ({ cls := "java/lang/StringUTF16", name := "compress", desc := "([CI[BII)I" } : Jvm.MethodName) jdk_52_method_21_code (7 : Nat) (Option.some Jvm.ClassFile.FieldType.int)) ∈ tables_1 := List.mem_of_getElem? (i := 154) rfl
theorem m155 : (Jvm.Cond.methodLink "java/lang/String" (47 : Nat) ({ cls := "java/lang/StringUTF16", name := "coderFromArrayLen", desc := "([BI)B" } : Jvm.MethodName)) ∈ tables_1 := List.mem_of_getElem? (i := 155) rfl
theorem m156 : (Jvm.Cond.static ({ cls := "java/lang/StringUTF16", name := "coderFromArrayLen", desc := "([BI)B" } : Jvm.MethodName)) ∈ tables_1 := List.mem_of_getElem? (i := 156) rfl
theorem m157 : (Jvm.Cond.code ({ cls := "java/lang/StringUTF16", name := "coderFromArrayLen", desc := "([BI)B" } : Jvm.MethodName) jdk_52_method_15_code (2 : Nat) (Option.some Jvm.ClassFile.FieldType.byte)) ∈ tables_1 := List.mem_of_getElem? (i := 157) rfl
theorem m158 : (Jvm.Cond.methodLink "com/example/indexloom/indexloom/TextsFindPinLaw" (18 : Nat) ({ cls := "com/example/indexloom/indexloom/TextsFindPinLaw", name := "put", desc := "([BII)I" } : Jvm.MethodName)) ∈ tables_1 := List.mem_of_getElem? (i := 158) rfl
theorem m159 : (Jvm.Cond.static ({ cls := "com/example/indexloom/indexloom/TextsFindPinLaw", name := "put", desc := "([BII)I" } : Jvm.MethodName)) ∈ tables_1 := List.mem_of_getElem? (i := 159) rfl
theorem m160 : (Jvm.Cond.code ({ cls := "com/example/indexloom/indexloom/TextsFindPinLaw", name := "put", desc := "([BII)I" } : Jvm.MethodName) method_4_code (3 : Nat) (Option.some Jvm.ClassFile.FieldType.int)) ∈ tables_1 := List.mem_of_getElem? (i := 160) rfl
theorem m161 : (Jvm.Cond.methodLink "com/example/indexloom/indexloom/TextsFindPinLaw" (14 : Nat) ({ cls := "java/lang/String", name := "valueOf", desc := "(C)Ljava/lang/String;" } : Jvm.MethodName)) ∈ tables_1 := List.mem_of_getElem? (i := 161) rfl
theorem m162 : (Jvm.Cond.static ({ cls := "java/lang/String", name := "valueOf", desc := "(C)Ljava/lang/String;" } : Jvm.MethodName)) ∈ tables_1 := List.mem_of_getElem? (i := 162) rfl
theorem m163 : (Jvm.Cond.code ({ cls := "java/lang/String", name := "valueOf", desc := "(C)Ljava/lang/String;" } : Jvm.MethodName) jdk_42_method_139_code (1 : Nat) (Option.some (Jvm.ClassFile.FieldType.object "java/lang/String"))) ∈ tables_1 := List.mem_of_getElem? (i := 163) rfl
theorem m164 : (Jvm.Cond.methodLink "java/lang/String" (1015 : Nat) ({ cls := "java/lang/StringLatin1", name := "canEncode", desc := "(C)Z" } : Jvm.MethodName)) ∈ tables_1 := List.mem_of_getElem? (i := 164) rfl
theorem m165 : (Jvm.Cond.static ({ cls := "java/lang/StringLatin1", name := "canEncode", desc := "(C)Z" } : Jvm.MethodName)) ∈ tables_1 := List.mem_of_getElem? (i := 165) rfl
theorem m166 : (Jvm.Cond.code ({ cls := "java/lang/StringLatin1", name := "canEncode", desc := "(C)Z" } : Jvm.MethodName) jdk_43_method_3_code (1 : Nat) (Option.some Jvm.ClassFile.FieldType.boolean)) ∈ tables_1 := List.mem_of_getElem? (i := 166) rfl
theorem m167 : (Jvm.Cond.methodLink "java/lang/String" (1018 : Nat) ({ cls := "java/lang/StringLatin1", name := "toBytes", desc := "(C)[B" } : Jvm.MethodName)) ∈ tables_1 := List.mem_of_getElem? (i := 167) rfl
theorem m168 : (Jvm.Cond.static ({ cls := "java/lang/StringLatin1", name := "toBytes", desc := "(C)[B" } : Jvm.MethodName)) ∈ tables_1 := List.mem_of_getElem? (i := 168) rfl
theorem m169 : (Jvm.Cond.code ({ cls := "java/lang/StringLatin1", name := "toBytes", desc := "(C)[B" } : Jvm.MethodName) jdk_43_method_46_code (1 : Nat) (Option.some (Jvm.ClassFile.FieldType.array Jvm.ClassFile.FieldType.byte))) ∈ tables_1 := List.mem_of_getElem? (i := 169) rfl
theorem m170 : (Jvm.Cond.methodLink "java/lang/String" (209 : Nat) ({ cls := "java/lang/String", name := "<init>", desc := "([BB)V" } : Jvm.MethodName)) ∈ tables_1 := List.mem_of_getElem? (i := 170) rfl
theorem m171 : (Jvm.Cond.instanceMethod ({ cls := "java/lang/String", name := "<init>", desc := "([BB)V" } : Jvm.MethodName)) ∈ tables_1 := List.mem_of_getElem? (i := 171) rfl
theorem m172 : (Jvm.Cond.code ({ cls := "java/lang/String", name := "<init>", desc := "([BB)V" } : Jvm.MethodName) jdk_42_method_151_code (3 : Nat) (Option.none : Option Jvm.ClassFile.FieldType)) ∈ tables_1 := List.mem_of_getElem? (i := 172) rfl
theorem m173 : (Jvm.Cond.methodLink "java/lang/String" (60 : Nat) ({ cls := "java/lang/StringUTF16", name := "newBytesFor", desc := "(I)[B" } : Jvm.MethodName)) ∈ tables_1 := List.mem_of_getElem? (i := 173) rfl
theorem m174 : (Jvm.Cond.static ({ cls := "java/lang/StringUTF16", name := "newBytesFor", desc := "(I)[B" } : Jvm.MethodName)) ∈ tables_1 := List.mem_of_getElem? (i := 174) rfl
theorem m175 : (Jvm.Cond.code ({ cls := "java/lang/StringUTF16", name := "newBytesFor", desc := "(I)[B" } : Jvm.MethodName) jdk_52_method_2_code (1 : Nat) (Option.some (Jvm.ClassFile.FieldType.array Jvm.ClassFile.FieldType.byte))) ∈ tables_1 := List.mem_of_getElem? (i := 175) rfl
theorem m176 : (Jvm.Cond.methodLink "java/lang/StringUTF16" (11 : Nat) ({ cls := "java/lang/StringUTF16", name := "newBytesLength", desc := "(I)I" } : Jvm.MethodName)) ∈ tables_1 := List.mem_of_getElem? (i := 176) rfl
theorem m177 : (Jvm.Cond.static ({ cls := "java/lang/StringUTF16", name := "newBytesLength", desc := "(I)I" } : Jvm.MethodName)) ∈ tables_1 := List.mem_of_getElem? (i := 177) rfl
theorem m178 : (Jvm.Cond.code ({ cls := "java/lang/StringUTF16", name := "newBytesLength", desc := "(I)I" } : Jvm.MethodName) jdk_52_method_3_code (1 : Nat) (Option.some Jvm.ClassFile.FieldType.int)) ∈ tables_1 := List.mem_of_getElem? (i := 178) rfl
theorem m179 : (Jvm.Cond.constant "java/lang/StringUTF16" (20 : Nat) (1073741823 : Int32)) ∈ tables_1 := List.mem_of_getElem? (i := 179) rfl
theorem m180 : (Jvm.Cond.methodLink "java/lang/String" (102 : Nat) ({ cls := "java/util/Arrays", name := "copyOf", desc := "([BI)[B" } : Jvm.MethodName)) ∈ tables_1 := List.mem_of_getElem? (i := 180) rfl
theorem m181 : (Jvm.Cond.static ({ cls := "java/util/Arrays", name := "copyOf", desc := "([BI)[B" } : Jvm.MethodName)) ∈ tables_1 := List.mem_of_getElem? (i := 181) rfl
theorem m182 : (Jvm.Cond.initialized "java/util/Arrays") ∈ tables_1 := List.mem_of_getElem? (i := 182) rfl
theorem m183 : (Jvm.Cond.code ({ cls := "java/util/Arrays", name := "copyOf", desc := "([BI)[B" } : Jvm.MethodName) jdk_65_method_121_code (3 : Nat) (Option.some (Jvm.ClassFile.FieldType.array Jvm.ClassFile.FieldType.byte))) ∈ tables_1 := List.mem_of_getElem? (i := 183) rfl
theorem m184 : (Jvm.Cond.methodLink "java/util/Arrays" (304 : Nat) ({ cls := "java/lang/Math", name := "min", desc := "(II)I" } : Jvm.MethodName)) ∈ tables_1 := List.mem_of_getElem? (i := 184) rfl
theorem m185 : (Jvm.Cond.static ({ cls := "java/lang/Math", name := "min", desc := "(II)I" } : Jvm.MethodName)) ∈ tables_1 := List.mem_of_getElem? (i := 185) rfl
theorem m186 : (Jvm.Cond.initialized "java/lang/Math") ∈ tables_1 := List.mem_of_getElem? (i := 186) rfl
theorem m187 : (Jvm.Cond.code ({ cls := "java/lang/Math", name := "min", desc := "(II)I" } : Jvm.MethodName) jdk_29_method_69_code (2 : Nat) (Option.some Jvm.ClassFile.FieldType.int)) ∈ tables_1 := List.mem_of_getElem? (i := 187) rfl
theorem m188 : (Jvm.Cond.methodLink "java/util/Arrays" (150 : Nat) ({ cls := "java/lang/System", name := "arraycopy", desc := "(Ljava/lang/Object;ILjava/lang/Object;II)V" } : Jvm.MethodName)) ∈ tables_1 := List.mem_of_getElem? (i := 188) rfl
theorem m189 : (Jvm.Cond.static ({ cls := "java/lang/System", name := "arraycopy", desc := "(Ljava/lang/Object;ILjava/lang/Object;II)V" } : Jvm.MethodName)) ∈ tables_1 := List.mem_of_getElem? (i := 189) rfl
theorem m190 : (Jvm.Cond.initialized "java/lang/System") ∈ tables_1 := List.mem_of_getElem? (i := 190) rfl
theorem m191 : (Jvm.Cond.native ({ cls := "java/lang/System", name := "arraycopy", desc := "(Ljava/lang/Object;ILjava/lang/Object;II)V" } : Jvm.MethodName)) ∈ tables_1 := List.mem_of_getElem? (i := 191) rfl
theorem pd_0 : parseMethodDescriptor "(C)Z" = some ⟨[.char], some .boolean⟩ := by decide +kernel
theorem pd_1 : parseMethodDescriptor "(C)[B" = some ⟨[.char], some (.array .byte)⟩ := by decide +kernel
theorem pd_2 : parseMethodDescriptor "([BB)V" = some ⟨[(.array .byte), .byte], none⟩ := by decide +kernel
theorem pd_3 : parseMethodDescriptor "([BII)I" = some ⟨[(.array .byte), .int, .int], some .int⟩ := by decide +kernel
theorem pd_4 : parseMethodDescriptor "(I)I" = some ⟨[.int], some .int⟩ := by decide +kernel
theorem pd_5 : parseMethodDescriptor "(II)I" = some ⟨[.int, .int], some .int⟩ := by decide +kernel
theorem pd_6 : parseMethodDescriptor "([BI)[B" = some ⟨[(.array .byte), .int], some (.array .byte)⟩ := by decide +kernel
theorem pd_7 : parseMethodDescriptor "([BII)Z" = some ⟨[(.array .byte), .int, .int], some .boolean⟩ := by decide +kernel
theorem pd_8 : parseMethodDescriptor "(I)[B" = some ⟨[.int], some (.array .byte)⟩ := by decide +kernel
theorem pd_9 : parseMethodDescriptor "(B[BZ)[B" = some ⟨[.byte, (.array .byte), .boolean], some (.array .byte)⟩ := by decide +kernel
theorem pd_10 : parseMethodDescriptor "()B" = some ⟨[], some .byte⟩ := by decide +kernel
theorem pd_11 : parseMethodDescriptor "(Ljava/nio/charset/Charset;B[B)[B" = some ⟨[(.object "java/nio/charset/Charset"), .byte, (.array .byte)], some (.array .byte)⟩ := by decide +kernel
theorem pd_12 : parseMethodDescriptor "([CI[BII)I" = some ⟨[(.array .char), .int, (.array .byte), .int, .int], some .int⟩ := by decide +kernel
theorem pd_13 : parseMethodDescriptor "([CII)[B" = some ⟨[(.array .char), .int, .int], some (.array .byte)⟩ := by decide +kernel
theorem pd_14 : parseMethodDescriptor "([BI)B" = some ⟨[(.array .byte), .int], some .byte⟩ := by decide +kernel
theorem pd_15 : parseMethodDescriptor "([CIILjava/lang/Void;)V" = some ⟨[(.array .char), .int, .int, (.object "java/lang/Void")], none⟩ := by decide +kernel
theorem pd_16 : parseMethodDescriptor "([BII[BI)Z" = some ⟨[(.array .byte), .int, .int, (.array .byte), .int], some .boolean⟩ := by decide +kernel
theorem pd_17 : parseMethodDescriptor "([B[B)Z" = some ⟨[(.array .byte), (.array .byte)], some .boolean⟩ := by decide +kernel
theorem pd_18 : parseMethodDescriptor "([B[BII)Z" = some ⟨[(.array .byte), (.array .byte), .int, .int], some .boolean⟩ := by decide +kernel
theorem pd_19 : parseMethodDescriptor "(I)V" = some ⟨[.int], none⟩ := by decide +kernel
theorem pd_20 : parseMethodDescriptor "(Ljava/nio/charset/Charset;)[B" = some ⟨[(.object "java/nio/charset/Charset")], some (.array .byte)⟩ := by decide +kernel
theorem pd_21 : parseMethodDescriptor "([C)V" = some ⟨[(.array .char)], none⟩ := by decide +kernel
theorem pd_22 : parseMethodDescriptor "(C)Ljava/lang/String;" = some ⟨[.char], some (.object "java/lang/String")⟩ := by decide +kernel
theorem pd_23 : parseMethodDescriptor "(JI)I" = some ⟨[.long, .int], some .int⟩ := by decide +kernel
theorem pd_24 : parseMethodDescriptor "(I)Ljava/lang/String;" = some ⟨[.int], some (.object "java/lang/String")⟩ := by decide +kernel
theorem pd_25 : parseMethodDescriptor "(I[B)I" = some ⟨[.int, (.array .byte)], some .int⟩ := by decide +kernel
theorem pd_26 : parseMethodDescriptor "([BII[BII[BII[BII)I" = some ⟨[(.array .byte), .int, .int, (.array .byte), .int, .int, (.array .byte), .int, .int, (.array .byte), .int, .int], some .int⟩ := by decide +kernel
theorem pd_27 : parseMethodDescriptor "()V" = some ⟨[], none⟩ := by decide +kernel
theorem pd_28 : parseMethodDescriptor "(Ljava/lang/String;)I" = some ⟨[(.object "java/lang/String")], some .int⟩ := by decide +kernel
theorem pd_29 : parseMethodDescriptor "(Ljava/lang/Object;)Z" = some ⟨[(.object "java/lang/Object")], some .boolean⟩ := by decide +kernel
theorem pn_0 : plainName "java/lang/String" = true := by first | (simp [plainName, overriddenIn]; done) | decide +kernel
theorem pn_1 : plainName "java/lang/StringLatin1" = true := by first | (simp [plainName, overriddenIn]; done) | decide +kernel
theorem pn_2 : plainName "java/lang/StringCoding" = true := by first | (simp [plainName, overriddenIn]; done) | decide +kernel
theorem pn_3 : plainName "java/lang/StringUTF16" = true := by first | (simp [plainName, overriddenIn]; done) | decide +kernel
theorem pn_4 : plainName "java/util/Arrays" = true := by first | (simp [plainName, overriddenIn]; done) | decide +kernel
theorem pn_5 : plainName "com/example/indexloom/indexloom/TextsFindPinLaw" = true := by first | (simp [plainName, overriddenIn]; done) | decide +kernel
theorem pn_6 : plainName "com/example/indexloom/indexloom/Texts" = true := by first | (simp [plainName, overriddenIn]; done) | decide +kernel
namespace Nar
def own_bs (zs : List Int32) : List Value := zs.map Value.int
def BY (z : Int32) : Prop := fits .byte (.int z) = true
def own_put (ws : List Int32) (p : Nat) (zs : List Int32) : List Int32 := ws.take p ++ zs ++ ws.drop (p + zs.length)
theorem own_bs_len (zs : List Int32) : (own_bs zs).length = zs.length := by simp [own_bs]
theorem own_bs_at {zs : List Int32} {j : Nat} (h : j < zs.length) : (own_bs zs)[j]? = some (.int (zs[j])) := by simp [own_bs, h]
theorem own_fb {zs : List Int32} (h : ∀ z ∈ zs, BY z) : ∀ v ∈ own_bs zs, fits .byte v = true := by
  intro v hv
  obtain ⟨z, hz, rfl⟩ := List.mem_map.mp hv
  exact h z hz
theorem own_small {j : Nat} (h : j < 2 ^ 31) : (Int32.ofNat j).toInt = (j : Int) := Int32.toInt_ofNat_small h
theorem own_ltN {i j : Nat} (hi : i < 2 ^ 31) (hj : j < 2 ^ 31) : Int32.ofNat i < Int32.ofNat j ↔ i < j := by
  rw [Int32.lt_iff_toInt_lt, own_small hi, own_small hj]; omega
theorem own_inj {i j : Nat} (hi : i < 2 ^ 31) (hj : j < 2 ^ 31) : Int32.ofNat i = Int32.ofNat j ↔ i = j := by
  rw [← Int32.toInt_inj, own_small hi, own_small hj]; omega
theorem own_add (i j : Nat) : Int32.ofNat i + Int32.ofNat j = Int32.ofNat (i + j) := (Int32.ofNat_add i j).symm
theorem own_succ (j : Nat) : Int32.ofNat j + (1 : Int32) = Int32.ofNat (j + 1) := by rw [Int32.ofNat_add]; rfl
theorem own_subN {i j : Nat} (hj : j ≤ i) : Int32.ofNat i - Int32.ofNat j = Int32.ofNat (i - j) := by
  have e : Int32.ofNat i = Int32.ofNat (i - j) + Int32.ofNat j := by rw [own_add]; congr 1; omega
  rw [e, Int32.add_sub_cancel]
theorem own_shl0 (y : Int32) : y <<< ((0 : Int32) &&& 31) = y := by rw [show (0 : Int32) &&& 31 = 0 from rfl]; exact Int32.shiftLeft_zero
theorem own_shr0 (y : Int32) : y >>> ((0 : Int32) &&& 31) = y := by rw [show (0 : Int32) &&& 31 = 0 from rfl]; exact Int32.shiftRight_zero
theorem own_nb0 : nar .byte (0 : Int32) = (0 : Int32) := by decide +kernel
theorem own_copy (ws zs : List Int32) (p si ni : Nat) : (own_bs ws).take p ++ ((own_bs zs).drop si).take ni ++ (own_bs ws).drop (p + ni) = own_bs (ws.take p ++ (zs.drop si).take ni ++ ws.drop (p + ni)) := by
  simp [own_bs, List.map_take, List.map_drop]
theorem own_put_len {ws zs : List Int32} {p : Nat} (h : p + zs.length ≤ ws.length) : (own_put ws p zs).length = ws.length := by
  simp only [own_put, List.length_append, List.length_take, List.length_drop]; omega
theorem own_put_by {ws zs : List Int32} {p : Nat} (h : ∀ z ∈ ws, BY z) (g : ∀ z ∈ zs, BY z) : ∀ z ∈ own_put ws p zs, BY z := by
  intro z hz
  simp only [own_put, List.mem_append] at hz
  rcases hz with (hz | hz) | hz
  · exact h z (List.mem_of_mem_take hz)
  · exact g z hz
  · exact h z (List.mem_of_mem_drop hz)
theorem own_put_take {ws zs : List Int32} {p : Nat} (h : p + zs.length ≤ ws.length) : (own_put ws p zs).take (p + zs.length) = ws.take p ++ zs := by
  have e : (ws.take p ++ zs).length = p + zs.length := by rw [List.length_append, List.length_take]; omega
  unfold own_put
  rw [← e]; exact List.take_left
theorem own_rep0 {n : Nat} (h : n < 2 ^ 31) : List.replicate (Int32.ofNat n).toNatClampNeg (Value.int (0 : Int32)) = own_bs (List.replicate n (0 : Int32)) := by
  rw [(own_clampN (own_small h)).2]; simp [own_bs]
theorem own_by0 (n : Nat) : ∀ z ∈ List.replicate n (0 : Int32), BY z := by
  intro z hz; rw [List.eq_of_mem_replicate hz]; unfold BY; decide
theorem own_byA {ws us : List Int32} (h : ∀ z ∈ ws, BY z) (g : ∀ z ∈ us, BY z) : ∀ z ∈ ws ++ us, BY z := by
  intro z hz; rcases List.mem_append.mp hz with q | q
  · exact h z q
  · exact g z q
theorem own_grow {ws : List Int32} {n : Nat} (h : ws.length < n) : List.take 0 (List.replicate n (0 : Int32)) ++ (List.drop 0 ws).take ws.length ++ List.drop (0 + ws.length) (List.replicate n (0 : Int32)) = ws ++ List.replicate (n - ws.length) 0 := by
  simp [List.drop_replicate]
theorem own_cut (ws : List Int32) (k : Nat) : List.take 0 (List.replicate k (0 : Int32)) ++ (List.drop 0 ws).take k ++ List.drop (0 + k) (List.replicate k (0 : Int32)) = ws.take k := by
  simp
/-- the string a, whose bytes are zs, in the array u -/
def SS (Z : State) (h : Heap) (a u : Addr) (zs : List Int32) : Prop := Exa Z h a "java/lang/String" ∧ Fld Z h a "java/lang/String" "coder" "B" (.int (0 : Int32)) ∧ Fld Z h a "java/lang/String" "value" "[B" (.ref u) ∧ Arx Z h u .byte (own_bs zs)
/-- the builder b, its array v of the bytes ws, k of them taken -/
def SBP (Z : State) (n0 : Nat) (h : Heap) (b v : Addr) (k : Nat) (ws : List Int32) : Prop := Exa Z h b "java/lang/StringBuilder" ∧ Fld Z h b "java/lang/AbstractStringBuilder" "value" "[B" (.ref v) ∧ Fld Z h b "java/lang/AbstractStringBuilder" "coder" "B" (.int (0 : Int32)) ∧ Fld Z h b "java/lang/AbstractStringBuilder" "count" "I" (.int (Int32.ofNat k)) ∧ Arx Z h v .byte (own_bs ws) ∧ n0 ≤ b ∧ n0 ≤ v ∧ v ≠ b ∧ k ≤ ws.length ∧ ∀ z ∈ ws, BY z
/-- what an append promises -/
def AQ (Z : State) (n0 : Nat) (h0 : Heap) (b v : Addr) (cs : List Int32) (cap : Nat) (r : Option Value) (h : Heap) (L : List Loc) : Prop := ∃ (v' : Addr) (ws' : List Int32), r = some (.ref b) ∧ Fr n0 L ∧ Keep h0 h [b, v] ∧ (v' = v ∨ h0.size ≤ v') ∧ SBP Z n0 h b v' cs.length ws' ∧ ws'.length = cap ∧ ws'.take cs.length = cs
theorem own_len1 {ws : List Int32} {k : Nat} (h : k ≤ ws.length) (zs : List Int32) : (ws.take k ++ zs).length = k + zs.length := by rw [List.length_append, List.length_take]; omega
theorem own_ncA {m n : Nat} (h0 : n < m) (h1 : m < 2 * n + 2) (hn : n < 1000) : Int32.ofNat m - Int32.ofNat n < Int32.ofNat n + (2 : Int32) := by
  rw [own_subN (Nat.le_of_lt h0), show (2 : Int32) = Int32.ofNat 2 from rfl, own_add]; exact (own_ltN (by omega) (by omega)).mpr (by omega)
theorem own_ncS (n : Nat) : Int32.ofNat n + (Int32.ofNat n + (2 : Int32)) = Int32.ofNat (2 * n + 2) := by
  rw [show (2 : Int32) = Int32.ofNat 2 from rfl, own_add, own_add]; congr 1; omega
theorem own_ncB {n : Nat} (hn : n < 1000) : (0 : Int32) < Int32.ofNat n + (Int32.ofNat n + (2 : Int32)) := by
  rw [own_ncS, show (0 : Int32) = Int32.ofNat 0 from rfl]; exact (own_ltN (by omega) (by omega)).mpr (by omega)
theorem own_ncC {n : Nat} (hn : n < 1000) : ¬ (2147483639 : Int32) < Int32.ofNat n + (Int32.ofNat n + (2 : Int32)) := by
  rw [own_ncS, show (2147483639 : Int32) = Int32.ofNat 2147483639 from rfl, own_ltN (by omega) (by omega)]; omega
theorem own_ncD {n : Nat} (hn : n < 1000) : ¬ Int32.ofNat n = (2147483647 : Int32) := by
  rw [show (2147483647 : Int32) = Int32.ofNat 2147483647 from rfl, own_inj (by omega) (by omega)]; omega
theorem own_posN {n : Nat} (h : n < 2 ^ 31) : ¬ Int32.ofNat n < 0 := (own_clampN (own_small h)).1
theorem own_fitN {m n : Nat} (h : m ≤ n) (hn : n < 2 ^ 31) : ¬ (0 : Int32) < Int32.ofNat m - Int32.ofNat n := by
  have q : Int32.ofNat n = Int32.ofNat m + Int32.ofNat (n - m) := by rw [own_add]; congr 1; omega
  have e1 : (Int32.ofNat m - Int32.ofNat n).toInt = (m : Int) - n := by
    rw [Jvm.Kit.i32_sub (by rw [own_small (by omega), own_small (by omega)]; omega) (by rw [own_small (by omega), own_small (by omega)]; omega), own_small (by omega), own_small (by omega)]
  rw [Int32.lt_iff_toInt_lt, e1]; have : (0 : Int32).toInt = 0 := rfl
  omega
theorem own_overN {m n : Nat} (h : n < m) (hn : m < 2 ^ 31) : (0 : Int32) < Int32.ofNat m - Int32.ofNat n := by
  rw [own_subN (Nat.le_of_lt h), show (0 : Int32) = Int32.ofNat 0 from rfl]; exact (own_ltN (by omega) (by omega)).mpr (by omega)
theorem d16_0 : decode jdk_42_method_152_code 0 = .ok (.getstatic 38, 3) := by decide +kernel
theorem d16_3 : decode jdk_42_method_152_code 3 = .ok (.ifCond .eq 10, 3) := by decide +kernel
theorem d16_6 : decode jdk_42_method_152_code 6 = .ok (.aload_n 0, 1) := by decide +kernel
theorem d16_7 : decode jdk_42_method_152_code 7 = .ok (.getfield 15, 3) := by decide +kernel
theorem d16_10 : decode jdk_42_method_152_code 10 = .ok (.goto 4, 3) := by decide +kernel
theorem d16_14 : decode jdk_42_method_152_code 14 = .ok (.ireturn, 1) := by decide +kernel
theorem ef_16 (m : MethodId) (a : Addr) : entryFrame m #[(.ref a)] 1 = mkF m 0 #[.val (.ref a)] [] := by first | (simp [entryFrame, mkF, argsToLocals, Value.category]; done) | rfl
def R16 : Room := ({ frames := 0, cells := 0, slots := 0, locals := 0 } : Room)
set_option maxRecDepth 65536 in
set_option maxHeartbeats 40000000 in
theorem rm16 (l : Launch) (Z : State) (a0 : Array Value) (hw : ∀ d ∈ tables_1, d.before a0 Z = true) (a : Addr) (h0 : Heap) (n0 : Nat) (hO : Old Z n0 h0) (u : Addr) (zs : List Int32) (HS : SS Z h0 a u zs) (G1 : Int32) (O2 : Sta Z Z.heap "java/lang/String" "COMPACT_STRINGS" "Z" (.int G1)) (P5 : ¬ G1 = (0 : Int32)) :
    Con l Z (⟨"java/lang/String", "coder", "()B"⟩ : MethodName) jdk_42_method_152_code 1 (some .byte) [] R16 R16.cells R16.slots #[(.ref a)] h0 (fun v h L => v = some (.int (0 : Int32)) ∧ h0 = h ∧ L = []) := by
  refine Con.intro (n0 := n0) (plainFor_of_name pn_0) (fun m => ef_16 m a) hO ?_
  intro p e s m below meth cc T hs0 X0
  obtain ⟨E_a, Fc_a, Fv_a, A_u⟩ := id HS
  refine g_getS X0 (hw _ m39) (O2.ext X0.old.2) d16_0 (pc' := 3) rfl (fun T1 X1 => ?_)
  refine g_if_eq_f X1 d16_3 (pc' := 6) rfl P5 ?_
  refine g_aloadN X1 d16_6 (pc' := 7) rfl rfl rfl ?_
  refine g_getF X1 (host := "") (Or.inl (hw _ m29)) Via.refl Fc_a d16_7 (pc' := 10) rfl (fun T2 X2 => ?_)
  refine g_goto X2 d16_10 (pt := 14) (by decide) ?_
  exact g_retN X2 (by decide) rfl d16_14 (by decide) (by decide) ⟨by rw [own_nb0], rfl, rfl⟩

theorem d38_0 : decode jdk_29_method_69_code 0 = .ok (.iload_n 0, 1) := by decide +kernel
theorem d38_1 : decode jdk_29_method_69_code 1 = .ok (.iload_n 1, 1) := by decide +kernel
theorem d38_2 : decode jdk_29_method_69_code 2 = .ok (.if_icmp .gt 7, 3) := by decide +kernel
theorem d38_5 : decode jdk_29_method_69_code 5 = .ok (.iload_n 0, 1) := by decide +kernel
theorem d38_6 : decode jdk_29_method_69_code 6 = .ok (.goto 4, 3) := by decide +kernel
theorem d38_10 : decode jdk_29_method_69_code 10 = .ok (.ireturn, 1) := by decide +kernel
theorem ef_38 (m : MethodId) (a : Int32) (b : Int32) : entryFrame m #[(.int a), (.int b)] 2 = mkF m 0 #[.val (.int a), .val (.int b)] [] := by first | (simp [entryFrame, mkF, argsToLocals, Value.category]; done) | rfl
def R38 : Room := ({ frames := 0, cells := 0, slots := 0, locals := 0 } : Room)
set_option maxRecDepth 65536 in
set_option maxHeartbeats 40000000 in
theorem rm38 (l : Launch) (Z : State) (a0 : Array Value) (hw : ∀ d ∈ tables_1, d.before a0 Z = true) (a : Int32) (b : Int32) (h0 : Heap) (n0 : Nat) (hO : Old Z n0 h0) (h1 : ¬ b < a) :
    Con l Z (⟨"java/lang/Math", "min", "(II)I"⟩ : MethodName) jdk_29_method_69_code 2 (some .int) [] R38 R38.cells R38.slots #[(.int a), (.int b)] h0 (fun v h L => v = some (.int a) ∧ h0 = h ∧ L = []) := by
  refine Con.intro (n0 := n0) (Jvm.Free.JP.mathPlain rfl (by decide +kernel)) (fun m => ef_38 m a b) hO ?_
  intro p e s m below meth cc T hs0 X0
  refine g_iloadN X0 d38_0 (pc' := 1) rfl rfl ?_
  refine g_iloadN X0 d38_1 (pc' := 2) rfl rfl ?_
  refine g_icmp_gt_f X0 d38_2 (pc' := 5) rfl h1 ?_
  refine g_iloadN X0 d38_5 (pc' := 6) rfl rfl ?_
  refine g_goto X0 d38_6 (pt := 10) (by decide) ?_
  exact g_retI X0 rfl d38_10 (by decide) (by decide) ⟨rfl, rfl, rfl⟩

theorem d38_9 : decode jdk_29_method_69_code 9 = .ok (.iload_n 1, 1) := by decide +kernel
theorem ef_38b (m : MethodId) (a : Int32) (b : Int32) : entryFrame m #[(.int a), (.int b)] 2 = mkF m 0 #[.val (.int a), .val (.int b)] [] := by first | (simp [entryFrame, mkF, argsToLocals, Value.category]; done) | rfl
def R38b : Room := ({ frames := 0, cells := 0, slots := 0, locals := 0 } : Room)
set_option maxRecDepth 65536 in
set_option maxHeartbeats 40000000 in
theorem rm38b (l : Launch) (Z : State) (a0 : Array Value) (hw : ∀ d ∈ tables_1, d.before a0 Z = true) (a : Int32) (b : Int32) (h0 : Heap) (n0 : Nat) (hO : Old Z n0 h0) (h1 : b < a) :
    Con l Z (⟨"java/lang/Math", "min", "(II)I"⟩ : MethodName) jdk_29_method_69_code 2 (some .int) [] R38b R38b.cells R38b.slots #[(.int a), (.int b)] h0 (fun v h L => v = some (.int b) ∧ h0 = h ∧ L = []) := by
  refine Con.intro (n0 := n0) (Jvm.Free.JP.mathPlain rfl (by decide +kernel)) (fun m => ef_38b m a b) hO ?_
  intro p e s m below meth cc T hs0 X0
  refine g_iloadN X0 d38_0 (pc' := 1) rfl rfl ?_
  refine g_iloadN X0 d38_1 (pc' := 2) rfl rfl ?_
  refine g_icmp_gt_t X0 d38_2 (pt := 9) (by decide) h1 ?_
  refine g_iloadN X0 d38_9 (pc' := 10) rfl rfl ?_
  exact g_retI X0 rfl d38_10 (by decide) (by decide) ⟨rfl, rfl, rfl⟩

/-- the byte[] b holds zs -/
def BA (Z : State) (h : Heap) (b : Addr) (zs : List Int32) : Prop := Arx Z h b .byte (own_bs zs) ∧ Exa Z h b "[B"
def i8 (c : Int32) : Int32 := c.toInt8.toInt32
theorem own_n8 (c : Int32) : nar .byte (i8 c) = i8 c := by
  apply Int32.toInt_inj.mp
  show ((c.toInt8.toInt32).toInt8.toInt32).toInt = _
  rw [Int8.toInt8_toInt32]; rfl
theorem own_by8 (c : Int32) : BY (i8 c) := by
  have h := fits_nar_byte c
  exact h
/-- a byte in UTF-8 -/
def u8 (z : Int32) : List Int32 := if z < 0 then [i8 ((192 : Int32) ||| ((z &&& (255 : Int32)) >>> ((6 : Int32) &&& 31))), i8 ((128 : Int32) ||| (z &&& (63 : Int32)))] else [z]
def U (zs : List Int32) : List Int32 := zs.flatMap u8
theorem own_U_len (zs : List Int32) : zs.length ≤ (U zs).length ∧ (U zs).length ≤ 2 * zs.length := by
  induction zs with
  | nil => exact ⟨Nat.le_refl _, Nat.le_refl _⟩
  | cons z zs ih =>
    have h1 : 1 ≤ (u8 z).length ∧ (u8 z).length ≤ 2 := by unfold u8; split <;> simp
    simp only [U, List.flatMap_cons, List.length_append, List.length_cons] at *
    omega
theorem own_U_by {zs : List Int32} (h : ∀ z ∈ zs, BY z) : ∀ z ∈ U zs, BY z := by
  intro z hz
  obtain ⟨y, hy, hq⟩ := List.mem_flatMap.mp hz
  unfold u8 at hq
  split at hq
  · rcases List.mem_cons.mp hq with rfl | q
    · exact own_by8 _
    · rw [List.mem_singleton.mp q]; exact own_by8 _
  · rw [List.mem_singleton.mp hq]; exact h y hy
theorem own_U_pos {zs : List Int32} (h : ∀ z ∈ zs, ¬ z < 0) : U zs = zs := by
  induction zs with
  | nil => rfl
  | cons z zs ih =>
    have e : u8 z = [z] := by unfold u8; rw [if_neg (h z List.mem_cons_self)]
    unfold U at *
    rw [List.flatMap_cons, e, ih (fun y hy => h y (List.mem_cons_of_mem _ hy))]; rfl
theorem own_U_take {zs : List Int32} {j : Nat} (h : j < zs.length) : U (zs.take (j + 1)) = U (zs.take j) ++ u8 zs[j] := by
  unfold U; rw [List.take_add_one, List.flatMap_append]; simp [h]
theorem d32_0 : decode jdk_43_method_3_code 0 = .ok (.iload_n 0, 1) := by decide +kernel
theorem d32_1 : decode jdk_43_method_3_code 1 = .ok (.sipush 255, 3) := by decide +kernel
theorem d32_4 : decode jdk_43_method_3_code 4 = .ok (.if_icmp .gt 7, 3) := by decide +kernel
theorem d32_7 : decode jdk_43_method_3_code 7 = .ok (.iconst 1, 1) := by decide +kernel
theorem d32_8 : decode jdk_43_method_3_code 8 = .ok (.goto 4, 3) := by decide +kernel
theorem d32_12 : decode jdk_43_method_3_code 12 = .ok (.ireturn, 1) := by decide +kernel
theorem ef_32 (m : MethodId) (a : Int32) : entryFrame m #[(.int a)] 1 = mkF m 0 #[.val (.int a)] [] := by first | (simp [entryFrame, mkF, argsToLocals, Value.category]; done) | rfl
def R32 : Room := ({ frames := 0, cells := 0, slots := 0, locals := 0 } : Room)
set_option maxRecDepth 65536 in
set_option maxHeartbeats 40000000 in
theorem rm32 (l : Launch) (Z : State) (a0 : Array Value) (hw : ∀ d ∈ tables_1, d.before a0 Z = true) (a : Int32) (h0 : Heap) (n0 : Nat) (hO : Old Z n0 h0) (h1 : ¬ (255 : Int32) < a) :
    Con l Z (⟨"java/lang/StringLatin1", "canEncode", "(C)Z"⟩ : MethodName) jdk_43_method_3_code 1 (some .boolean) [] R32 R32.cells R32.slots #[(.int a)] h0 (fun v h L => v = some (.int (1 : Int32)) ∧ h0 = h ∧ L = []) := by
  refine Con.intro (n0 := n0) (plainFor_of_name pn_1) (fun m => ef_32 m a) hO ?_
  intro p e s m below meth cc T hs0 X0
  refine g_iloadN X0 d32_0 (pc' := 1) rfl rfl ?_
  refine g_sipush X0 d32_1 (pc' := 4) rfl (v := (255 : Int32)) rfl ?_
  refine g_icmp_gt_f X0 d32_4 (pc' := 7) rfl h1 ?_
  refine g_iconst X0 d32_7 (pc' := 8) rfl (v := (1 : Int32)) rfl ?_
  refine g_goto X0 d32_8 (pt := 12) (by decide) ?_
  exact g_retN X0 (by decide) rfl d32_12 (by decide) (by decide) ⟨rfl, rfl, rfl⟩

theorem d33_0 : decode jdk_43_method_46_code 0 = .ok (.iconst 1, 1) := by decide +kernel
theorem d33_1 : decode jdk_43_method_46_code 1 = .ok (.newarray .byte, 2) := by decide +kernel
theorem d33_3 : decode jdk_43_method_46_code 3 = .ok (.dup, 1) := by decide +kernel
theorem d33_4 : decode jdk_43_method_46_code 4 = .ok (.iconst 0, 1) := by decide +kernel
theorem d33_5 : decode jdk_43_method_46_code 5 = .ok (.iload_n 0, 1) := by decide +kernel
theorem d33_6 : decode jdk_43_method_46_code 6 = .ok (.i2b, 1) := by decide +kernel
theorem d33_7 : decode jdk_43_method_46_code 7 = .ok (.bastore, 1) := by decide +kernel
theorem d33_8 : decode jdk_43_method_46_code 8 = .ok (.areturn, 1) := by decide +kernel
theorem ef_33 (m : MethodId) (a : Int32) : entryFrame m #[(.int a)] 1 = mkF m 0 #[.val (.int a)] [] := by first | (simp [entryFrame, mkF, argsToLocals, Value.category]; done) | rfl
def R33 : Room := ({ frames := 0, cells := 1, slots := 1, locals := 0 } : Room)
set_option maxRecDepth 65536 in
set_option maxHeartbeats 40000000 in
theorem rm33 (l : Launch) (Z : State) (a0 : Array Value) (hw : ∀ d ∈ tables_1, d.before a0 Z = true) (a : Int32) (h0 : Heap) (n0 : Nat) (hO : Old Z n0 h0)  :
    Con l Z (⟨"java/lang/StringLatin1", "toBytes", "(C)[B"⟩ : MethodName) jdk_43_method_46_code 1 (some (.array .byte)) [] R33 R33.cells R33.slots #[(.int a)] h0 (fun r h L => ∃ b : Addr, r = some (.ref b) ∧ Fr n0 L ∧ Keep h0 h [] ∧ h0.size ≤ b ∧ BA Z h b [i8 a]) := by
  refine Con.intro (n0 := n0) (plainFor_of_name pn_1) (fun m => ef_33 m a) hO ?_
  intro p e s m below meth cc T hs0 X0
  refine g_iconst X0 d33_0 (pc' := 1) rfl (v := (1 : Int32)) rfl ?_
  refine g_newarrayE X0 (ad := "[B") (by decide) (aty := .byte) (cap := 1) (vs := (own_bs [(0 : Int32)])) (hw _ m23) (by decide) (by decide) rfl (by decide) d33_1 (pc' := 3) rfl (by decide) (by decide) (fun T3 h3 b3 X3 g3 E3 A3 EA3 l3 => ?_)
  refine g_dup X3 d33_3 (pc' := 4) rfl rfl ?_
  refine g_iconst X3 d33_4 (pc' := 5) rfl (v := (0 : Int32)) rfl ?_
  refine g_iloadN X3 d33_5 (pc' := 6) rfl rfl ?_
  refine g_i2b X3 d33_6 (pc' := 7) rfl ?_
  refine g_bastore X3 (i := 0) A3 rfl (by decide) l3 d33_7 (pc' := 8) rfl (fun T4 h4 X4 W4 A4 => ?_)
  have A4 : Arx Z h4 b3 .byte (own_bs [i8 a]) := by have q := own_n8 a; unfold i8 at q; rw [q] at A4; exact A4
  have k5 := (Keep.refl h0 []).ext E3
  have k6 := k5.wr W4 (Or.inr (Nat.le_trans (Keep.refl h0 []).1 (Nat.le_of_eq g3.symm)))
  have f7 := (EA3.wr W4)
  exact g_retA X4 rfl rfl rfl d33_8 (by decide) (by decide) ⟨b3, rfl, X4.fr, k6, (Nat.le_trans (Keep.refl h0 []).1 (Nat.le_of_eq g3.symm)), A4, f7⟩

theorem d34_0 : decode jdk_42_method_151_code 0 = .ok (.aload_n 0, 1) := by decide +kernel
theorem d34_1 : decode jdk_42_method_151_code 1 = .ok (.invokespecial 1, 3) := by decide +kernel
theorem d34_4 : decode jdk_42_method_151_code 4 = .ok (.aload_n 0, 1) := by decide +kernel
theorem d34_5 : decode jdk_42_method_151_code 5 = .ok (.aload_n 1, 1) := by decide +kernel
theorem d34_6 : decode jdk_42_method_151_code 6 = .ok (.putfield 9, 3) := by decide +kernel
theorem d34_9 : decode jdk_42_method_151_code 9 = .ok (.aload_n 0, 1) := by decide +kernel
theorem d34_10 : decode jdk_42_method_151_code 10 = .ok (.iload_n 2, 1) := by decide +kernel
theorem d34_11 : decode jdk_42_method_151_code 11 = .ok (.putfield 15, 3) := by decide +kernel
theorem d34_14 : decode jdk_42_method_151_code 14 = .ok (.return_, 1) := by decide +kernel
theorem ef_34 (m : MethodId) (a : Addr) (u : Addr) : entryFrame m #[(.ref a), (.ref u), (.int (0 : Int32))] 3 = mkF m 0 #[.val (.ref a), .val (.ref u), .val (.int (0 : Int32))] [] := by first | (simp [entryFrame, mkF, argsToLocals, Value.category]; done) | rfl
def R34 : Room := ({ frames := 1, cells := 0, slots := 0, locals := 12 } : Room)
set_option maxRecDepth 65536 in
set_option maxHeartbeats 40000000 in
theorem rm34 (l : Launch) (Z : State) (a0 : Array Value) (hw : ∀ d ∈ tables_1, d.before a0 Z = true) (a : Addr) (u : Addr) (h0 : Heap) (n0 : Nat) (hO : Old Z n0 h0) (E_a : Exa Z h0 a "java/lang/String") (g_a : n0 ≤ a) (Fv_a : Fld Z h0 a "java/lang/String" "value" "[B" .null) (Fc_a : Fld Z h0 a "java/lang/String" "coder" "B" (.int (0 : Int32))) (zs : List Int32) (HU : BA Z h0 u zs) (n_u_a : u ≠ a) :
    Con l Z (⟨"java/lang/String", "<init>", "([BB)V"⟩ : MethodName) jdk_42_method_151_code 3 none [] R34 R34.cells R34.slots #[(.ref a), (.ref u), (.int (0 : Int32))] h0 (fun r h L => r = none ∧ Fr n0 L ∧ Keep h0 h [a] ∧ SS Z h a u zs ∧ Exa Z h u "[B") := by
  refine Con.intro (n0 := n0) (plainFor_of_name pn_0) (fun m => ef_34 m a u) hO ?_
  intro p e s m below meth cc T hs0 X0
  refine g_aloadN X0 d34_0 (pc' := 1) rfl rfl rfl ?_
  refine g_initO X0 (hw _ m19) (hw _ m20) (hw _ m21) rfl d34_1 (pc' := 4) rfl (by decide) (W := 0) rfl (by decide) (fun T8 X8 => ?_)
  refine g_aloadN X8 d34_4 (pc' := 5) rfl rfl rfl ?_
  refine g_aloadN X8 d34_5 (pc' := 6) rfl rfl rfl ?_
  refine g_putF X8 (host := "") (Or.inl (hw _ m28)) Via.refl Fv_a E_a (Or.inr ⟨(hw _ m24), rfl, rfl⟩) (hw _ m9) (ty := (.array .byte)) (by decide) rfl rfl g_a d34_6 (pc' := 9) rfl (fun T9 h9 X9 W9 => ?_)
  have F9 := Fv_a.same W9
  refine g_aloadN X9 d34_9 (pc' := 10) rfl rfl rfl ?_
  refine g_iloadN X9 d34_10 (pc' := 11) rfl rfl ?_
  have f10 := (Fc_a.other W9 (Or.inr (slot_ne (Or.inr (hw _ m25)) (Or.inr (hw _ m24)) (by decide) (t := .byte) (t' := (.array .byte)) (by decide) (by decide))))
  have f11 := (E_a.wr W9)
  refine g_putFN X9 (hw _ m29) Via.refl f10 f11 (Or.inr ⟨(hw _ m25), rfl, rfl⟩) (hw _ m9) (ty := .byte) (v' := (.int (nar .byte (0 : Int32)))) (by decide) rfl (fits_nar_byte _) g_a d34_11 (pc' := 14) rfl (fun T12 h12 X12 W12 => ?_)
  have F12 := f10.same W12
  have k13 := (Keep.refl h0 [a]).wr W9 (Or.inl (by simp))
  have k14 := k13.wr W12 (Or.inl (by simp))
  rw [own_nb0] at F12
  have f15 := (f11.wr W12)
  have f16 := (F9.other W12 (Or.inr (slot_ne (Or.inr (hw _ m24)) (Or.inr (hw _ m25)) (by decide) (t := (.array .byte)) (t' := .byte) (by decide) (by decide))))
  have f17 := ((HU.1.other W9 n_u_a).other W12 n_u_a)
  have f18 := ((HU.2.wr W9).wr W12)
  exact g_ret X12 rfl d34_14 (by decide) (by decide) ⟨rfl, X12.fr, k14, ⟨f15, F12, f16, f17⟩, f18⟩

theorem d31_0 : decode jdk_42_method_139_code 0 = .ok (.getstatic 38, 3) := by decide +kernel
theorem d31_3 : decode jdk_42_method_139_code 3 = .ok (.ifCond .eq 23, 3) := by decide +kernel
theorem d31_6 : decode jdk_42_method_139_code 6 = .ok (.iload_n 0, 1) := by decide +kernel
theorem d31_7 : decode jdk_42_method_139_code 7 = .ok (.invokestatic 1015, 3) := by decide +kernel
theorem d31_10 : decode jdk_42_method_139_code 10 = .ok (.ifCond .eq 16, 3) := by decide +kernel
theorem d31_13 : decode jdk_42_method_139_code 13 = .ok (.new 10, 3) := by decide +kernel
theorem d31_16 : decode jdk_42_method_139_code 16 = .ok (.dup, 1) := by decide +kernel
theorem d31_17 : decode jdk_42_method_139_code 17 = .ok (.iload_n 0, 1) := by decide +kernel
theorem d31_18 : decode jdk_42_method_139_code 18 = .ok (.invokestatic 1018, 3) := by decide +kernel
theorem d31_21 : decode jdk_42_method_139_code 21 = .ok (.iconst 0, 1) := by decide +kernel
theorem d31_22 : decode jdk_42_method_139_code 22 = .ok (.invokespecial 209, 3) := by decide +kernel
theorem d31_25 : decode jdk_42_method_139_code 25 = .ok (.areturn, 1) := by decide +kernel
theorem ef_31 (m : MethodId) (a : Int32) : entryFrame m #[(.int a)] 1 = mkF m 0 #[.val (.int a)] [] := by first | (simp [entryFrame, mkF, argsToLocals, Value.category]; done) | rfl
def R31 : Room := ({ frames := 2, cells := 2, slots := 5, locals := 27 } : Room)
set_option maxRecDepth 65536 in
set_option maxHeartbeats 40000000 in
theorem rm31 (l : Launch) (Z : State) (a0 : Array Value) (hw : ∀ d ∈ tables_1, d.before a0 Z = true) (a : Int32) (h0 : Heap) (n0 : Nat) (hO : Old Z n0 h0) (h1 : ¬ (255 : Int32) < a) (G1 : Int32) (O2 : Sta Z Z.heap "java/lang/String" "COMPACT_STRINGS" "Z" (.int G1)) (P5 : ¬ G1 = (0 : Int32)) :
    Con l Z (⟨"java/lang/String", "valueOf", "(C)Ljava/lang/String;"⟩ : MethodName) jdk_42_method_139_code 1 (some (.object "java/lang/String")) [] R31 R31.cells R31.slots #[(.int a)] h0 (fun r h L => ∃ a' u : Addr, r = some (.ref a') ∧ Fr n0 L ∧ Keep h0 h [] ∧ SS Z h a' u [i8 a] ∧ Exa Z h u "[B") := by
  refine Con.intro (n0 := n0) (plainFor_of_name pn_0) (fun m => ef_31 m a) hO ?_
  intro p e s m below meth cc T hs0 X0
  refine g_getS X0 (hw _ m39) (O2.ext X0.old.2) d31_0 (pc' := 3) rfl (fun T19 X19 => ?_)
  refine g_if_eq_f X19 d31_3 (pc' := 6) rfl P5 ?_
  refine g_iloadN X19 d31_6 (pc' := 7) rfl rfl ?_
  refine g_callS X19 (y := (⟨"java/lang/StringLatin1", "canEncode", "(C)Z"⟩ : MethodName)) [(.int a)] (hw _ m164) (hw _ m165) (hw _ m42) (hw _ m166) (hw _ m42) (rm32 l Z a0 hw a h0 n0 X19.old h1) (by decide) (by decide) (by decide) (by decide) (by decide) rfl pd_0 rfl (rest := []) rfl (W := 0) rfl d31_7 (pc' := 10) rfl ?_
  rintro _ T20 _ _ Y20 ⟨rfl, rfl, rfl⟩
  have X20 := Y20 X19.old (Fr.nil _)
  show Go p e below _ (State.setTop _ (mkF m 10 #[.val (.int a)] [(.int (1 : Int32))]))
  refine g_if_eq_f X20 d31_10 (pc' := 13) rfl (by decide) ?_
  refine g_new X20 (hw _ m38) (hw _ m9) (hw _ m10) d31_13 (pc' := 16) rfl (by decide) (by decide) (fun T21 h21 b21 X21 g21 E21 A21 D21 l21 => ?_)
  have F21_value : Fld Z h21 b21 "java/lang/String" "value" "[B" .null := D21 (Or.inr (hw _ m24)) (ty := (.array .byte)) (by decide)
  have F21_coder : Fld Z h21 b21 "java/lang/String" "coder" "B" (.int (0 : Int32)) := D21 (Or.inr (hw _ m25)) (ty := .byte) (by decide)
  refine g_dup X21 d31_16 (pc' := 17) rfl rfl ?_
  refine g_iloadN X21 d31_17 (pc' := 18) rfl rfl ?_
  refine g_callS X21 (y := (⟨"java/lang/StringLatin1", "toBytes", "(C)[B"⟩ : MethodName)) [(.int a)] (hw _ m167) (hw _ m168) (hw _ m42) (hw _ m169) (hw _ m42) (rm33 l Z a0 hw a h21 n0 X21.old ) (by decide) (by decide) (by decide) (by decide) (by decide) rfl pd_1 rfl (rest := [(.ref b21), (.ref b21)]) rfl (W := 2) rfl d31_18 (pc' := 21) rfl ?_
  rintro _ T22 h22 L22 Y22 ⟨b22, rfl, N22, K22, q22, A22x, EA22⟩
  have X22 := Y22 (X21.old.keep K22 all0) N22
  have g_b22 : n0 ≤ b22 := Nat.le_trans X21.sz q22
  have ne23 : b21 ≠ b22 := Nat.ne_of_lt (Nat.lt_of_lt_of_le F21_coder.lt q22)
  show Go p e below _ (State.setTop _ (mkF m 21 #[.val (.int a)] [(.ref b22), (.ref b21), (.ref b21)]))
  refine g_iconst X22 d31_21 (pc' := 22) rfl (v := (0 : Int32)) rfl ?_
  have f24 := (A21.keep K22)
  have f25 := (F21_value.keep K22 nm0)
  have f26 := (F21_coder.keep K22 nm0)
  refine g_callI X22 (y := (⟨"java/lang/String", "<init>", "([BB)V"⟩ : MethodName)) (a := b21) [(.ref b22), (.int (0 : Int32))] rfl (hw _ m170) (hw _ m171) rfl (hw _ m172) (hw _ m10) (rm34 l Z a0 hw b21 b22 h22 n0 X22.old f24 l21 f25 f26 [i8 a] ⟨A22x, EA22⟩ (Ne.symm ne23)) (by decide) (by decide) (by decide) (by decide) (by decide) rfl pd_2 rfl (rest := [(.ref b21)]) rfl (W := 1) rfl d31_22 (pc' := 25) rfl ?_
  rintro _ T27 h27 L27 Y27 ⟨rfl, N27, K27, H27, HE27⟩
  have X27 := Y27 (X22.old.keep K27 (allS l21 all0)) N27
  show Go p e below _ (State.setTop _ (mkF m 25 #[.val (.int a)] [(.ref b21)]))
  have k28 := (Keep.refl h0 []).ext E21
  have k29 := k28.trans K22 (fun x hx => by simp at hx)
  have k30 := k29.trans K27 (allS (Or.inr (Nat.le_trans (Keep.refl h0 []).1 (Nat.le_of_eq g21.symm))) all0)
  exact g_retA X27 rfl rfl rfl d31_25 (by decide) (by decide) ⟨_, _, rfl, X27.fr, k30, H27, HE27⟩

theorem own_i8u (x : Int32) : x.toInt8.toInt32 = i8 x := rfl
theorem own_shl1 {n : Nat} (h : n < 1000) : Int32.ofNat n <<< ((1 : Int32) &&& 31) = Int32.ofNat (2 * n) := by
  apply Int32.toInt_inj.mp
  rw [Jvm.Kit.i32_shl (Int32.ofNat n) _ (k := 1) (by decide) (by rw [own_small (by omega)]; omega) (by rw [own_small (by omega)]; omega), own_small (by omega), own_small (by omega)]; omega
theorem own_addz (zs : List Int32) : (0 : Int32) + Int32.ofNat zs.length = Int32.ofNat zs.length := Int32.zero_add _
theorem own_fill {xs : List Int32} (z : Int32) (m : Nat) : own_put (xs ++ List.replicate (m + 1) 0) xs.length [z] = (xs ++ [z]) ++ List.replicate m 0 := by
  unfold own_put
  rw [List.take_left, List.drop_append]
  simp [List.replicate_succ]
theorem own_shrink (ws : List Int32) (m : Nat) : List.take 0 (List.replicate m (0 : Int32)) ++ (List.drop 0 ws).take m ++ List.drop (0 + m) (List.replicate m (0 : Int32)) = ws.take m := by simp
theorem d20_0 : decode jdk_123_method_3_code 0 = .ok (.iload_n 1, 1) := by decide +kernel
theorem d20_1 : decode jdk_123_method_3_code 1 = .ok (.iload_n 2, 1) := by decide +kernel
theorem d20_2 : decode jdk_123_method_3_code 2 = .ok (.iadd, 1) := by decide +kernel
theorem d20_3 : decode jdk_123_method_3_code 3 = .ok (.istore_n 3, 1) := by decide +kernel
theorem d20_4 : decode jdk_123_method_3_code 4 = .ok (.iload_n 1, 1) := by decide +kernel
theorem d20_5 : decode jdk_123_method_3_code 5 = .ok (.istore 4, 2) := by decide +kernel
theorem d20_7 : decode jdk_123_method_3_code 7 = .ok (.iload 4, 2) := by decide +kernel
theorem d20_9 : decode jdk_123_method_3_code 9 = .ok (.iload_n 3, 1) := by decide +kernel
theorem d20_10 : decode jdk_123_method_3_code 10 = .ok (.if_icmp .ge 21, 3) := by decide +kernel
theorem d20_13 : decode jdk_123_method_3_code 13 = .ok (.aload_n 0, 1) := by decide +kernel
theorem d20_14 : decode jdk_123_method_3_code 14 = .ok (.iload 4, 2) := by decide +kernel
theorem d20_16 : decode jdk_123_method_3_code 16 = .ok (.baload, 1) := by decide +kernel
theorem d20_17 : decode jdk_123_method_3_code 17 = .ok (.ifCond .ge 8, 3) := by decide +kernel
theorem d20_20 : decode jdk_123_method_3_code 20 = .ok (.iload 4, 2) := by decide +kernel
theorem d20_22 : decode jdk_123_method_3_code 22 = .ok (.iload_n 1, 1) := by decide +kernel
theorem d20_23 : decode jdk_123_method_3_code 23 = .ok (.isub, 1) := by decide +kernel
theorem d20_24 : decode jdk_123_method_3_code 24 = .ok (.ireturn, 1) := by decide +kernel
theorem d20_25 : decode jdk_123_method_3_code 25 = .ok (.iinc 4 1, 3) := by decide +kernel
theorem d20_28 : decode jdk_123_method_3_code 28 = .ok (.goto (-21), 3) := by decide +kernel
theorem d20_31 : decode jdk_123_method_3_code 31 = .ok (.iload_n 2, 1) := by decide +kernel
theorem d20_32 : decode jdk_123_method_3_code 32 = .ok (.ireturn, 1) := by decide +kernel
theorem ef_20 (m : MethodId) (u : Addr) (zs : List Int32) : entryFrame m #[(.ref u), (.int (0 : Int32)), (.int (Int32.ofNat zs.length))] 5 = mkF m 0 #[.val (.ref u), .val (.int (0 : Int32)), .val (.int (Int32.ofNat zs.length)), .unset, .unset] [] := by first | (simp [entryFrame, mkF, argsToLocals, Value.category]; done) | rfl
def R20 : Room := ({ frames := 0, cells := 0, slots := 0, locals := 0 } : Room)
set_option maxRecDepth 65536 in
set_option maxHeartbeats 40000000 in
theorem rm20 (l : Launch) (Z : State) (a0 : Array Value) (hw : ∀ d ∈ tables_1, d.before a0 Z = true) (u : Addr) (zs : List Int32) (h0 : Heap) (n0 : Nat) (hO : Old Z n0 h0) (A_u : Arx Z h0 u .byte (own_bs zs)) (hl2 : zs.length ≤ 2) :
    Con l Z (⟨"java/lang/StringCoding", "countPositives", "([BII)I"⟩ : MethodName) jdk_123_method_3_code 5 (some .int) [] R20 R20.cells R20.slots #[(.ref u), (.int (0 : Int32)), (.int (Int32.ofNat zs.length))] h0 (fun r h L => ∃ i : Nat, r = some (.int (Int32.ofNat i)) ∧ (i = zs.length ∧ (∀ z ∈ zs, ¬ z < 0) ∨ i < zs.length ∧ ∃ z ∈ zs, z < 0) ∧ h0 = h ∧ L = []) := by
  refine Con.intro (n0 := n0) (plainFor_of_name pn_2) (fun m => ef_20 m u zs) hO ?_
  intro p e s m below meth cc T hs0 X0
  have loop : ∀ (r j : Nat) (T : State) (locs : List Loc), j + r = zs.length → locs = [] → (∀ z ∈ zs.take j, ¬ z < 0) → St Z n0 p l e R20 s m #[(.ref u), (.int (0 : Int32)), (.int (Int32.ofNat zs.length))] below meth cc "java/lang/StringCoding" "countPositives" jdk_123_method_3_code 5 (some .int) T locs 0 0 h0 → Go p e below (Kq s R20.cells R20.slots (fun r h L => ∃ i : Nat, r = some (.int (Int32.ofNat i)) ∧ (i = zs.length ∧ (∀ z ∈ zs, ¬ z < 0) ∨ i < zs.length ∧ ∃ z ∈ zs, z < 0) ∧ h0 = h ∧ L = [])) (T.setTop (mkF m 7 #[.val (.ref u), .val (.int (0 : Int32)), .val (.int (Int32.ofNat zs.length)), .val (.int (Int32.ofNat zs.length)), .val (.int (Int32.ofNat j))] [])) := by
    intro r
    induction r with
    | zero =>
      rintro j T _ hj rfl hp X
      refine g_iload X d20_7 (pc' := 9) rfl rfl ?_
      refine g_iloadN X d20_9 (pc' := 10) rfl rfl ?_
      refine g_icmp_ge_t X d20_10 (pt := 31) (by decide) (by rw [show j = zs.length by omega]; exact fun q => Int32.lt_irrefl q) ?_
      refine g_iloadN X d20_31 (pc' := 32) rfl rfl ?_
      exact g_retI X rfl d20_32 (by decide) (by decide) ⟨zs.length, rfl, Or.inl ⟨rfl, (by rw [List.take_of_length_le (by omega)] at hp; exact hp)⟩, rfl, rfl⟩
    | succ r ih =>
      rintro j T _ hj rfl hp X
      refine g_iload X d20_7 (pc' := 9) rfl rfl ?_
      refine g_iloadN X d20_9 (pc' := 10) rfl rfl ?_
      refine g_icmp_ge_f X d20_10 (pc' := 13) rfl ((own_ltN (by omega) (by omega)).mpr (by omega)) ?_
      refine g_aloadN X d20_13 (pc' := 14) rfl rfl rfl ?_
      refine g_iload X d20_14 (pc' := 16) rfl rfl ?_
      refine g_baload X (i := j) (v := (.int (zs[j]'(by omega)))) A_u (own_small (by omega)) (own_bs_at (by omega)) d20_16 (pc' := 17) rfl ?_
      refine g_if_ge X d20_17 (pt := 25) (by decide) (pc' := 20) rfl (fun hc17 => ?_) (fun hc17 => ?_)
      · refine g_iinc X d20_25 (pc' := 28) rfl rfl (L' := #[.val (.ref u), .val (.int (0 : Int32)), .val (.int (Int32.ofNat zs.length)), .val (.int (Int32.ofNat zs.length)), .val (.int ((Int32.ofNat j) + (1 : Int32)))]) rfl ?_
        refine g_goto X d20_28 (pt := 7) (by decide) ?_
        rw [own_succ]
        exact ih (j + 1) _ _ (by omega) rfl (by rw [List.take_add_one, List.getElem?_eq_getElem (by omega)]; intro z hz; rcases List.mem_append.mp hz with q | q; exact hp z q; rw [List.mem_singleton.mp q]; exact hc17) X
      · refine g_iload X d20_20 (pc' := 22) rfl rfl ?_
        refine g_iloadN X d20_22 (pc' := 23) rfl rfl ?_
        refine g_isub X d20_23 (pc' := 24) rfl ?_
        rw [Int32.sub_zero]
        exact g_retI X rfl d20_24 (by decide) (by decide) ⟨j, rfl, Or.inr ⟨(by omega), zs[j]'(by omega), List.getElem_mem _, hc17⟩, rfl, rfl⟩
  refine g_iloadN X0 d20_0 (pc' := 1) rfl rfl ?_
  refine g_iloadN X0 d20_1 (pc' := 2) rfl rfl ?_
  refine g_iadd X0 d20_2 (pc' := 3) rfl ?_
  rw [own_addz]
  refine g_istoreN X0 d20_3 (pc' := 4) rfl (L' := #[.val (.ref u), .val (.int (0 : Int32)), .val (.int (Int32.ofNat zs.length)), .val (.int (Int32.ofNat zs.length)), .unset]) rfl ?_
  refine g_iloadN X0 d20_4 (pc' := 5) rfl rfl ?_
  refine g_istore X0 d20_5 (pc' := 7) rfl (L' := #[.val (.ref u), .val (.int (0 : Int32)), .val (.int (Int32.ofNat zs.length)), .val (.int (Int32.ofNat zs.length)), .val (.int (0 : Int32))]) rfl ?_
  exact loop zs.length 0 _ _ (by omega) rfl (by simp) X0

theorem d19_0 : decode jdk_123_method_2_code 0 = .ok (.aload_n 0, 1) := by decide +kernel
theorem d19_1 : decode jdk_123_method_2_code 1 = .ok (.iload_n 1, 1) := by decide +kernel
theorem d19_2 : decode jdk_123_method_2_code 2 = .ok (.iload_n 2, 1) := by decide +kernel
theorem d19_3 : decode jdk_123_method_2_code 3 = .ok (.invokestatic 7, 3) := by decide +kernel
theorem d19_6 : decode jdk_123_method_2_code 6 = .ok (.iload_n 2, 1) := by decide +kernel
theorem d19_7 : decode jdk_123_method_2_code 7 = .ok (.if_icmp .eq 7, 3) := by decide +kernel
theorem d19_10 : decode jdk_123_method_2_code 10 = .ok (.iconst 1, 1) := by decide +kernel
theorem d19_11 : decode jdk_123_method_2_code 11 = .ok (.goto 4, 3) := by decide +kernel
theorem d19_14 : decode jdk_123_method_2_code 14 = .ok (.iconst 0, 1) := by decide +kernel
theorem d19_15 : decode jdk_123_method_2_code 15 = .ok (.ireturn, 1) := by decide +kernel
theorem ef_19 (m : MethodId) (u : Addr) (zs : List Int32) : entryFrame m #[(.ref u), (.int (0 : Int32)), (.int (Int32.ofNat zs.length))] 3 = mkF m 0 #[.val (.ref u), .val (.int (0 : Int32)), .val (.int (Int32.ofNat zs.length))] [] := by first | (simp [entryFrame, mkF, argsToLocals, Value.category]; done) | rfl
def R19 : Room := ({ frames := 1, cells := 0, slots := 0, locals := 16 } : Room)
set_option maxRecDepth 65536 in
set_option maxHeartbeats 40000000 in
theorem rm19 (l : Launch) (Z : State) (a0 : Array Value) (hw : ∀ d ∈ tables_1, d.before a0 Z = true) (u : Addr) (zs : List Int32) (h0 : Heap) (n0 : Nat) (hO : Old Z n0 h0) (A_u : Arx Z h0 u .byte (own_bs zs)) (hl2 : zs.length ≤ 2) :
    Con l Z (⟨"java/lang/StringCoding", "hasNegatives", "([BII)Z"⟩ : MethodName) jdk_123_method_2_code 3 (some .boolean) [] R19 R19.cells R19.slots #[(.ref u), (.int (0 : Int32)), (.int (Int32.ofNat zs.length))] h0 (fun r h L => ∃ b : Int32, r = some (.int b) ∧ (b = 0 ∧ (∀ z ∈ zs, ¬ z < 0) ∨ b = 1 ∧ ∃ z ∈ zs, z < 0) ∧ h0 = h ∧ L = []) := by
  refine Con.intro (n0 := n0) (plainFor_of_name pn_2) (fun m => ef_19 m u zs) hO ?_
  intro p e s m below meth cc T hs0 X0
  refine g_aloadN X0 d19_0 (pc' := 1) rfl rfl rfl ?_
  refine g_iloadN X0 d19_1 (pc' := 2) rfl rfl ?_
  refine g_iloadN X0 d19_2 (pc' := 3) rfl rfl ?_
  refine g_callS X0 (y := (⟨"java/lang/StringCoding", "countPositives", "([BII)I"⟩ : MethodName)) [(.ref u), (.int (0 : Int32)), (.int (Int32.ofNat zs.length))] (hw _ m110) (hw _ m111) (hw _ m108) (hw _ m112) (hw _ m108) (rm20 l Z a0 hw u zs h0 n0 X0.old A_u hl2) (by decide) (by decide) (by decide) (by decide) (by decide) rfl pd_3 rfl (rest := []) rfl (W := 0) rfl d19_3 (pc' := 6) rfl ?_
  rintro _ T31 _ _ Y31 ⟨i31, rfl, r31, rfl, rfl⟩
  have X31 := Y31 X0.old (Fr.nil _)
  show Go p e below _ (State.setTop _ (mkF m 6 #[.val (.ref u), .val (.int (0 : Int32)), .val (.int (Int32.ofNat zs.length))] [(.int (Int32.ofNat i31))]))
  refine g_iloadN X31 d19_6 (pc' := 7) rfl rfl ?_
  refine g_icmp_eq X31 d19_7 (pt := 14) (by decide) (pc' := 10) rfl (fun hc7 => ?_) (fun hc7 => ?_)
  · refine g_iconst X31 d19_14 (pc' := 15) rfl (v := (0 : Int32)) rfl ?_
    exact g_retN X31 (Or.inl rfl) rfl d19_15 (by decide) (by decide) ⟨0, rfl, Or.inl ⟨rfl, r31.elim (fun q => q.2) (fun q => absurd ((own_inj (by omega) (by omega)).mp hc7) (Nat.ne_of_lt q.1))⟩, rfl, rfl⟩
  · refine g_iconst X31 d19_10 (pc' := 11) rfl (v := (1 : Int32)) rfl ?_
    refine g_goto X31 d19_11 (pt := 15) (by decide) ?_
    exact g_retN X31 (Or.inl rfl) rfl d19_15 (by decide) (by decide) ⟨1, rfl, Or.inr ⟨rfl, r31.elim (fun q => absurd (congrArg Int32.ofNat q.1) hc7) (fun q => q.2)⟩, rfl, rfl⟩

theorem d36_0 : decode jdk_52_method_3_code 0 = .ok (.iload_n 0, 1) := by decide +kernel
theorem d36_1 : decode jdk_52_method_3_code 1 = .ok (.ifCond .ge 11, 3) := by decide +kernel
theorem d36_12 : decode jdk_52_method_3_code 12 = .ok (.iload_n 0, 1) := by decide +kernel
theorem d36_13 : decode jdk_52_method_3_code 13 = .ok (.ldc 20, 2) := by decide +kernel
theorem d36_15 : decode jdk_52_method_3_code 15 = .ok (.if_icmp .lt 40, 3) := by decide +kernel
theorem d36_55 : decode jdk_52_method_3_code 55 = .ok (.iload_n 0, 1) := by decide +kernel
theorem d36_56 : decode jdk_52_method_3_code 56 = .ok (.iconst 1, 1) := by decide +kernel
theorem d36_57 : decode jdk_52_method_3_code 57 = .ok (.ishl, 1) := by decide +kernel
theorem d36_58 : decode jdk_52_method_3_code 58 = .ok (.ireturn, 1) := by decide +kernel
theorem ef_36 (m : MethodId) (k : Nat) : entryFrame m #[(.int (Int32.ofNat k))] 1 = mkF m 0 #[.val (.int (Int32.ofNat k))] [] := by first | (simp [entryFrame, mkF, argsToLocals, Value.category]; done) | rfl
def R36 : Room := ({ frames := 0, cells := 0, slots := 0, locals := 0 } : Room)
set_option maxRecDepth 65536 in
set_option maxHeartbeats 40000000 in
theorem rm36 (l : Launch) (Z : State) (a0 : Array Value) (hw : ∀ d ∈ tables_1, d.before a0 Z = true) (k : Nat) (h0 : Heap) (n0 : Nat) (hO : Old Z n0 h0) (hk : k ≤ 2) :
    Con l Z (⟨"java/lang/StringUTF16", "newBytesLength", "(I)I"⟩ : MethodName) jdk_52_method_3_code 1 (some .int) [] R36 R36.cells R36.slots #[(.int (Int32.ofNat k))] h0 (fun v h L => v = some (.int (Int32.ofNat (2 * k))) ∧ h0 = h ∧ L = []) := by
  refine Con.intro (n0 := n0) (plainFor_of_name pn_3) (fun m => ef_36 m k) hO ?_
  intro p e s m below meth cc T hs0 X0
  refine g_iloadN X0 d36_0 (pc' := 1) rfl rfl ?_
  refine g_if_ge_t X0 d36_1 (pt := 12) (by decide) (own_posN (by omega)) ?_
  refine g_iloadN X0 d36_12 (pc' := 13) rfl rfl ?_
  refine g_ldc X0 (hw _ m179) d36_13 (pc' := 15) rfl ?_
  refine g_icmp_lt_t X0 d36_15 (pt := 55) (by decide) (by rw [show (1073741823 : Int32) = Int32.ofNat 1073741823 from rfl, own_ltN (by omega) (by omega)]; omega) ?_
  refine g_iloadN X0 d36_55 (pc' := 56) rfl rfl ?_
  refine g_iconst X0 d36_56 (pc' := 57) rfl (v := (1 : Int32)) rfl ?_
  refine g_ishl X0 d36_57 (pc' := 58) rfl ?_
  rw [own_shl1 (by omega)]
  exact g_retI X0 rfl d36_58 (by decide) (by decide) ⟨rfl, rfl, rfl⟩

theorem d35_0 : decode jdk_52_method_2_code 0 = .ok (.iload_n 0, 1) := by decide +kernel
theorem d35_1 : decode jdk_52_method_2_code 1 = .ok (.invokestatic 11, 3) := by decide +kernel
theorem d35_4 : decode jdk_52_method_2_code 4 = .ok (.newarray .byte, 2) := by decide +kernel
theorem d35_6 : decode jdk_52_method_2_code 6 = .ok (.areturn, 1) := by decide +kernel
theorem ef_35 (m : MethodId) (k : Nat) : entryFrame m #[(.int (Int32.ofNat k))] 1 = mkF m 0 #[.val (.int (Int32.ofNat k))] [] := by first | (simp [entryFrame, mkF, argsToLocals, Value.category]; done) | rfl
def R35 : Room := ({ frames := 1, cells := 1, slots := 4, locals := 12 } : Room)
set_option maxRecDepth 65536 in
set_option maxHeartbeats 40000000 in
theorem rm35 (l : Launch) (Z : State) (a0 : Array Value) (hw : ∀ d ∈ tables_1, d.before a0 Z = true) (k : Nat) (h0 : Heap) (n0 : Nat) (hO : Old Z n0 h0) (hk : k ≤ 2) :
    Con l Z (⟨"java/lang/StringUTF16", "newBytesFor", "(I)[B"⟩ : MethodName) jdk_52_method_2_code 1 (some (.array .byte)) [] R35 R35.cells R35.slots #[(.int (Int32.ofNat k))] h0 (fun r h L => ∃ b : Addr, r = some (.ref b) ∧ Fr n0 L ∧ Keep h0 h [] ∧ h0.size ≤ b ∧ BA Z h b (List.replicate (2 * k) 0)) := by
  refine Con.intro (n0 := n0) (plainFor_of_name pn_3) (fun m => ef_35 m k) hO ?_
  intro p e s m below meth cc T hs0 X0
  refine g_iloadN X0 d35_0 (pc' := 1) rfl rfl ?_
  refine g_callS X0 (y := (⟨"java/lang/StringUTF16", "newBytesLength", "(I)I"⟩ : MethodName)) [(.int (Int32.ofNat k))] (hw _ m176) (hw _ m177) (hw _ m150) (hw _ m178) (hw _ m150) (rm36 l Z a0 hw k h0 n0 X0.old hk) (by decide) (by decide) (by decide) (by decide) (by decide) rfl pd_4 rfl (rest := []) rfl (W := 0) rfl d35_1 (pc' := 4) rfl ?_
  rintro _ T32 _ _ Y32 ⟨rfl, rfl, rfl⟩
  have X32 := Y32 X0.old (Fr.nil _)
  show Go p e below _ (State.setTop _ (mkF m 4 #[.val (.int (Int32.ofNat k))] [(.int (Int32.ofNat (2 * k)))]))
  refine g_newarrayE X32 (ad := "[B") (by decide) (aty := .byte) (cap := 4) (vs := (own_bs (List.replicate (2 * k) (0 : Int32)))) (hw _ m23) (own_posN (by omega)) (by rw [(own_clampN (own_small (by omega))).2]; omega) (own_rep0 (by omega)) (by decide) d35_4 (pc' := 6) rfl (by decide) (by decide) (fun T33 h33 b33 X33 g33 E33 A33 EA33 l33 => ?_)
  have k34 := (Keep.refl h0 []).ext E33
  exact g_retA X33 rfl rfl rfl d35_6 (by decide) (by decide) ⟨b33, rfl, X33.fr, k34, (Nat.le_trans (Keep.refl h0 []).1 (Nat.le_of_eq g33.symm)), A33, EA33⟩

theorem d37_0 : decode jdk_65_method_121_code 0 = .ok (.iload_n 1, 1) := by decide +kernel
theorem d37_1 : decode jdk_65_method_121_code 1 = .ok (.aload_n 0, 1) := by decide +kernel
theorem d37_2 : decode jdk_65_method_121_code 2 = .ok (.arraylength, 1) := by decide +kernel
theorem d37_3 : decode jdk_65_method_121_code 3 = .ok (.if_icmp .ne 11, 3) := by decide +kernel
theorem d37_14 : decode jdk_65_method_121_code 14 = .ok (.iload_n 1, 1) := by decide +kernel
theorem d37_15 : decode jdk_65_method_121_code 15 = .ok (.newarray .byte, 2) := by decide +kernel
theorem d37_17 : decode jdk_65_method_121_code 17 = .ok (.astore_n 2, 1) := by decide +kernel
theorem d37_18 : decode jdk_65_method_121_code 18 = .ok (.aload_n 0, 1) := by decide +kernel
theorem d37_19 : decode jdk_65_method_121_code 19 = .ok (.iconst 0, 1) := by decide +kernel
theorem d37_20 : decode jdk_65_method_121_code 20 = .ok (.aload_n 2, 1) := by decide +kernel
theorem d37_21 : decode jdk_65_method_121_code 21 = .ok (.iconst 0, 1) := by decide +kernel
theorem d37_22 : decode jdk_65_method_121_code 22 = .ok (.aload_n 0, 1) := by decide +kernel
theorem d37_23 : decode jdk_65_method_121_code 23 = .ok (.arraylength, 1) := by decide +kernel
theorem d37_24 : decode jdk_65_method_121_code 24 = .ok (.iload_n 1, 1) := by decide +kernel
theorem d37_25 : decode jdk_65_method_121_code 25 = .ok (.invokestatic 304, 3) := by decide +kernel
theorem d37_28 : decode jdk_65_method_121_code 28 = .ok (.invokestatic 150, 3) := by decide +kernel
theorem d37_31 : decode jdk_65_method_121_code 31 = .ok (.aload_n 2, 1) := by decide +kernel
theorem d37_32 : decode jdk_65_method_121_code 32 = .ok (.areturn, 1) := by decide +kernel
theorem ef_37 (m : MethodId) (a : Addr) (m' : Nat) : entryFrame m #[(.ref a), (.int (Int32.ofNat m'))] 3 = mkF m 0 #[.val (.ref a), .val (.int (Int32.ofNat m')), .unset] [] := by first | (simp [entryFrame, mkF, argsToLocals, Value.category]; done) | rfl
def R37 : Room := ({ frames := 1, cells := 1, slots := 4, locals := 40 } : Room)
set_option maxRecDepth 65536 in
set_option maxHeartbeats 40000000 in
theorem rm37 (l : Launch) (Z : State) (a0 : Array Value) (hw : ∀ d ∈ tables_1, d.before a0 Z = true) (a : Addr) (m' : Nat) (h0 : Heap) (n0 : Nat) (hO : Old Z n0 h0) (ws : List Int32) (A_a : Arx Z h0 a .byte (own_bs ws)) (hy : ∀ z ∈ ws, BY z) (hlt : m' < ws.length) (hm : ws.length ≤ 4) :
    Con l Z (⟨"java/util/Arrays", "copyOf", "([BI)[B"⟩ : MethodName) jdk_65_method_121_code 3 (some (.array .byte)) [] R37 R37.cells R37.slots #[(.ref a), (.int (Int32.ofNat m'))] h0 (fun r h L => ∃ b : Addr, r = some (.ref b) ∧ Fr n0 L ∧ Keep h0 h [] ∧ h0.size ≤ b ∧ BA Z h b (ws.take m')) := by
  refine Con.intro (n0 := n0) (plainFor_of_name pn_4) (fun m => ef_37 m a m') hO ?_
  intro p e s m below meth cc T hs0 X0
  refine g_iloadN X0 d37_0 (pc' := 1) rfl rfl ?_
  refine g_aloadN X0 d37_1 (pc' := 2) rfl rfl rfl ?_
  refine g_arraylength X0 (n := (Int32.ofNat ws.length)) A_a (by rw [own_bs_len]) d37_2 (pc' := 3) rfl ?_
  refine g_icmp_ne_t X0 d37_3 (pt := 14) (by decide) (by rw [own_inj (by omega) (by omega)]; omega) ?_
  refine g_iloadN X0 d37_14 (pc' := 15) rfl rfl ?_
  refine g_newarrayE X0 (ad := "[B") (by decide) (aty := .byte) (cap := 4) (vs := (own_bs (List.replicate m' (0 : Int32)))) (hw _ m23) (own_posN (by omega)) (by rw [(own_clampN (own_small (by omega))).2]; omega) (own_rep0 (by omega)) (by decide) d37_15 (pc' := 17) rfl (by decide) (by decide) (fun T35 h35 b35 X35 g35 E35 A35 EA35 l35 => ?_)
  have ne36 : a ≠ b35 := ne_new A_a.lt g35
  refine g_astoreN X35 d37_17 (pc' := 18) rfl rfl (L' := #[.val (.ref a), .val (.int (Int32.ofNat m')), .val (.ref b35)]) rfl ?_
  refine g_aloadN X35 d37_18 (pc' := 19) rfl rfl rfl ?_
  refine g_iconst X35 d37_19 (pc' := 20) rfl (v := (0 : Int32)) rfl ?_
  refine g_aloadN X35 d37_20 (pc' := 21) rfl rfl rfl ?_
  refine g_iconst X35 d37_21 (pc' := 22) rfl (v := (0 : Int32)) rfl ?_
  refine g_aloadN X35 d37_22 (pc' := 23) rfl rfl rfl ?_
  have f37 := (A_a.ext E35)
  refine g_arraylength X35 (n := (Int32.ofNat ws.length)) f37 (by rw [own_bs_len]) d37_23 (pc' := 24) rfl ?_
  refine g_iloadN X35 d37_24 (pc' := 25) rfl rfl ?_
  refine g_callS X35 (y := (⟨"java/lang/Math", "min", "(II)I"⟩ : MethodName)) [(.int (Int32.ofNat ws.length)), (.int (Int32.ofNat m'))] (hw _ m184) (hw _ m185) (hw _ m186) (hw _ m187) (hw _ m186) (rm38b l Z a0 hw (Int32.ofNat ws.length) (Int32.ofNat m') h35 n0 X35.old ((own_ltN (by omega) (by omega)).mpr hlt)) (by decide) (by decide) (by decide) (by decide) (by decide) rfl pd_5 rfl (rest := [(.int (0 : Int32)), (.ref b35), (.int (0 : Int32)), (.ref a)]) rfl (W := 4) rfl d37_25 (pc' := 28) rfl ?_
  rintro _ T38 _ _ Y38 ⟨rfl, rfl, rfl⟩
  have X38 := Y38 X35.old (Fr.nil _)
  show Go p e below _ (State.setTop _ (mkF m 28 #[.val (.ref a), .val (.int (Int32.ofNat m')), .val (.ref b35)] [(.int (Int32.ofNat m')), (.int (0 : Int32)), (.ref b35), (.int (0 : Int32)), (.ref a)]))
  refine g_arraycopy X38 (si := 0) (di := 0) (ni := m') (W := 0) (hw _ m188) (hw _ m191) (hw _ m189) (hw _ m190) f37 A35 (by decide) (own_fb hy) (own_fb (own_by0 _)) rfl rfl (own_small (by omega)) (by rw [own_bs_len]; omega) (by rw [own_bs_len, List.length_replicate]; omega) l35 rfl rfl (by decide) (by decide) d37_28 (pc' := 31) rfl (fun T39 h39 l39 X39 K39 A39 => ?_)
  rw [own_copy, own_shrink] at A39
  refine g_aloadN X39 d37_31 (pc' := 32) rfl rfl rfl ?_
  have k40 := (Keep.refl h0 []).ext E35
  have k41 := k40.trans K39 (allS (Or.inr (Nat.le_trans (Keep.refl h0 []).1 (Nat.le_of_eq g35.symm))) all0)
  have f42 := (EA35.keep K39)
  exact g_retA X39 rfl rfl rfl d37_32 (by decide) (by decide) ⟨b35, rfl, X39.fr, k41, (Nat.le_trans (Keep.refl h0 []).1 (Nat.le_of_eq g35.symm)), A39, f42⟩

theorem own_putE (ws zs : List Int32) (p : Nat) : ws.take p ++ (zs.drop 0).take zs.length ++ ws.drop (p + zs.length) = own_put ws p zs := by simp [own_put]
theorem own_aq {Z : State} {n0 : Nat} {h0 h : Heap} {b v v' : Addr} {k cap : Nat} {ws0 ws' zs : List Int32} {r : Option Value} {L : List Loc} (hk : k ≤ ws0.length) (e : r = some (.ref b)) (N : Fr n0 L) (K : Keep h0 h [b, v]) (q : v' = v ∨ h0.size ≤ v') (H : SBP Z n0 h b v' (k + zs.length) (own_put ws' k zs)) (hw : ws'.take k = ws0.take k) (hl : k + zs.length ≤ ws'.length) (hc : ws'.length = cap) : AQ Z n0 h0 b v (ws0.take k ++ zs) cap r h L :=
  ⟨v', own_put ws' k zs, e, N, K, q, by rw [own_len1 hk]; exact H, by rw [own_put_len hl, hc], by rw [own_len1 hk, own_put_take hl, hw]⟩
theorem own_keep2 {h h' : Heap} {a b : Addr} (K : Keep h h' [a]) : Keep h h' [a, b] := (Keep.refl h [a, b]).trans K (allS (Or.inl (by simp)) all0)
theorem own_j0 {d : Nat} (hd : d < 10) : (Int64.ofNat d).toInt = (d : Int) := Int64.toInt_ofNat_of_lt (by omega)
theorem own_jneg {d : Nat} (hd : d < 10) : (-(Int64.ofNat d)).toInt = -(d : Int) := by
  rw [Int64.toInt_neg, own_j0 hd]; exact Int.bmod_eq_of_le (by omega) (by omega)
theorem own_ja {d : Nat} (hd : d < 10) : ¬ Int64.ofNat d < (0 : Int64) := by
  rw [Int64.lt_iff_toInt_lt, own_j0 hd]; have : (0 : Int64).toInt = 0 := rfl
  omega
theorem own_jb {d : Nat} (hd : d < 10) : (-2147483648 : Int64) < -(Int64.ofNat d) := by
  rw [Int64.lt_iff_toInt_lt, own_jneg hd]; have : (-2147483648 : Int64).toInt = -2147483648 := rfl
  omega
theorem own_jc {d : Nat} (hd : d < 10) : (-10 : Int64) < -(Int64.ofNat d) := by
  rw [Int64.lt_iff_toInt_lt, own_jneg hd]; have : (-10 : Int64).toInt = -10 := rfl
  omega
theorem own_jd {d : Nat} (hd : d < 10) : (-(Int64.ofNat d)).toInt32 = -(Int32.ofNat d) := by
  apply Int32.toInt_inj.mp
  rw [Int64.toInt_toInt32, own_jneg hd, Int32.toInt_neg, own_small (by omega), Int.bmod_eq_of_le (by omega) (by omega)]
theorem own_jn {d : Nat} (hd : d < 10) : (-(Int32.ofNat d)).toInt = -(d : Int) := by
  rw [Int32.toInt_neg, own_small (by omega)]; exact Int.bmod_eq_of_le (by omega) (by omega)
theorem own_je {d : Nat} (hd : d < 10) : (-100 : Int32) < -(Int32.ofNat d) := by
  rw [Int32.lt_iff_toInt_lt, own_jn hd]; have : (-100 : Int32).toInt = -100 := rfl
  omega
theorem own_jf {d : Nat} (hd : d < 10) : ¬ -(Int32.ofNat d) < (-9 : Int32) := by
  rw [Int32.lt_iff_toInt_lt, own_jn hd]; have : (-9 : Int32).toInt = -9 := rfl
  omega
theorem own_pred (k : Nat) : Int32.ofNat (k + 1) + (-1 : Int32) = Int32.ofNat k := by
  rw [← own_succ, show (-1 : Int32) = -(1 : Int32) from rfl, ← Int32.sub_eq_add_neg, Int32.add_sub_cancel]
theorem own_set1 {ws : List Int32} {k : Nat} (z : Int32) (h : k < ws.length) : (own_bs ws).set k (.int z) = own_bs (own_put ws k [z]) := by
  rw [own_bs, own_bs, ← List.map_set]
  congr 1
  rw [List.set_eq_take_append_cons_drop, if_pos h]; simp [own_put]
theorem own_nbd {d : Nat} (hd : d < 10) : nar .byte (Int32.ofNat (48 + d)) = Int32.ofNat (48 + d) := by
  have : d = 0 ∨ d = 1 ∨ d = 2 ∨ d = 3 ∨ d = 4 ∨ d = 5 ∨ d = 6 ∨ d = 7 ∨ d = 8 ∨ d = 9 := by omega
  rcases this with rfl | rfl | rfl | rfl | rfl | rfl | rfl | rfl | rfl | rfl <;> decide +kernel
theorem own_byd {d : Nat} (hd : d < 10) : ∀ z ∈ [Int32.ofNat (48 + d)], BY z := by
  have : d = 0 ∨ d = 1 ∨ d = 2 ∨ d = 3 ∨ d = 4 ∨ d = 5 ∨ d = 6 ∨ d = 7 ∨ d = 8 ∨ d = 9 := by omega
  intro z hz; rw [List.mem_singleton.mp hz]; unfold BY
  rcases this with rfl | rfl | rfl | rfl | rfl | rfl | rfl | rfl | rfl | rfl <;> decide +kernel
theorem own_narB {z : Int32} (h : BY z) : nar .byte z = z := by
  unfold BY at h
  have h' : (-128 : Int32) ≤ z ∧ z ≤ 127 := by simpa [fits] using h
  rw [Int32.le_iff_toInt_le, Int32.le_iff_toInt_le] at h'
  have e1 : (-128 : Int32).toInt = -128 := rfl
  have e2 : (127 : Int32).toInt = 127 := rfl
  apply Int32.toInt_inj.mp
  show (z.toInt8.toInt32).toInt = _
  rw [Int8.toInt_toInt32, Int32.toInt_toInt8]; exact Int.bmod_eq_of_le (by omega) (by omega)
theorem own_step1 {X : List Int32} {c : Nat} (h : X.length < c) (z : Int32) : (own_bs (X ++ List.replicate (c - X.length) 0)).set X.length (.int z) = own_bs ((X ++ [z]) ++ List.replicate (c - (X ++ [z]).length) 0) := by
  obtain ⟨m, hm⟩ : ∃ m, c - X.length = m + 1 := ⟨c - X.length - 1, by omega⟩
  rw [own_set1 z (by rw [List.length_append, List.length_replicate]; omega), hm, own_fill]
  congr 3
  rw [List.length_append]; simp; omega
theorem own_dp {X : List Int32} (z : Int32) : X.length + 1 = (X ++ [z]).length := by simp
theorem own_u8p {zs : List Int32} {j : Nat} {X : List Int32} (h : j < zs.length) (e : X = U (zs.take j)) (q : ¬ zs[j] < 0) : X ++ [zs[j]] = U (zs.take (j + 1)) := by
  rw [own_U_take h, ← e]; unfold u8; rw [if_neg q]
theorem own_u8n {zs : List Int32} {j : Nat} {X : List Int32} (h : j < zs.length) (e : X = U (zs.take j)) (q : zs[j] < 0) : (X ++ [i8 ((192 : Int32) ||| ((zs[j] &&& (255 : Int32)) >>> ((6 : Int32) &&& 31)))]) ++ [i8 ((128 : Int32) ||| (zs[j] &&& (63 : Int32)))] = U (zs.take (j + 1)) := by
  rw [own_U_take h, ← e]; unfold u8; rw [if_pos q]; simp
theorem own_Xle {zs : List Int32} {j : Nat} {X : List Int32} (e : X = U (zs.take j)) (h : j < zs.length) : X.length + 1 < 2 * zs.length ∧ X.length < 2 * zs.length := by
  have := (own_U_len (zs.take j)).2; rw [List.length_take] at this; rw [e]; omega
theorem own_full {zs X : List Int32} (e : X = U zs) (h : X.length = (X ++ List.replicate (2 * zs.length - X.length) (0 : Int32)).length) : X ++ List.replicate (2 * zs.length - X.length) 0 = U zs := by
  rw [List.length_append, List.length_replicate] at h
  rw [show 2 * zs.length - X.length = 0 by omega, ← e]; simp
theorem own_Wby {X : List Int32} {zs : List Int32} (e : X = U zs) (h : ∀ z ∈ zs, BY z) (m : Nat) : ∀ z ∈ X ++ List.replicate m 0, BY z := own_byA (e ▸ own_U_by h) (own_by0 _)
theorem d18_0 : decode jdk_42_method_46_code 0 = .ok (.iload_n 0, 1) := by decide +kernel
theorem d18_1 : decode jdk_42_method_46_code 1 = .ok (.iconst 1, 1) := by decide +kernel
theorem d18_2 : decode jdk_42_method_46_code 2 = .ok (.if_icmp .ne 9, 3) := by decide +kernel
theorem d18_11 : decode jdk_42_method_46_code 11 = .ok (.aload_n 1, 1) := by decide +kernel
theorem d18_12 : decode jdk_42_method_46_code 12 = .ok (.iconst 0, 1) := by decide +kernel
theorem d18_13 : decode jdk_42_method_46_code 13 = .ok (.aload_n 1, 1) := by decide +kernel
theorem d18_14 : decode jdk_42_method_46_code 14 = .ok (.arraylength, 1) := by decide +kernel
theorem d18_15 : decode jdk_42_method_46_code 15 = .ok (.invokestatic 128, 3) := by decide +kernel
theorem d18_18 : decode jdk_42_method_46_code 18 = .ok (.ifCond .ne 11, 3) := by decide +kernel
theorem d18_21 : decode jdk_42_method_46_code 21 = .ok (.aload_n 1, 1) := by decide +kernel
theorem d18_22 : decode jdk_42_method_46_code 22 = .ok (.invokevirtual 279, 3) := by decide +kernel
theorem d18_25 : decode jdk_42_method_46_code 25 = .ok (.checkcast 280, 3) := by decide +kernel
theorem d18_28 : decode jdk_42_method_46_code 28 = .ok (.areturn, 1) := by decide +kernel
theorem d18_29 : decode jdk_42_method_46_code 29 = .ok (.iconst 0, 1) := by decide +kernel
theorem d18_30 : decode jdk_42_method_46_code 30 = .ok (.istore_n 3, 1) := by decide +kernel
theorem d18_31 : decode jdk_42_method_46_code 31 = .ok (.aload_n 1, 1) := by decide +kernel
theorem d18_32 : decode jdk_42_method_46_code 32 = .ok (.arraylength, 1) := by decide +kernel
theorem d18_33 : decode jdk_42_method_46_code 33 = .ok (.invokestatic 60, 3) := by decide +kernel
theorem d18_36 : decode jdk_42_method_46_code 36 = .ok (.astore 4, 2) := by decide +kernel
theorem d18_38 : decode jdk_42_method_46_code 38 = .ok (.aload_n 1, 1) := by decide +kernel
theorem d18_39 : decode jdk_42_method_46_code 39 = .ok (.astore 5, 2) := by decide +kernel
theorem d18_41 : decode jdk_42_method_46_code 41 = .ok (.aload 5, 2) := by decide +kernel
theorem d18_43 : decode jdk_42_method_46_code 43 = .ok (.arraylength, 1) := by decide +kernel
theorem d18_44 : decode jdk_42_method_46_code 44 = .ok (.istore 6, 2) := by decide +kernel
theorem d18_46 : decode jdk_42_method_46_code 46 = .ok (.iconst 0, 1) := by decide +kernel
theorem d18_47 : decode jdk_42_method_46_code 47 = .ok (.istore 7, 2) := by decide +kernel
theorem d18_49 : decode jdk_42_method_46_code 49 = .ok (.iload 7, 2) := by decide +kernel
theorem d18_51 : decode jdk_42_method_46_code 51 = .ok (.iload 6, 2) := by decide +kernel
theorem d18_53 : decode jdk_42_method_46_code 53 = .ok (.if_icmp .ge 71, 3) := by decide +kernel
theorem d18_56 : decode jdk_42_method_46_code 56 = .ok (.aload 5, 2) := by decide +kernel
theorem d18_58 : decode jdk_42_method_46_code 58 = .ok (.iload 7, 2) := by decide +kernel
theorem d18_60 : decode jdk_42_method_46_code 60 = .ok (.baload, 1) := by decide +kernel
theorem d18_61 : decode jdk_42_method_46_code 61 = .ok (.istore 8, 2) := by decide +kernel
theorem d18_63 : decode jdk_42_method_46_code 63 = .ok (.iload 8, 2) := by decide +kernel
theorem d18_65 : decode jdk_42_method_46_code 65 = .ok (.ifCond .ge 44, 3) := by decide +kernel
theorem d18_68 : decode jdk_42_method_46_code 68 = .ok (.aload 4, 2) := by decide +kernel
theorem d18_70 : decode jdk_42_method_46_code 70 = .ok (.iload_n 3, 1) := by decide +kernel
theorem d18_71 : decode jdk_42_method_46_code 71 = .ok (.iinc 3 1, 3) := by decide +kernel
theorem d18_74 : decode jdk_42_method_46_code 74 = .ok (.sipush 192, 3) := by decide +kernel
theorem d18_77 : decode jdk_42_method_46_code 77 = .ok (.iload 8, 2) := by decide +kernel
theorem d18_79 : decode jdk_42_method_46_code 79 = .ok (.sipush 255, 3) := by decide +kernel
theorem d18_82 : decode jdk_42_method_46_code 82 = .ok (.iand, 1) := by decide +kernel
theorem d18_83 : decode jdk_42_method_46_code 83 = .ok (.bipush 6, 2) := by decide +kernel
theorem d18_85 : decode jdk_42_method_46_code 85 = .ok (.ishr, 1) := by decide +kernel
theorem d18_86 : decode jdk_42_method_46_code 86 = .ok (.ior, 1) := by decide +kernel
theorem d18_87 : decode jdk_42_method_46_code 87 = .ok (.i2b, 1) := by decide +kernel
theorem d18_88 : decode jdk_42_method_46_code 88 = .ok (.bastore, 1) := by decide +kernel
theorem d18_89 : decode jdk_42_method_46_code 89 = .ok (.aload 4, 2) := by decide +kernel
theorem d18_91 : decode jdk_42_method_46_code 91 = .ok (.iload_n 3, 1) := by decide +kernel
theorem d18_92 : decode jdk_42_method_46_code 92 = .ok (.iinc 3 1, 3) := by decide +kernel
theorem d18_95 : decode jdk_42_method_46_code 95 = .ok (.sipush 128, 3) := by decide +kernel
theorem d18_98 : decode jdk_42_method_46_code 98 = .ok (.iload 8, 2) := by decide +kernel
theorem d18_100 : decode jdk_42_method_46_code 100 = .ok (.bipush 63, 2) := by decide +kernel
theorem d18_102 : decode jdk_42_method_46_code 102 = .ok (.iand, 1) := by decide +kernel
theorem d18_103 : decode jdk_42_method_46_code 103 = .ok (.ior, 1) := by decide +kernel
theorem d18_104 : decode jdk_42_method_46_code 104 = .ok (.i2b, 1) := by decide +kernel
theorem d18_105 : decode jdk_42_method_46_code 105 = .ok (.bastore, 1) := by decide +kernel
theorem d18_106 : decode jdk_42_method_46_code 106 = .ok (.goto 12, 3) := by decide +kernel
theorem d18_109 : decode jdk_42_method_46_code 109 = .ok (.aload 4, 2) := by decide +kernel
theorem d18_111 : decode jdk_42_method_46_code 111 = .ok (.iload_n 3, 1) := by decide +kernel
theorem d18_112 : decode jdk_42_method_46_code 112 = .ok (.iinc 3 1, 3) := by decide +kernel
theorem d18_115 : decode jdk_42_method_46_code 115 = .ok (.iload 8, 2) := by decide +kernel
theorem d18_117 : decode jdk_42_method_46_code 117 = .ok (.bastore, 1) := by decide +kernel
theorem d18_118 : decode jdk_42_method_46_code 118 = .ok (.iinc 7 1, 3) := by decide +kernel
theorem d18_121 : decode jdk_42_method_46_code 121 = .ok (.goto (-72), 3) := by decide +kernel
theorem d18_124 : decode jdk_42_method_46_code 124 = .ok (.iload_n 3, 1) := by decide +kernel
theorem d18_125 : decode jdk_42_method_46_code 125 = .ok (.aload 4, 2) := by decide +kernel
theorem d18_127 : decode jdk_42_method_46_code 127 = .ok (.arraylength, 1) := by decide +kernel
theorem d18_128 : decode jdk_42_method_46_code 128 = .ok (.if_icmp .ne 6, 3) := by decide +kernel
theorem d18_131 : decode jdk_42_method_46_code 131 = .ok (.aload 4, 2) := by decide +kernel
theorem d18_133 : decode jdk_42_method_46_code 133 = .ok (.areturn, 1) := by decide +kernel
theorem d18_134 : decode jdk_42_method_46_code 134 = .ok (.aload 4, 2) := by decide +kernel
theorem d18_136 : decode jdk_42_method_46_code 136 = .ok (.iload_n 3, 1) := by decide +kernel
theorem d18_137 : decode jdk_42_method_46_code 137 = .ok (.invokestatic 102, 3) := by decide +kernel
theorem d18_140 : decode jdk_42_method_46_code 140 = .ok (.areturn, 1) := by decide +kernel
theorem ef_18 (m : MethodId) (u : Addr) : entryFrame m #[(.int (0 : Int32)), (.ref u), (.int (1 : Int32))] 9 = mkF m 0 #[.val (.int (0 : Int32)), .val (.ref u), .val (.int (1 : Int32)), .unset, .unset, .unset, .unset, .unset, .unset] [] := by first | (simp [entryFrame, mkF, argsToLocals, Value.category]; done) | rfl
def R18 : Room := ({ frames := 2, cells := 2, slots := 8, locals := 54 } : Room)
set_option maxRecDepth 65536 in
set_option maxHeartbeats 40000000 in
theorem rm18 (l : Launch) (Z : State) (a0 : Array Value) (hw : ∀ d ∈ tables_1, d.before a0 Z = true) (u : Addr) (h0 : Heap) (n0 : Nat) (hO : Old Z n0 h0) (zs : List Int32) (A_u : Arx Z h0 u .byte (own_bs zs)) (hz : ∀ z ∈ zs, BY z) (hl2 : zs.length ≤ 2) (E_u : Exa Z h0 u "[B") :
    Con l Z (⟨"java/lang/String", "encodeUTF8", "(B[BZ)[B"⟩ : MethodName) jdk_42_method_46_code 9 (some (.array .byte)) [] R18 R18.cells R18.slots #[(.int (0 : Int32)), (.ref u), (.int (1 : Int32))] h0 (fun r h L => ∃ b : Addr, r = some (.ref b) ∧ Fr n0 L ∧ Keep h0 h [] ∧ h0.size ≤ b ∧ BA Z h b (U zs)) := by
  refine Con.intro (n0 := n0) (plainFor_of_name pn_0) (fun m => ef_18 m u) hO ?_
  intro p e s m below meth cc T hs0 X0
  have loop : ∀ (r j : Nat) (Xs : List Int32) (T : State) (locs : List Loc) (h : Heap) (b : Addr) (s8 : Slot), j + r = zs.length → Xs = U (zs.take j) → (s8 = .unset ∨ ∃ w : Value, s8 = .val w ∧ w.category = 1) → St Z n0 p l e R18 s m #[(.int (0 : Int32)), (.ref u), (.int (1 : Int32))] below meth cc "java/lang/String" "encodeUTF8" jdk_42_method_46_code 9 (some (.array .byte)) T locs 1 4 h → Keep h0 h [] → h0.size ≤ b → Arx Z h u .byte (own_bs zs) → Arx Z h b .byte (own_bs (Xs ++ List.replicate (2 * zs.length - Xs.length) 0)) → Exa Z h b "[B" → n0 ≤ b → u ≠ b → Go p e below (Kq s R18.cells R18.slots (fun r h L => ∃ b : Addr, r = some (.ref b) ∧ Fr n0 L ∧ Keep h0 h [] ∧ h0.size ≤ b ∧ BA Z h b (U zs))) (T.setTop (mkF m 49 #[.val (.int (0 : Int32)), .val (.ref u), .val (.int (1 : Int32)), .val (.int (Int32.ofNat Xs.length)), .val (.ref b), .val (.ref u), .val (.int (Int32.ofNat zs.length)), .val (.int (Int32.ofNat j)), s8] [])) := by
    intro r
    induction r with
    | zero =>
      intro j Xs T locs h b s8 hj eX h8 X KK qb Au Ab Eb gb nub
      rw [List.take_of_length_le (by omega)] at eX
      have hUl := own_U_len zs
      rw [← eX] at hUl
      refine g_iload X d18_49 (pc' := 51) rfl rfl ?_
      refine g_iload X d18_51 (pc' := 53) rfl rfl ?_
      refine g_icmp_ge_t X d18_53 (pt := 124) (by decide) (by rw [show j = zs.length by omega]; exact fun q => Int32.lt_irrefl q) ?_
      refine g_iloadN X d18_124 (pc' := 125) rfl rfl ?_
      refine g_aload X d18_125 (pc' := 127) rfl rfl rfl ?_
      refine g_arraylength X (n := (Int32.ofNat (Xs ++ List.replicate (2 * zs.length - Xs.length) 0).length)) Ab (by rw [own_bs_len]) d18_127 (pc' := 128) rfl ?_
      refine g_icmp_ne X d18_128 (pt := 134) (by decide) (pc' := 131) rfl (fun hc128 => ?_) (fun hc128 => ?_)
      · have hne : ¬ Xs.length = (Xs ++ List.replicate (2 * zs.length - Xs.length) 0).length := fun q => hc128 (congrArg Int32.ofNat q)
        rw [List.length_append, List.length_replicate] at hne
        refine g_aload X d18_134 (pc' := 136) rfl rfl rfl ?_
        refine g_iloadN X d18_136 (pc' := 137) rfl rfl ?_
        refine g_callS X (y := (⟨"java/util/Arrays", "copyOf", "([BI)[B"⟩ : MethodName)) [(.ref b), (.int (Int32.ofNat Xs.length))] (hw _ m180) (hw _ m181) (hw _ m182) (hw _ m183) (hw _ m182) (rm37 l Z a0 hw b Xs.length h n0 X.old (Xs ++ List.replicate (2 * zs.length - Xs.length) 0) Ab (own_Wby eX hz _) (by rw [List.length_append, List.length_replicate]; omega) (by rw [List.length_append, List.length_replicate]; omega)) (by decide) (by decide) (by decide) (by decide) (by decide) rfl pd_6 rfl (rest := []) rfl (W := 0) rfl d18_137 (pc' := 140) rfl ?_
        rintro _ T43 h43 L43 Y43 ⟨b43, rfl, N43, K43, q43, A43x, EA43⟩
        have X43 := Y43 (X.old.keep K43 all0) N43
        have g_b43 : n0 ≤ b43 := Nat.le_trans X.sz q43
        have ne44 : u ≠ b43 := Nat.ne_of_lt (Nat.lt_of_lt_of_le Au.lt q43)
        have ne45 : b ≠ b43 := Nat.ne_of_lt (Nat.lt_of_lt_of_le Eb.lt q43)
        show Go p e below _ (State.setTop _ (mkF m 140 #[.val (.int (0 : Int32)), .val (.ref u), .val (.int (1 : Int32)), .val (.int (Int32.ofNat Xs.length)), .val (.ref b), .val (.ref u), .val (.int (Int32.ofNat zs.length)), .val (.int (Int32.ofNat j)), s8] [(.ref b43)]))
        rw [List.take_left, eX] at A43x
        exact g_retA X43 rfl rfl rfl d18_140 (by decide) (by decide) ⟨b43, rfl, X43.fr, KK.trans K43 all0, Nat.le_trans KK.1 q43, A43x, EA43⟩
      · refine g_aload X d18_131 (pc' := 133) rfl rfl rfl ?_
        have hq := (own_inj (by omega) (by rw [List.length_append, List.length_replicate]; omega)).mp hc128
        exact g_retA X rfl rfl rfl d18_133 (by decide) (by decide) ⟨b, rfl, X.fr, KK, qb, (by rw [own_full eX hq] at Ab; exact Ab), Eb⟩
    | succ r ih =>
      intro j Xs T locs h b s8 hj eX h8 X KK qb Au Ab Eb gb nub
      have hjl : j < zs.length := by omega
      have hXl := own_Xle eX hjl
      refine g_iload X d18_49 (pc' := 51) rfl rfl ?_
      refine g_iload X d18_51 (pc' := 53) rfl rfl ?_
      refine g_icmp_ge_f X d18_53 (pc' := 56) rfl ((own_ltN (by omega) (by omega)).mpr (by omega)) ?_
      refine g_aload X d18_56 (pc' := 58) rfl rfl rfl ?_
      refine g_iload X d18_58 (pc' := 60) rfl rfl ?_
      refine g_baload X (i := j) (v := (.int (zs[j]'hjl))) Au (own_small (by omega)) (own_bs_at hjl) d18_60 (pc' := 61) rfl ?_
      refine g_istore X d18_61 (pc' := 63) rfl (L' := #[.val (.int (0 : Int32)), .val (.ref u), .val (.int (1 : Int32)), .val (.int (Int32.ofNat Xs.length)), .val (.ref b), .val (.ref u), .val (.int (Int32.ofNat zs.length)), .val (.int (Int32.ofNat j)), .val (.int (zs[j]'hjl))]) (XS.store1 rfl h8 rfl) ?_
      refine g_iload X d18_63 (pc' := 65) rfl rfl ?_
      refine g_if_ge X d18_65 (pt := 109) (by decide) (pc' := 68) rfl (fun hc65 => ?_) (fun hc65 => ?_)
      · refine g_aload X d18_109 (pc' := 111) rfl rfl rfl ?_
        refine g_iloadN X d18_111 (pc' := 112) rfl rfl ?_
        refine g_iinc X d18_112 (pc' := 115) rfl rfl (L' := #[.val (.int (0 : Int32)), .val (.ref u), .val (.int (1 : Int32)), .val (.int ((Int32.ofNat Xs.length) + (1 : Int32))), .val (.ref b), .val (.ref u), .val (.int (Int32.ofNat zs.length)), .val (.int (Int32.ofNat j)), .val (.int (zs[j]'hjl))]) rfl ?_
        refine g_iload X d18_115 (pc' := 117) rfl rfl ?_
        refine g_bastore X (i := Xs.length) Ab (own_small (by omega)) (by rw [own_bs_len, List.length_append, List.length_replicate]; omega) gb d18_117 (pc' := 118) rfl (fun T46 h46 X46 W46 A46 => ?_)
        rw [own_narB (hz _ (List.getElem_mem hjl)), own_step1 hXl.2] at A46
        refine g_iinc X46 d18_118 (pc' := 121) rfl rfl (L' := #[.val (.int (0 : Int32)), .val (.ref u), .val (.int (1 : Int32)), .val (.int ((Int32.ofNat Xs.length) + (1 : Int32))), .val (.ref b), .val (.ref u), .val (.int (Int32.ofNat zs.length)), .val (.int ((Int32.ofNat j) + (1 : Int32))), .val (.int (zs[j]'hjl))]) rfl ?_
        refine g_goto X46 d18_121 (pt := 49) (by decide) ?_
        have k47 := KK.wr W46 (Or.inr qb)
        rw [own_succ, own_dp zs[j], own_succ]
        have f48 := (Au.other W46 nub)
        have f49 := (Eb.wr W46)
        exact ih (j + 1) _ _ _ _ b _ (by omega) (own_u8p hjl eX hc65) (Or.inr ⟨_, rfl, rfl⟩) X46 k47 qb f48 A46 f49 gb nub
      · refine g_aload X d18_68 (pc' := 70) rfl rfl rfl ?_
        refine g_iloadN X d18_70 (pc' := 71) rfl rfl ?_
        refine g_iinc X d18_71 (pc' := 74) rfl rfl (L' := #[.val (.int (0 : Int32)), .val (.ref u), .val (.int (1 : Int32)), .val (.int ((Int32.ofNat Xs.length) + (1 : Int32))), .val (.ref b), .val (.ref u), .val (.int (Int32.ofNat zs.length)), .val (.int (Int32.ofNat j)), .val (.int (zs[j]'hjl))]) rfl ?_
        refine g_sipush X d18_74 (pc' := 77) rfl (v := (192 : Int32)) rfl ?_
        refine g_iload X d18_77 (pc' := 79) rfl rfl ?_
        refine g_sipush X d18_79 (pc' := 82) rfl (v := (255 : Int32)) rfl ?_
        refine g_iand X d18_82 (pc' := 83) rfl ?_
        refine g_bipush X d18_83 (pc' := 85) rfl (v := (6 : Int32)) rfl ?_
        refine g_ishr X d18_85 (pc' := 86) rfl ?_
        refine g_ior X d18_86 (pc' := 87) rfl ?_
        refine g_i2b X d18_87 (pc' := 88) rfl ?_
        refine g_bastore X (i := Xs.length) Ab (own_small (by omega)) (by rw [own_bs_len, List.length_append, List.length_replicate]; omega) gb d18_88 (pc' := 89) rfl (fun T50 h50 X50 W50 A50 => ?_)
        rw [own_i8u, own_n8, own_step1 hXl.2] at A50
        refine g_aload X50 d18_89 (pc' := 91) rfl rfl rfl ?_
        refine g_iloadN X50 d18_91 (pc' := 92) rfl rfl ?_
        refine g_iinc X50 d18_92 (pc' := 95) rfl rfl (L' := #[.val (.int (0 : Int32)), .val (.ref u), .val (.int (1 : Int32)), .val (.int (((Int32.ofNat Xs.length) + (1 : Int32)) + (1 : Int32))), .val (.ref b), .val (.ref u), .val (.int (Int32.ofNat zs.length)), .val (.int (Int32.ofNat j)), .val (.int (zs[j]'hjl))]) rfl ?_
        refine g_sipush X50 d18_95 (pc' := 98) rfl (v := (128 : Int32)) rfl ?_
        refine g_iload X50 d18_98 (pc' := 100) rfl rfl ?_
        refine g_bipush X50 d18_100 (pc' := 102) rfl (v := (63 : Int32)) rfl ?_
        refine g_iand X50 d18_102 (pc' := 103) rfl ?_
        refine g_ior X50 d18_103 (pc' := 104) rfl ?_
        refine g_i2b X50 d18_104 (pc' := 105) rfl ?_
        refine g_bastore X50 (i := (Xs ++ [i8 ((192 : Int32) ||| ((zs[j] &&& (255 : Int32)) >>> ((6 : Int32) &&& 31)))]).length) A50 (by rw [own_succ, own_dp]; exact own_small (by rw [← own_dp]; omega)) (by simp only [own_bs_len, List.length_append, List.length_replicate, List.length_cons, List.length_nil]; omega) gb d18_105 (pc' := 106) rfl (fun T51 h51 X51 W51 A51 => ?_)
        rw [own_i8u, own_n8, own_step1 (by rw [← own_dp]; exact hXl.1)] at A51
        refine g_goto X51 d18_106 (pt := 118) (by decide) ?_
        refine g_iinc X51 d18_118 (pc' := 121) rfl rfl (L' := #[.val (.int (0 : Int32)), .val (.ref u), .val (.int (1 : Int32)), .val (.int (((Int32.ofNat Xs.length) + (1 : Int32)) + (1 : Int32))), .val (.ref b), .val (.ref u), .val (.int (Int32.ofNat zs.length)), .val (.int ((Int32.ofNat j) + (1 : Int32))), .val (.int (zs[j]'hjl))]) rfl ?_
        refine g_goto X51 d18_121 (pt := 49) (by decide) ?_
        have k52 := KK.wr W50 (Or.inr qb)
        have k53 := k52.wr W51 (Or.inr qb)
        rw [own_succ, own_dp (i8 ((192 : Int32) ||| ((zs[j] &&& (255 : Int32)) >>> ((6 : Int32) &&& 31)))), own_succ, own_dp (i8 ((128 : Int32) ||| (zs[j] &&& (63 : Int32)))), own_succ]
        have f54 := ((Au.other W50 nub).other W51 nub)
        have f55 := ((Eb.wr W50).wr W51)
        exact ih (j + 1) _ _ _ _ b _ (by omega) (own_u8n hjl eX hc65) (Or.inr ⟨_, rfl, rfl⟩) X51 k53 qb f54 A51 f55 gb nub
  refine g_iloadN X0 d18_0 (pc' := 1) rfl rfl ?_
  refine g_iconst X0 d18_1 (pc' := 2) rfl (v := (1 : Int32)) rfl ?_
  refine g_icmp_ne_t X0 d18_2 (pt := 11) (by decide) (by decide) ?_
  refine g_aloadN X0 d18_11 (pc' := 12) rfl rfl rfl ?_
  refine g_iconst X0 d18_12 (pc' := 13) rfl (v := (0 : Int32)) rfl ?_
  refine g_aloadN X0 d18_13 (pc' := 14) rfl rfl rfl ?_
  refine g_arraylength X0 (n := (Int32.ofNat zs.length)) A_u (by rw [own_bs_len]) d18_14 (pc' := 15) rfl ?_
  refine g_callS X0 (y := (⟨"java/lang/StringCoding", "hasNegatives", "([BII)Z"⟩ : MethodName)) [(.ref u), (.int (0 : Int32)), (.int (Int32.ofNat zs.length))] (hw _ m106) (hw _ m107) (hw _ m108) (hw _ m109) (hw _ m108) (rm19 l Z a0 hw u zs h0 n0 X0.old A_u hl2) (by decide) (by decide) (by decide) (by decide) (by decide) rfl pd_7 rfl (rest := []) rfl (W := 0) rfl d18_15 (pc' := 18) rfl ?_
  rintro _ T56 _ _ Y56 ⟨z56, rfl, r56, rfl, rfl⟩
  have X56 := Y56 X0.old (Fr.nil _)
  show Go p e below _ (State.setTop _ (mkF m 18 #[.val (.int (0 : Int32)), .val (.ref u), .val (.int (1 : Int32)), .unset, .unset, .unset, .unset, .unset, .unset] [(.int z56)]))
  refine g_if_ne X56 d18_18 (pt := 29) (by decide) (pc' := 21) rfl (fun hc18 => ?_) (fun hc18 => ?_)
  · refine g_iconst X56 d18_29 (pc' := 30) rfl (v := (0 : Int32)) rfl ?_
    refine g_istoreN X56 d18_30 (pc' := 31) rfl (L' := #[.val (.int (0 : Int32)), .val (.ref u), .val (.int (1 : Int32)), .val (.int (0 : Int32)), .unset, .unset, .unset, .unset, .unset]) rfl ?_
    refine g_aloadN X56 d18_31 (pc' := 32) rfl rfl rfl ?_
    refine g_arraylength X56 (n := (Int32.ofNat zs.length)) A_u (by rw [own_bs_len]) d18_32 (pc' := 33) rfl ?_
    refine g_callS X56 (y := (⟨"java/lang/StringUTF16", "newBytesFor", "(I)[B"⟩ : MethodName)) [(.int (Int32.ofNat zs.length))] (hw _ m173) (hw _ m174) (hw _ m150) (hw _ m175) (hw _ m150) (rm35 l Z a0 hw zs.length h0 n0 X56.old hl2) (by decide) (by decide) (by decide) (by decide) (by decide) rfl pd_8 rfl (rest := []) rfl (W := 0) rfl d18_33 (pc' := 36) rfl ?_
    rintro _ T57 h57 L57 Y57 ⟨b57, rfl, N57, K57, q57, A57x, EA57⟩
    have X57 := Y57 (X56.old.keep K57 all0) N57
    have g_b57 : n0 ≤ b57 := Nat.le_trans X56.sz q57
    have ne58 : u ≠ b57 := Nat.ne_of_lt (Nat.lt_of_lt_of_le E_u.lt q57)
    show Go p e below _ (State.setTop _ (mkF m 36 #[.val (.int (0 : Int32)), .val (.ref u), .val (.int (1 : Int32)), .val (.int (0 : Int32)), .unset, .unset, .unset, .unset, .unset] [(.ref b57)]))
    refine g_astore X57 d18_36 (pc' := 38) rfl rfl (L' := #[.val (.int (0 : Int32)), .val (.ref u), .val (.int (1 : Int32)), .val (.int (0 : Int32)), .val (.ref b57), .unset, .unset, .unset, .unset]) rfl ?_
    refine g_aloadN X57 d18_38 (pc' := 39) rfl rfl rfl ?_
    refine g_astore X57 d18_39 (pc' := 41) rfl rfl (L' := #[.val (.int (0 : Int32)), .val (.ref u), .val (.int (1 : Int32)), .val (.int (0 : Int32)), .val (.ref b57), .val (.ref u), .unset, .unset, .unset]) rfl ?_
    refine g_aload X57 d18_41 (pc' := 43) rfl rfl rfl ?_
    have f59 := (A_u.keep K57 nm0)
    refine g_arraylength X57 (n := (Int32.ofNat zs.length)) f59 (by rw [own_bs_len]) d18_43 (pc' := 44) rfl ?_
    refine g_istore X57 d18_44 (pc' := 46) rfl (L' := #[.val (.int (0 : Int32)), .val (.ref u), .val (.int (1 : Int32)), .val (.int (0 : Int32)), .val (.ref b57), .val (.ref u), .val (.int (Int32.ofNat zs.length)), .unset, .unset]) rfl ?_
    refine g_iconst X57 d18_46 (pc' := 47) rfl (v := (0 : Int32)) rfl ?_
    refine g_istore X57 d18_47 (pc' := 49) rfl (L' := #[.val (.int (0 : Int32)), .val (.ref u), .val (.int (1 : Int32)), .val (.int (0 : Int32)), .val (.ref b57), .val (.ref u), .val (.int (Int32.ofNat zs.length)), .val (.int (0 : Int32)), .unset]) rfl ?_
    exact loop zs.length 0 [] _ _ _ b57 _ (by omega) rfl (Or.inl rfl) X57 K57 q57 f59 A57x EA57 g_b57 ne58
  · refine g_aloadN X56 d18_21 (pc' := 22) rfl rfl rfl ?_
    refine g_clone X56 (cap := 2) (W := 0) (ad := "[B") (hw _ m113) (hw _ m114) (hw _ m118) (hw _ m116) (hw _ m117) (hw _ m119) A_u E_u (own_fb hz) (by rw [own_bs_len]; exact hl2) rfl rfl (by decide) (by decide) d18_22 (pc' := 25) rfl (by decide) (by decide) (fun T60 h60 b60 X60 g60 E60 A60 EA60 l60 => ?_)
    have ne61 : u ≠ b60 := ne_new A_u.lt g60
    refine g_cast X60 (hw _ m120) (Ins.self EA60) d18_25 (pc' := 28) rfl (fun T62 X62 => ?_)
    have k63 := (Keep.refl h0 []).ext E60
    have hp : ∀ z ∈ zs, ¬ z < 0 := r56.elim (fun q => q.2) (fun q => absurd (q.1.symm.trans hc18) (by decide))
    exact g_retA X62 rfl rfl rfl d18_28 (by decide) (by decide) ⟨b60, rfl, X62.fr, k63, (Nat.le_trans (Keep.refl h0 []).1 (Nat.le_of_eq g60.symm)), (by rw [own_U_pos hp]; exact A60), EA60⟩

theorem d17_0 : decode jdk_42_method_18_code 0 = .ok (.aload_n 0, 1) := by decide +kernel
theorem d17_1 : decode jdk_42_method_18_code 1 = .ok (.getstatic 86, 3) := by decide +kernel
theorem d17_4 : decode jdk_42_method_18_code 4 = .ok (.if_acmp .ne 10, 3) := by decide +kernel
theorem d17_7 : decode jdk_42_method_18_code 7 = .ok (.iload_n 1, 1) := by decide +kernel
theorem d17_8 : decode jdk_42_method_18_code 8 = .ok (.aload_n 2, 1) := by decide +kernel
theorem d17_9 : decode jdk_42_method_18_code 9 = .ok (.iconst 1, 1) := by decide +kernel
theorem d17_10 : decode jdk_42_method_18_code 10 = .ok (.invokestatic 252, 3) := by decide +kernel
theorem d17_13 : decode jdk_42_method_18_code 13 = .ok (.areturn, 1) := by decide +kernel
theorem ef_17 (m : MethodId) (ci : Addr) (u : Addr) : entryFrame m #[(.ref ci), (.int (0 : Int32)), (.ref u)] 3 = mkF m 0 #[.val (.ref ci), .val (.int (0 : Int32)), .val (.ref u)] [] := by first | (simp [entryFrame, mkF, argsToLocals, Value.category]; done) | rfl
def R17 : Room := ({ frames := 3, cells := 2, slots := 8, locals := 74 } : Room)
set_option maxRecDepth 65536 in
set_option maxHeartbeats 40000000 in
theorem rm17 (l : Launch) (Z : State) (a0 : Array Value) (hw : ∀ d ∈ tables_1, d.before a0 Z = true) (ci : Addr) (u : Addr) (h0 : Heap) (n0 : Nat) (hO : Old Z n0 h0) (zs : List Int32) (A_u : Arx Z h0 u .byte (own_bs zs)) (hz : ∀ z ∈ zs, BY z) (hl2 : zs.length ≤ 2) (E_u : Exa Z h0 u "[B") (OI : Sta Z Z.heap "sun/nio/cs/UTF_8" "INSTANCE" "Lsun/nio/cs/UTF_8;" (.ref ci)) (OC : Sta Z Z.heap "java/nio/charset/StandardCharsets" "UTF_8" "Ljava/nio/charset/Charset;" (.ref ci)) :
    Con l Z (⟨"java/lang/String", "encode", "(Ljava/nio/charset/Charset;B[B)[B"⟩ : MethodName) jdk_42_method_18_code 3 (some (.array .byte)) [] R17 R17.cells R17.slots #[(.ref ci), (.int (0 : Int32)), (.ref u)] h0 (fun r h L => ∃ b : Addr, r = some (.ref b) ∧ Fr n0 L ∧ Keep h0 h [] ∧ h0.size ≤ b ∧ BA Z h b (U zs)) := by
  refine Con.intro (n0 := n0) (plainFor_of_name pn_0) (fun m => ef_17 m ci u) hO ?_
  intro p e s m below meth cc T hs0 X0
  refine g_aloadN X0 d17_0 (pc' := 1) rfl rfl rfl ?_
  refine g_getS X0 (hw _ m101) (OI.ext X0.old.2) d17_1 (pc' := 4) rfl (fun T64 X64 => ?_)
  refine g_acmp X64 (same := true) rfl rfl d17_4 (pt := 14) (by decide) (decide_eq_true rfl) (pc' := 7) rfl ?_
  refine g_iloadN X64 d17_7 (pc' := 8) rfl rfl ?_
  refine g_aloadN X64 d17_8 (pc' := 9) rfl rfl rfl ?_
  refine g_iconst X64 d17_9 (pc' := 10) rfl (v := (1 : Int32)) rfl ?_
  refine g_callS X64 (y := (⟨"java/lang/String", "encodeUTF8", "(B[BZ)[B"⟩ : MethodName)) [(.int (0 : Int32)), (.ref u), (.int (1 : Int32))] (hw _ m103) (hw _ m104) (hw _ m10) (hw _ m105) (hw _ m10) (rm18 l Z a0 hw u h0 n0 X64.old zs A_u hz hl2 E_u) (by decide) (by decide) (by decide) (by decide) (by decide) rfl pd_9 rfl (rest := []) rfl (W := 0) rfl d17_10 (pc' := 13) rfl ?_
  rintro _ T65 h65 L65 Y65 ⟨b65, rfl, N65, K65, q65, A65x, EA65⟩
  have X65 := Y65 (X64.old.keep K65 all0) N65
  have g_b65 : n0 ≤ b65 := Nat.le_trans X64.sz q65
  have ne66 : u ≠ b65 := Nat.ne_of_lt (Nat.lt_of_lt_of_le E_u.lt q65)
  show Go p e below _ (State.setTop _ (mkF m 13 #[.val (.ref ci), .val (.int (0 : Int32)), .val (.ref u)] [(.ref b65)]))
  have k67 := (Keep.refl h0 []).trans K65 (fun x hx => by simp at hx)
  exact g_retA X65 rfl rfl rfl d17_13 (by decide) (by decide) ⟨b65, rfl, X65.fr, k67, q65, A65x, EA65⟩

theorem d15_0 : decode jdk_42_method_64_code 0 = .ok (.aload_n 1, 1) := by decide +kernel
theorem d15_1 : decode jdk_42_method_64_code 1 = .ok (.ifnonnull 11, 3) := by decide +kernel
theorem d15_12 : decode jdk_42_method_64_code 12 = .ok (.aload_n 1, 1) := by decide +kernel
theorem d15_13 : decode jdk_42_method_64_code 13 = .ok (.aload_n 0, 1) := by decide +kernel
theorem d15_14 : decode jdk_42_method_64_code 14 = .ok (.invokevirtual 335, 3) := by decide +kernel
theorem d15_17 : decode jdk_42_method_64_code 17 = .ok (.aload_n 0, 1) := by decide +kernel
theorem d15_18 : decode jdk_42_method_64_code 18 = .ok (.getfield 9, 3) := by decide +kernel
theorem d15_21 : decode jdk_42_method_64_code 21 = .ok (.invokestatic 535, 3) := by decide +kernel
theorem d15_24 : decode jdk_42_method_64_code 24 = .ok (.areturn, 1) := by decide +kernel
theorem ef_15 (m : MethodId) (a : Addr) (ci : Addr) : entryFrame m #[(.ref a), (.ref ci)] 2 = mkF m 0 #[.val (.ref a), .val (.ref ci)] [] := by first | (simp [entryFrame, mkF, argsToLocals, Value.category]; done) | rfl
def R15 : Room := ({ frames := 4, cells := 2, slots := 8, locals := 88 } : Room)
set_option maxRecDepth 65536 in
set_option maxHeartbeats 40000000 in
theorem rm15 (l : Launch) (Z : State) (a0 : Array Value) (hw : ∀ d ∈ tables_1, d.before a0 Z = true) (a : Addr) (ci : Addr) (h0 : Heap) (n0 : Nat) (hO : Old Z n0 h0) (u : Addr) (zs : List Int32) (HS : SS Z h0 a u zs) (hz : ∀ z ∈ zs, BY z) (hl2 : zs.length ≤ 2) (E_u : Exa Z h0 u "[B") (OI : Sta Z Z.heap "sun/nio/cs/UTF_8" "INSTANCE" "Lsun/nio/cs/UTF_8;" (.ref ci)) (OC : Sta Z Z.heap "java/nio/charset/StandardCharsets" "UTF_8" "Ljava/nio/charset/Charset;" (.ref ci)) (G1 : Int32) (O2 : Sta Z Z.heap "java/lang/String" "COMPACT_STRINGS" "Z" (.int G1)) (P5 : ¬ G1 = (0 : Int32)) :
    Con l Z (⟨"java/lang/String", "getBytes", "(Ljava/nio/charset/Charset;)[B"⟩ : MethodName) jdk_42_method_64_code 2 (some (.array .byte)) [] R15 R15.cells R15.slots #[(.ref a), (.ref ci)] h0 (fun r h L => ∃ b : Addr, r = some (.ref b) ∧ Fr n0 L ∧ Keep h0 h [] ∧ h0.size ≤ b ∧ BA Z h b (U zs)) := by
  refine Con.intro (n0 := n0) (plainFor_of_name pn_0) (fun m => ef_15 m a ci) hO ?_
  intro p e s m below meth cc T hs0 X0
  obtain ⟨E_a, Fc_a, Fv_a, A_u⟩ := id HS
  refine g_aloadN X0 d15_0 (pc' := 1) rfl rfl rfl ?_
  refine g_ifnonnull_t X0 d15_1 (pt := 12) (by decide) ?_
  refine g_aloadN X0 d15_12 (pc' := 13) rfl rfl rfl ?_
  refine g_aloadN X0 d15_13 (pc' := 14) rfl rfl rfl ?_
  refine g_callV X0 (y := (⟨"java/lang/String", "coder", "()B"⟩ : MethodName)) (z := (⟨"java/lang/String", "coder", "()B"⟩ : MethodName)) (a := a) [] (hw _ m93) (hw _ m94) (notFace_of_selects (args := #[]) (mvT X0.hZ (hw _ m96))) (hw _ m96) (hw _ m95) E_a (hw _ m97) (hw _ m10) (rm16 l Z a0 hw a h0 n0 X0.old u zs ⟨E_a, Fc_a, Fv_a, A_u⟩ G1 O2 P5) (by decide) (by decide) (by decide) (by decide) (by decide) rfl pd_10 rfl (rest := [(.ref ci)]) rfl (W := 1) rfl d15_14 (pc' := 17) rfl ?_
  rintro _ T68 _ _ Y68 ⟨rfl, rfl, rfl⟩
  have X68 := Y68 X0.old (Fr.nil _)
  show Go p e below _ (State.setTop _ (mkF m 17 #[.val (.ref a), .val (.ref ci)] [(.int (0 : Int32)), (.ref ci)]))
  refine g_aloadN X68 d15_17 (pc' := 18) rfl rfl rfl ?_
  refine g_getF X68 (host := "") (Or.inl (hw _ m28)) Via.refl Fv_a d15_18 (pc' := 21) rfl (fun T69 X69 => ?_)
  refine g_callS X69 (y := (⟨"java/lang/String", "encode", "(Ljava/nio/charset/Charset;B[B)[B"⟩ : MethodName)) [(.ref ci), (.int (0 : Int32)), (.ref u)] (hw _ m98) (hw _ m99) (hw _ m10) (hw _ m100) (hw _ m10) (rm17 l Z a0 hw ci u h0 n0 X69.old zs A_u hz hl2 E_u OI OC) (by decide) (by decide) (by decide) (by decide) (by decide) rfl pd_11 rfl (rest := []) rfl (W := 0) rfl d15_21 (pc' := 24) rfl ?_
  rintro _ T70 h70 L70 Y70 ⟨b70, rfl, N70, K70, q70, A70x, EA70⟩
  have X70 := Y70 (X69.old.keep K70 all0) N70
  have g_b70 : n0 ≤ b70 := Nat.le_trans X69.sz q70
  have ne71 : a ≠ b70 := Nat.ne_of_lt (Nat.lt_of_lt_of_le Fv_a.lt q70)
  have ne72 : u ≠ b70 := Nat.ne_of_lt (Nat.lt_of_lt_of_le E_u.lt q70)
  show Go p e below _ (State.setTop _ (mkF m 24 #[.val (.ref a), .val (.ref ci)] [(.ref b70)]))
  have k73 := (Keep.refl h0 []).trans K70 (fun x hx => by simp at hx)
  exact g_retA X70 rfl rfl rfl d15_24 (by decide) (by decide) ⟨b70, rfl, X70.fr, k73, q70, A70x, EA70⟩

theorem d28_0 : decode jdk_52_method_21_code 0 = .ok (.iconst 0, 1) := by decide +kernel
theorem d28_1 : decode jdk_52_method_21_code 1 = .ok (.istore 5, 2) := by decide +kernel
theorem d28_3 : decode jdk_52_method_21_code 3 = .ok (.iload 5, 2) := by decide +kernel
theorem d28_5 : decode jdk_52_method_21_code 5 = .ok (.iload 4, 2) := by decide +kernel
theorem d28_7 : decode jdk_52_method_21_code 7 = .ok (.if_icmp .ge 37, 3) := by decide +kernel
theorem d28_10 : decode jdk_52_method_21_code 10 = .ok (.aload_n 0, 1) := by decide +kernel
theorem d28_11 : decode jdk_52_method_21_code 11 = .ok (.iload_n 1, 1) := by decide +kernel
theorem d28_12 : decode jdk_52_method_21_code 12 = .ok (.caload, 1) := by decide +kernel
theorem d28_13 : decode jdk_52_method_21_code 13 = .ok (.istore 6, 2) := by decide +kernel
theorem d28_15 : decode jdk_52_method_21_code 15 = .ok (.iload 6, 2) := by decide +kernel
theorem d28_17 : decode jdk_52_method_21_code 17 = .ok (.sipush 255, 3) := by decide +kernel
theorem d28_20 : decode jdk_52_method_21_code 20 = .ok (.if_icmp .le 6, 3) := by decide +kernel
theorem d28_26 : decode jdk_52_method_21_code 26 = .ok (.aload_n 2, 1) := by decide +kernel
theorem d28_27 : decode jdk_52_method_21_code 27 = .ok (.iload_n 3, 1) := by decide +kernel
theorem d28_28 : decode jdk_52_method_21_code 28 = .ok (.iload 6, 2) := by decide +kernel
theorem d28_30 : decode jdk_52_method_21_code 30 = .ok (.i2b, 1) := by decide +kernel
theorem d28_31 : decode jdk_52_method_21_code 31 = .ok (.bastore, 1) := by decide +kernel
theorem d28_32 : decode jdk_52_method_21_code 32 = .ok (.iinc 1 1, 3) := by decide +kernel
theorem d28_35 : decode jdk_52_method_21_code 35 = .ok (.iinc 3 1, 3) := by decide +kernel
theorem d28_38 : decode jdk_52_method_21_code 38 = .ok (.iinc 5 1, 3) := by decide +kernel
theorem d28_41 : decode jdk_52_method_21_code 41 = .ok (.goto (-38), 3) := by decide +kernel
theorem d28_44 : decode jdk_52_method_21_code 44 = .ok (.iload 4, 2) := by decide +kernel
theorem d28_46 : decode jdk_52_method_21_code 46 = .ok (.ireturn, 1) := by decide +kernel
theorem ef_28 (m : MethodId) (c' : Addr) (b : Addr) : entryFrame m #[(.ref c'), (.int (0 : Int32)), (.ref b), (.int (0 : Int32)), (.int (2 : Int32))] 7 = mkF m 0 #[.val (.ref c'), .val (.int (0 : Int32)), .val (.ref b), .val (.int (0 : Int32)), .val (.int (2 : Int32)), .unset, .unset] [] := by first | (simp [entryFrame, mkF, argsToLocals, Value.category]; done) | rfl
def R28 : Room := ({ frames := 0, cells := 0, slots := 0, locals := 0 } : Room)
set_option maxRecDepth 65536 in
set_option maxHeartbeats 40000000 in
theorem rm28 (l : Launch) (Z : State) (a0 : Array Value) (hw : ∀ d ∈ tables_1, d.before a0 Z = true) (c' : Addr) (b : Addr) (h0 : Heap) (n0 : Nat) (hO : Old Z n0 h0) (c0 c1 : Int32) (h0_ : ¬ (255 : Int32) < c0) (h1_ : ¬ (255 : Int32) < c1) (A_c : Arx Z h0 c' .char [(.int c0), (.int c1)]) (A_b : Arx Z h0 b .byte [(.int (0 : Int32)), (.int (0 : Int32))]) (g_b : n0 ≤ b) (n_c_b : c' ≠ b) :
    Con l Z (⟨"java/lang/StringUTF16", "compress", "([CI[BII)I"⟩ : MethodName) jdk_52_method_21_code 7 (some .int) [] R28 R28.cells R28.slots #[(.ref c'), (.int (0 : Int32)), (.ref b), (.int (0 : Int32)), (.int (2 : Int32))] h0 (fun r h L => r = some (.int (2 : Int32)) ∧ Fr n0 L ∧ Keep h0 h [b] ∧ Arx Z h b .byte (own_bs [i8 c0, i8 c1])) := by
  refine Con.intro (n0 := n0) (plainFor_of_name pn_3) (fun m => ef_28 m c' b) hO ?_
  intro p e s m below meth cc T hs0 X0
  refine g_iconst X0 d28_0 (pc' := 1) rfl (v := (0 : Int32)) rfl ?_
  refine g_istore X0 d28_1 (pc' := 3) rfl (L' := #[.val (.ref c'), .val (.int (0 : Int32)), .val (.ref b), .val (.int (0 : Int32)), .val (.int (2 : Int32)), .val (.int (0 : Int32)), .unset]) rfl ?_
  refine g_iload X0 d28_3 (pc' := 5) rfl rfl ?_
  refine g_iload X0 d28_5 (pc' := 7) rfl rfl ?_
  refine g_icmp_ge_f X0 d28_7 (pc' := 10) rfl (by decide) ?_
  refine g_aloadN X0 d28_10 (pc' := 11) rfl rfl rfl ?_
  refine g_iloadN X0 d28_11 (pc' := 12) rfl rfl ?_
  refine g_caload X0 (i := 0) (v := (.int c0)) A_c (by decide) rfl d28_12 (pc' := 13) rfl ?_
  refine g_istore X0 d28_13 (pc' := 15) rfl (L' := #[.val (.ref c'), .val (.int (0 : Int32)), .val (.ref b), .val (.int (0 : Int32)), .val (.int (2 : Int32)), .val (.int (0 : Int32)), .val (.int c0)]) rfl ?_
  refine g_iload X0 d28_15 (pc' := 17) rfl rfl ?_
  refine g_sipush X0 d28_17 (pc' := 20) rfl (v := (255 : Int32)) rfl ?_
  refine g_icmp_le_t X0 d28_20 (pt := 26) (by decide) h0_ ?_
  refine g_aloadN X0 d28_26 (pc' := 27) rfl rfl rfl ?_
  refine g_iloadN X0 d28_27 (pc' := 28) rfl rfl ?_
  refine g_iload X0 d28_28 (pc' := 30) rfl rfl ?_
  refine g_i2b X0 d28_30 (pc' := 31) rfl ?_
  refine g_bastore X0 (i := 0) A_b (by decide) (by simp) g_b d28_31 (pc' := 32) rfl (fun T74 h74 X74 W74 A74 => ?_)
  have A74 : Arx Z h74 b .byte [(.int (nar .byte (c0.toInt8.toInt32))), (.int (0 : Int32))] := A74
  refine g_iinc X74 d28_32 (pc' := 35) rfl rfl (L' := #[.val (.ref c'), .val (.int (1 : Int32)), .val (.ref b), .val (.int (0 : Int32)), .val (.int (2 : Int32)), .val (.int (0 : Int32)), .val (.int c0)]) rfl ?_
  refine g_iinc X74 d28_35 (pc' := 38) rfl rfl (L' := #[.val (.ref c'), .val (.int (1 : Int32)), .val (.ref b), .val (.int (1 : Int32)), .val (.int (2 : Int32)), .val (.int (0 : Int32)), .val (.int c0)]) rfl ?_
  refine g_iinc X74 d28_38 (pc' := 41) rfl rfl (L' := #[.val (.ref c'), .val (.int (1 : Int32)), .val (.ref b), .val (.int (1 : Int32)), .val (.int (2 : Int32)), .val (.int (1 : Int32)), .val (.int c0)]) rfl ?_
  refine g_goto X74 d28_41 (pt := 3) (by decide) ?_
  refine g_iload X74 d28_3 (pc' := 5) rfl rfl ?_
  refine g_iload X74 d28_5 (pc' := 7) rfl rfl ?_
  refine g_icmp_ge_f X74 d28_7 (pc' := 10) rfl (by decide) ?_
  refine g_aloadN X74 d28_10 (pc' := 11) rfl rfl rfl ?_
  refine g_iloadN X74 d28_11 (pc' := 12) rfl rfl ?_
  have f75 := (A_c.other W74 n_c_b)
  refine g_caload X74 (i := 1) (v := (.int c1)) f75 (by decide) rfl d28_12 (pc' := 13) rfl ?_
  refine g_istore X74 d28_13 (pc' := 15) rfl (L' := #[.val (.ref c'), .val (.int (1 : Int32)), .val (.ref b), .val (.int (1 : Int32)), .val (.int (2 : Int32)), .val (.int (1 : Int32)), .val (.int c1)]) rfl ?_
  refine g_iload X74 d28_15 (pc' := 17) rfl rfl ?_
  refine g_sipush X74 d28_17 (pc' := 20) rfl (v := (255 : Int32)) rfl ?_
  refine g_icmp_le_t X74 d28_20 (pt := 26) (by decide) h1_ ?_
  refine g_aloadN X74 d28_26 (pc' := 27) rfl rfl rfl ?_
  refine g_iloadN X74 d28_27 (pc' := 28) rfl rfl ?_
  refine g_iload X74 d28_28 (pc' := 30) rfl rfl ?_
  refine g_i2b X74 d28_30 (pc' := 31) rfl ?_
  refine g_bastore X74 (i := 1) A74 (by decide) (by simp) g_b d28_31 (pc' := 32) rfl (fun T76 h76 X76 W76 A76 => ?_)
  have A76 : Arx Z h76 b .byte [(.int (nar .byte (c0.toInt8.toInt32))), (.int (nar .byte (c1.toInt8.toInt32)))] := A76
  refine g_iinc X76 d28_32 (pc' := 35) rfl rfl (L' := #[.val (.ref c'), .val (.int (2 : Int32)), .val (.ref b), .val (.int (1 : Int32)), .val (.int (2 : Int32)), .val (.int (1 : Int32)), .val (.int c1)]) rfl ?_
  refine g_iinc X76 d28_35 (pc' := 38) rfl rfl (L' := #[.val (.ref c'), .val (.int (2 : Int32)), .val (.ref b), .val (.int (2 : Int32)), .val (.int (2 : Int32)), .val (.int (1 : Int32)), .val (.int c1)]) rfl ?_
  refine g_iinc X76 d28_38 (pc' := 41) rfl rfl (L' := #[.val (.ref c'), .val (.int (2 : Int32)), .val (.ref b), .val (.int (2 : Int32)), .val (.int (2 : Int32)), .val (.int (2 : Int32)), .val (.int c1)]) rfl ?_
  refine g_goto X76 d28_41 (pt := 3) (by decide) ?_
  refine g_iload X76 d28_3 (pc' := 5) rfl rfl ?_
  refine g_iload X76 d28_5 (pc' := 7) rfl rfl ?_
  refine g_icmp_ge_t X76 d28_7 (pt := 44) (by decide) (by decide) ?_
  refine g_iload X76 d28_44 (pc' := 46) rfl rfl ?_
  have k77 := (Keep.refl h0 [b]).wr W74 (Or.inl (by simp))
  have k78 := k77.wr W76 (Or.inl (by simp))
  have q0 := own_n8 c0; have q1 := own_n8 c1
  unfold i8 at q0 q1
  rw [q0, q1] at A76
  exact g_retI X76 rfl d28_46 (by decide) (by decide) ⟨rfl, X76.fr, k78, A76⟩

theorem d27_0 : decode jdk_52_method_16_code 0 = .ok (.iload_n 2, 1) := by decide +kernel
theorem d27_1 : decode jdk_52_method_16_code 1 = .ok (.newarray .byte, 2) := by decide +kernel
theorem d27_3 : decode jdk_52_method_16_code 3 = .ok (.astore_n 3, 1) := by decide +kernel
theorem d27_4 : decode jdk_52_method_16_code 4 = .ok (.aload_n 0, 1) := by decide +kernel
theorem d27_5 : decode jdk_52_method_16_code 5 = .ok (.iload_n 1, 1) := by decide +kernel
theorem d27_6 : decode jdk_52_method_16_code 6 = .ok (.aload_n 3, 1) := by decide +kernel
theorem d27_7 : decode jdk_52_method_16_code 7 = .ok (.iconst 0, 1) := by decide +kernel
theorem d27_8 : decode jdk_52_method_16_code 8 = .ok (.iload_n 2, 1) := by decide +kernel
theorem d27_9 : decode jdk_52_method_16_code 9 = .ok (.invokestatic 115, 3) := by decide +kernel
theorem d27_12 : decode jdk_52_method_16_code 12 = .ok (.istore 4, 2) := by decide +kernel
theorem d27_14 : decode jdk_52_method_16_code 14 = .ok (.iload 4, 2) := by decide +kernel
theorem d27_16 : decode jdk_52_method_16_code 16 = .ok (.iload_n 2, 1) := by decide +kernel
theorem d27_17 : decode jdk_52_method_16_code 17 = .ok (.if_icmp .eq 40, 3) := by decide +kernel
theorem d27_57 : decode jdk_52_method_16_code 57 = .ok (.aload_n 3, 1) := by decide +kernel
theorem d27_58 : decode jdk_52_method_16_code 58 = .ok (.areturn, 1) := by decide +kernel
theorem ef_27 (m : MethodId) (c' : Addr) : entryFrame m #[(.ref c'), (.int (0 : Int32)), (.int (2 : Int32))] 6 = mkF m 0 #[.val (.ref c'), .val (.int (0 : Int32)), .val (.int (2 : Int32)), .unset, .unset, .unset] [] := by first | (simp [entryFrame, mkF, argsToLocals, Value.category]; done) | rfl
def R27 : Room := ({ frames := 1, cells := 1, slots := 2, locals := 18 } : Room)
set_option maxRecDepth 65536 in
set_option maxHeartbeats 40000000 in
theorem rm27 (l : Launch) (Z : State) (a0 : Array Value) (hw : ∀ d ∈ tables_1, d.before a0 Z = true) (c' : Addr) (h0 : Heap) (n0 : Nat) (hO : Old Z n0 h0) (c0 c1 : Int32) (h0_ : ¬ (255 : Int32) < c0) (h1_ : ¬ (255 : Int32) < c1) (A_c : Arx Z h0 c' .char [(.int c0), (.int c1)]) :
    Con l Z (⟨"java/lang/StringUTF16", "compress", "([CII)[B"⟩ : MethodName) jdk_52_method_16_code 6 (some (.array .byte)) [] R27 R27.cells R27.slots #[(.ref c'), (.int (0 : Int32)), (.int (2 : Int32))] h0 (fun r h L => ∃ b : Addr, r = some (.ref b) ∧ Fr n0 L ∧ Keep h0 h [] ∧ h0.size ≤ b ∧ BA Z h b [i8 c0, i8 c1]) := by
  refine Con.intro (n0 := n0) (plainFor_of_name pn_3) (fun m => ef_27 m c') hO ?_
  intro p e s m below meth cc T hs0 X0
  refine g_iloadN X0 d27_0 (pc' := 1) rfl rfl ?_
  refine g_newarrayE X0 (ad := "[B") (by decide) (aty := .byte) (cap := 2) (vs := [(.int (0 : Int32)), (.int (0 : Int32))]) (hw _ m23) (by decide) (by decide) rfl (by decide) d27_1 (pc' := 3) rfl (by decide) (by decide) (fun T79 h79 b79 X79 g79 E79 A79 EA79 l79 => ?_)
  have ne80 : c' ≠ b79 := ne_new A_c.lt g79
  refine g_astoreN X79 d27_3 (pc' := 4) rfl rfl (L' := #[.val (.ref c'), .val (.int (0 : Int32)), .val (.int (2 : Int32)), .val (.ref b79), .unset, .unset]) rfl ?_
  refine g_aloadN X79 d27_4 (pc' := 5) rfl rfl rfl ?_
  refine g_iloadN X79 d27_5 (pc' := 6) rfl rfl ?_
  refine g_aloadN X79 d27_6 (pc' := 7) rfl rfl rfl ?_
  refine g_iconst X79 d27_7 (pc' := 8) rfl (v := (0 : Int32)) rfl ?_
  refine g_iloadN X79 d27_8 (pc' := 9) rfl rfl ?_
  have f81 := (A_c.ext E79)
  refine g_callS X79 (y := (⟨"java/lang/StringUTF16", "compress", "([CI[BII)I"⟩ : MethodName)) [(.ref c'), (.int (0 : Int32)), (.ref b79), (.int (0 : Int32)), (.int (2 : Int32))] (hw _ m152) (hw _ m153) (hw _ m150) (hw _ m154) (hw _ m150) (rm28 l Z a0 hw c' b79 h79 n0 X79.old c0 c1 h0_ h1_ f81 A79 l79 ne80) (by decide) (by decide) (by decide) (by decide) (by decide) rfl pd_12 rfl (rest := []) rfl (W := 0) rfl d27_9 (pc' := 12) rfl ?_
  rintro _ T82 h82 L82 Y82 ⟨rfl, N82, K82, A82x⟩
  have X82 := Y82 (X79.old.keep K82 (allS l79 all0)) N82
  show Go p e below _ (State.setTop _ (mkF m 12 #[.val (.ref c'), .val (.int (0 : Int32)), .val (.int (2 : Int32)), .val (.ref b79), .unset, .unset] [(.int (2 : Int32))]))
  refine g_istore X82 d27_12 (pc' := 14) rfl (L' := #[.val (.ref c'), .val (.int (0 : Int32)), .val (.int (2 : Int32)), .val (.ref b79), .val (.int (2 : Int32)), .unset]) rfl ?_
  refine g_iload X82 d27_14 (pc' := 16) rfl rfl ?_
  refine g_iloadN X82 d27_16 (pc' := 17) rfl rfl ?_
  refine g_icmp_eq_t X82 d27_17 (pt := 57) (by decide) (by decide) ?_
  refine g_aloadN X82 d27_57 (pc' := 58) rfl rfl rfl ?_
  have k83 := (Keep.refl h0 []).ext E79
  have k84 := k83.trans K82 (allS (Or.inr (Nat.le_trans (Keep.refl h0 []).1 (Nat.le_of_eq g79.symm))) all0)
  have f85 := (EA79.keep K82)
  exact g_retA X82 rfl rfl rfl d27_58 (by decide) (by decide) ⟨b79, rfl, X82.fr, k84, (Nat.le_trans (Keep.refl h0 []).1 (Nat.le_of_eq g79.symm)), A82x, f85⟩

theorem d29_0 : decode jdk_52_method_15_code 0 = .ok (.iload_n 1, 1) := by decide +kernel
theorem d29_1 : decode jdk_52_method_15_code 1 = .ok (.aload_n 0, 1) := by decide +kernel
theorem d29_2 : decode jdk_52_method_15_code 2 = .ok (.arraylength, 1) := by decide +kernel
theorem d29_3 : decode jdk_52_method_15_code 3 = .ok (.isub, 1) := by decide +kernel
theorem d29_4 : decode jdk_52_method_15_code 4 = .ok (.bipush 31, 2) := by decide +kernel
theorem d29_6 : decode jdk_52_method_15_code 6 = .ok (.iushr, 1) := by decide +kernel
theorem d29_7 : decode jdk_52_method_15_code 7 = .ok (.i2b, 1) := by decide +kernel
theorem d29_8 : decode jdk_52_method_15_code 8 = .ok (.ireturn, 1) := by decide +kernel
theorem ef_29 (m : MethodId) (b : Addr) : entryFrame m #[(.ref b), (.int (2 : Int32))] 2 = mkF m 0 #[.val (.ref b), .val (.int (2 : Int32))] [] := by first | (simp [entryFrame, mkF, argsToLocals, Value.category]; done) | rfl
def R29 : Room := ({ frames := 0, cells := 0, slots := 0, locals := 0 } : Room)
set_option maxRecDepth 65536 in
set_option maxHeartbeats 40000000 in
theorem rm29 (l : Launch) (Z : State) (a0 : Array Value) (hw : ∀ d ∈ tables_1, d.before a0 Z = true) (b : Addr) (h0 : Heap) (n0 : Nat) (hO : Old Z n0 h0) (x0 x1 : Int32) (A_b : Arx Z h0 b .byte (own_bs [x0, x1])) :
    Con l Z (⟨"java/lang/StringUTF16", "coderFromArrayLen", "([BI)B"⟩ : MethodName) jdk_52_method_15_code 2 (some .byte) [] R29 R29.cells R29.slots #[(.ref b), (.int (2 : Int32))] h0 (fun v h L => v = some (.int (0 : Int32)) ∧ h0 = h ∧ L = []) := by
  refine Con.intro (n0 := n0) (plainFor_of_name pn_3) (fun m => ef_29 m b) hO ?_
  intro p e s m below meth cc T hs0 X0
  refine g_iloadN X0 d29_0 (pc' := 1) rfl rfl ?_
  refine g_aloadN X0 d29_1 (pc' := 2) rfl rfl rfl ?_
  refine g_arraylength X0 (n := (2 : Int32)) A_b (by rw [own_bs_len] <;> rfl) d29_2 (pc' := 3) rfl ?_
  refine g_isub X0 d29_3 (pc' := 4) rfl ?_
  refine g_bipush X0 d29_4 (pc' := 6) rfl (v := (31 : Int32)) rfl ?_
  refine g_iushr X0 d29_6 (pc' := 7) rfl ?_
  refine g_i2b X0 d29_7 (pc' := 8) rfl ?_
  exact g_retN X0 (by decide) rfl d29_8 (by decide) (by decide) ⟨congrArg (fun z => some (Value.int z)) (by decide +kernel), rfl, rfl⟩

theorem d4_0 : decode jdk_42_method_149_code 0 = .ok (.aload_n 0, 1) := by decide +kernel
theorem d4_1 : decode jdk_42_method_149_code 1 = .ok (.invokespecial 1, 3) := by decide +kernel
theorem d4_4 : decode jdk_42_method_149_code 4 = .ok (.iload_n 3, 1) := by decide +kernel
theorem d4_5 : decode jdk_42_method_149_code 5 = .ok (.ifCond .ne 22, 3) := by decide +kernel
theorem d4_27 : decode jdk_42_method_149_code 27 = .ok (.getstatic 38, 3) := by decide +kernel
theorem d4_30 : decode jdk_42_method_149_code 30 = .ok (.ifCond .eq 28, 3) := by decide +kernel
theorem d4_33 : decode jdk_42_method_149_code 33 = .ok (.aload_n 1, 1) := by decide +kernel
theorem d4_34 : decode jdk_42_method_149_code 34 = .ok (.iload_n 2, 1) := by decide +kernel
theorem d4_35 : decode jdk_42_method_149_code 35 = .ok (.iload_n 3, 1) := by decide +kernel
theorem d4_36 : decode jdk_42_method_149_code 36 = .ok (.invokestatic 177, 3) := by decide +kernel
theorem d4_39 : decode jdk_42_method_149_code 39 = .ok (.astore 5, 2) := by decide +kernel
theorem d4_41 : decode jdk_42_method_149_code 41 = .ok (.aload_n 0, 1) := by decide +kernel
theorem d4_42 : decode jdk_42_method_149_code 42 = .ok (.aload 5, 2) := by decide +kernel
theorem d4_44 : decode jdk_42_method_149_code 44 = .ok (.iload_n 3, 1) := by decide +kernel
theorem d4_45 : decode jdk_42_method_149_code 45 = .ok (.invokestatic 47, 3) := by decide +kernel
theorem d4_48 : decode jdk_42_method_149_code 48 = .ok (.putfield 15, 3) := by decide +kernel
theorem d4_51 : decode jdk_42_method_149_code 51 = .ok (.aload_n 0, 1) := by decide +kernel
theorem d4_52 : decode jdk_42_method_149_code 52 = .ok (.aload 5, 2) := by decide +kernel
theorem d4_54 : decode jdk_42_method_149_code 54 = .ok (.putfield 9, 3) := by decide +kernel
theorem d4_57 : decode jdk_42_method_149_code 57 = .ok (.return_, 1) := by decide +kernel
theorem ef_4 (m : MethodId) (a : Addr) (c' : Addr) : entryFrame m #[(.ref a), (.ref c'), (.int (0 : Int32)), (.int (2 : Int32)), .null] 6 = mkF m 0 #[.val (.ref a), .val (.ref c'), .val (.int (0 : Int32)), .val (.int (2 : Int32)), .val .null, .unset] [] := by first | (simp [entryFrame, mkF, argsToLocals, Value.category]; done) | rfl
def R4 : Room := ({ frames := 2, cells := 1, slots := 2, locals := 35 } : Room)
set_option maxRecDepth 65536 in
set_option maxHeartbeats 40000000 in
theorem rm4 (l : Launch) (Z : State) (a0 : Array Value) (hw : ∀ d ∈ tables_1, d.before a0 Z = true) (a : Addr) (c' : Addr) (h0 : Heap) (n0 : Nat) (hO : Old Z n0 h0) (c0 c1 : Int32) (h0_ : ¬ (255 : Int32) < c0) (h1_ : ¬ (255 : Int32) < c1) (A_c : Arx Z h0 c' .char [(.int c0), (.int c1)]) (E_a : Exa Z h0 a "java/lang/String") (g_a : n0 ≤ a) (Fv_a : Fld Z h0 a "java/lang/String" "value" "[B" .null) (Fc_a : Fld Z h0 a "java/lang/String" "coder" "B" (.int (0 : Int32))) (n_a_c : a ≠ c') (G1 : Int32) (O2 : Sta Z Z.heap "java/lang/String" "COMPACT_STRINGS" "Z" (.int G1)) (P5 : ¬ G1 = (0 : Int32)) :
    Con l Z (⟨"java/lang/String", "<init>", "([CIILjava/lang/Void;)V"⟩ : MethodName) jdk_42_method_149_code 6 none [] R4 R4.cells R4.slots #[(.ref a), (.ref c'), (.int (0 : Int32)), (.int (2 : Int32)), .null] h0 (fun r h L => ∃ u : Addr, r = none ∧ Fr n0 L ∧ Keep h0 h [a] ∧ SS Z h a u [i8 c0, i8 c1] ∧ Exa Z h u "[B") := by
  refine Con.intro (n0 := n0) (plainFor_of_name pn_0) (fun m => ef_4 m a c') hO ?_
  intro p e s m below meth cc T hs0 X0
  refine g_aloadN X0 d4_0 (pc' := 1) rfl rfl rfl ?_
  refine g_initO X0 (hw _ m19) (hw _ m20) (hw _ m21) rfl d4_1 (pc' := 4) rfl (by decide) (W := 0) rfl (by decide) (fun T86 X86 => ?_)
  refine g_iloadN X86 d4_4 (pc' := 5) rfl rfl ?_
  refine g_if_ne_t X86 d4_5 (pt := 27) (by decide) (by decide) ?_
  refine g_getS X86 (hw _ m39) (O2.ext X86.old.2) d4_27 (pc' := 30) rfl (fun T87 X87 => ?_)
  refine g_if_eq_f X87 d4_30 (pc' := 33) rfl P5 ?_
  refine g_aloadN X87 d4_33 (pc' := 34) rfl rfl rfl ?_
  refine g_iloadN X87 d4_34 (pc' := 35) rfl rfl ?_
  refine g_iloadN X87 d4_35 (pc' := 36) rfl rfl ?_
  refine g_callS X87 (y := (⟨"java/lang/StringUTF16", "compress", "([CII)[B"⟩ : MethodName)) [(.ref c'), (.int (0 : Int32)), (.int (2 : Int32))] (hw _ m148) (hw _ m149) (hw _ m150) (hw _ m151) (hw _ m150) (rm27 l Z a0 hw c' h0 n0 X87.old c0 c1 h0_ h1_ A_c) (by decide) (by decide) (by decide) (by decide) (by decide) rfl pd_13 rfl (rest := []) rfl (W := 0) rfl d4_36 (pc' := 39) rfl ?_
  rintro _ T88 h88 L88 Y88 ⟨b88, rfl, N88, K88, q88, A88x, EA88⟩
  have X88 := Y88 (X87.old.keep K88 all0) N88
  have g_b88 : n0 ≤ b88 := Nat.le_trans X87.sz q88
  have ne89 : c' ≠ b88 := Nat.ne_of_lt (Nat.lt_of_lt_of_le A_c.lt q88)
  have ne90 : a ≠ b88 := Nat.ne_of_lt (Nat.lt_of_lt_of_le Fc_a.lt q88)
  show Go p e below _ (State.setTop _ (mkF m 39 #[.val (.ref a), .val (.ref c'), .val (.int (0 : Int32)), .val (.int (2 : Int32)), .val .null, .unset] [(.ref b88)]))
  refine g_astore X88 d4_39 (pc' := 41) rfl rfl (L' := #[.val (.ref a), .val (.ref c'), .val (.int (0 : Int32)), .val (.int (2 : Int32)), .val .null, .val (.ref b88)]) rfl ?_
  refine g_aloadN X88 d4_41 (pc' := 42) rfl rfl rfl ?_
  refine g_aload X88 d4_42 (pc' := 44) rfl rfl rfl ?_
  refine g_iloadN X88 d4_44 (pc' := 45) rfl rfl ?_
  refine g_callS X88 (y := (⟨"java/lang/StringUTF16", "coderFromArrayLen", "([BI)B"⟩ : MethodName)) [(.ref b88), (.int (2 : Int32))] (hw _ m155) (hw _ m156) (hw _ m150) (hw _ m157) (hw _ m150) (rm29 l Z a0 hw b88 h88 n0 X88.old (i8 c0) (i8 c1) A88x) (by decide) (by decide) (by decide) (by decide) (by decide) rfl pd_14 rfl (rest := [(.ref a)]) rfl (W := 1) rfl d4_45 (pc' := 48) rfl ?_
  rintro _ T91 _ _ Y91 ⟨rfl, rfl, rfl⟩
  have X91 := Y91 X88.old (Fr.nil _)
  show Go p e below _ (State.setTop _ (mkF m 48 #[.val (.ref a), .val (.ref c'), .val (.int (0 : Int32)), .val (.int (2 : Int32)), .val .null, .val (.ref b88)] [(.int (0 : Int32)), (.ref a)]))
  have f92 := (Fc_a.keep K88 nm0)
  have f93 := (E_a.keep K88)
  refine g_putFN X91 (hw _ m29) Via.refl f92 f93 (Or.inr ⟨(hw _ m25), rfl, rfl⟩) (hw _ m9) (ty := .byte) (v' := (.int (nar .byte (0 : Int32)))) (by decide) rfl (fits_nar_byte _) g_a d4_48 (pc' := 51) rfl (fun T94 h94 X94 W94 => ?_)
  have F94 := f92.same W94
  refine g_aloadN X94 d4_51 (pc' := 52) rfl rfl rfl ?_
  refine g_aload X94 d4_52 (pc' := 54) rfl rfl rfl ?_
  have f95 := ((Fv_a.keep K88 nm0).other W94 (Or.inr (slot_ne (Or.inr (hw _ m24)) (Or.inr (hw _ m25)) (by decide) (t := (.array .byte)) (t' := .byte) (by decide) (by decide))))
  have f96 := (f93.wr W94)
  refine g_putF X94 (host := "") (Or.inl (hw _ m28)) Via.refl f95 f96 (Or.inr ⟨(hw _ m24), rfl, rfl⟩) (hw _ m9) (ty := (.array .byte)) (by decide) rfl rfl g_a d4_54 (pc' := 57) rfl (fun T97 h97 X97 W97 => ?_)
  have F97 := f95.same W97
  have k98 := (Keep.refl h0 [a]).trans K88 (fun x hx => by simp at hx)
  have k99 := k98.wr W94 (Or.inl (by simp))
  have k100 := k99.wr W97 (Or.inl (by simp))
  have f101 := (F94.other W97 (Or.inr (slot_ne (Or.inr (hw _ m25)) (Or.inr (hw _ m24)) (by decide) (t := .byte) (t' := (.array .byte)) (by decide) (by decide))))
  rw [own_nb0] at f101
  have f102 := (f96.wr W97)
  have f103 := ((A88x.other W94 (Ne.symm ne90)).other W97 (Ne.symm ne90))
  have f104 := ((EA88.wr W94).wr W97)
  exact g_ret X97 rfl d4_57 (by decide) (by decide) ⟨b88, rfl, X97.fr, k100, ⟨f102, f101, F97, f103⟩, f104⟩

theorem d3_0 : decode jdk_42_method_3_code 0 = .ok (.aload_n 0, 1) := by decide +kernel
theorem d3_1 : decode jdk_42_method_3_code 1 = .ok (.aload_n 1, 1) := by decide +kernel
theorem d3_2 : decode jdk_42_method_3_code 2 = .ok (.iconst 0, 1) := by decide +kernel
theorem d3_3 : decode jdk_42_method_3_code 3 = .ok (.aload_n 1, 1) := by decide +kernel
theorem d3_4 : decode jdk_42_method_3_code 4 = .ok (.arraylength, 1) := by decide +kernel
theorem d3_5 : decode jdk_42_method_3_code 5 = .ok (.aconst_null, 1) := by decide +kernel
theorem d3_6 : decode jdk_42_method_3_code 6 = .ok (.invokespecial 27, 3) := by decide +kernel
theorem d3_9 : decode jdk_42_method_3_code 9 = .ok (.return_, 1) := by decide +kernel
theorem ef_3 (m : MethodId) (a : Addr) (c' : Addr) : entryFrame m #[(.ref a), (.ref c')] 2 = mkF m 0 #[.val (.ref a), .val (.ref c')] [] := by first | (simp [entryFrame, mkF, argsToLocals, Value.category]; done) | rfl
def R3 : Room := ({ frames := 3, cells := 1, slots := 2, locals := 52 } : Room)
set_option maxRecDepth 65536 in
set_option maxHeartbeats 40000000 in
theorem rm3 (l : Launch) (Z : State) (a0 : Array Value) (hw : ∀ d ∈ tables_1, d.before a0 Z = true) (a : Addr) (c' : Addr) (h0 : Heap) (n0 : Nat) (hO : Old Z n0 h0) (c0 c1 : Int32) (h0_ : ¬ (255 : Int32) < c0) (h1_ : ¬ (255 : Int32) < c1) (A_c : Arx Z h0 c' .char [(.int c0), (.int c1)]) (E_a : Exa Z h0 a "java/lang/String") (g_a : n0 ≤ a) (Fv_a : Fld Z h0 a "java/lang/String" "value" "[B" .null) (Fc_a : Fld Z h0 a "java/lang/String" "coder" "B" (.int (0 : Int32))) (n_a_c : a ≠ c') (G1 : Int32) (O2 : Sta Z Z.heap "java/lang/String" "COMPACT_STRINGS" "Z" (.int G1)) (P5 : ¬ G1 = (0 : Int32)) :
    Con l Z (⟨"java/lang/String", "<init>", "([C)V"⟩ : MethodName) jdk_42_method_3_code 2 none [] R3 R3.cells R3.slots #[(.ref a), (.ref c')] h0 (fun r h L => ∃ u : Addr, r = none ∧ Fr n0 L ∧ Keep h0 h [a] ∧ SS Z h a u [i8 c0, i8 c1] ∧ Exa Z h u "[B") := by
  refine Con.intro (n0 := n0) (plainFor_of_name pn_0) (fun m => ef_3 m a c') hO ?_
  intro p e s m below meth cc T hs0 X0
  refine g_aloadN X0 d3_0 (pc' := 1) rfl rfl rfl ?_
  refine g_aloadN X0 d3_1 (pc' := 2) rfl rfl rfl ?_
  refine g_iconst X0 d3_2 (pc' := 3) rfl (v := (0 : Int32)) rfl ?_
  refine g_aloadN X0 d3_3 (pc' := 4) rfl rfl rfl ?_
  refine g_arraylength X0 (n := (2 : Int32)) A_c rfl d3_4 (pc' := 5) rfl ?_
  refine g_aconst_null X0 d3_5 (pc' := 6) rfl ?_
  refine g_callI X0 (y := (⟨"java/lang/String", "<init>", "([CIILjava/lang/Void;)V"⟩ : MethodName)) (a := a) [(.ref c'), (.int (0 : Int32)), (.int (2 : Int32)), .null] rfl (hw _ m15) (hw _ m16) rfl (hw _ m18) (hw _ m10) (rm4 l Z a0 hw a c' h0 n0 X0.old c0 c1 h0_ h1_ A_c E_a g_a Fv_a Fc_a n_a_c G1 O2 P5) (by decide) (by decide) (by decide) (by decide) (by decide) rfl pd_15 rfl (rest := []) rfl (W := 0) rfl d3_6 (pc' := 9) rfl ?_
  rintro _ T105 h105 L105 Y105 ⟨u105, rfl, N105, K105, H105, HE105⟩
  have X105 := Y105 (X0.old.keep K105 (allS g_a all0)) N105
  show Go p e below _ (State.setTop _ (mkF m 9 #[.val (.ref a), .val (.ref c')] []))
  exact g_ret X105 rfl d3_9 (by decide) (by decide) ⟨u105, rfl, X105.fr, K105, H105, HE105⟩

/-- the chars of the text that f names, as bytes -/
def lenOf_ (f : Int32) : Int32 := (f &&& (3 : Int32)) % (3 : Int32)
def ch0 (f : Int32) : Int32 := (f.toUInt32 >>> ((2 : Int32) &&& 31).toUInt32).toInt32 &&& (255 : Int32)
def ch1 (f : Int32) : Int32 := (f.toUInt32 >>> ((10 : Int32) &&& 31).toUInt32).toInt32 &&& (255 : Int32)
def zsOf (f : Int32) : List Int32 := if lenOf_ f = 0 then [] else if lenOf_ f = 1 then [i8 (ch0 f)] else [i8 (ch0 f), i8 (ch1 f)]
theorem own_three (f : Int32) : lenOf_ f = (0 : Int32) ∨ lenOf_ f = (1 : Int32) ∨ lenOf_ f = (2 : Int32) := by
  have e1 : (f &&& (3 : Int32)).toInt = f.toInt % 2 ^ 2 := Jvm.Kit.i32_mask f 3 (k := 2) (by decide) (by decide)
  have h0 : 0 ≤ (f &&& (3 : Int32)).toInt := by rw [e1]; omega
  have e2 : (lenOf_ f).toInt = (f &&& (3 : Int32)).toInt % 3 := by unfold lenOf_; rw [Int32.toInt_mod, Int.tmod_eq_emod_of_nonneg h0]; rfl
  have : (lenOf_ f).toInt = 0 ∨ (lenOf_ f).toInt = 1 ∨ (lenOf_ f).toInt = 2 := by omega
  rcases this with q | q | q
  · exact Or.inl (Int32.toInt_inj.mp q)
  · exact Or.inr (Or.inl (Int32.toInt_inj.mp q))
  · exact Or.inr (Or.inr (Int32.toInt_inj.mp q))
theorem own_m255 (y : Int32) : ∃ c : Fin 256, y &&& (255 : Int32) = Int32.ofNat c.val := by
  have e1 : (y &&& (255 : Int32)).toInt = y.toInt % 2 ^ 8 := Jvm.Kit.i32_mask y 255 (k := 8) (by decide) (by decide)
  refine ⟨⟨(y.toInt % 2 ^ 8).toNat, by omega⟩, Int32.toInt_inj.mp ?_⟩
  rw [e1, own_small (by simp only; omega)]; simp only; omega
/-- what put writes for the char c -/
def pt (c : Int32) : List Int32 := if c < (128 : Int32) then [i8 c] else [i8 ((192 : Int32) ||| (c >>> ((6 : Int32) &&& 31))), i8 ((128 : Int32) ||| (c &&& (63 : Int32)))]
theorem own_ptu : ∀ c : Fin 256, pt (Int32.ofNat c.val) = u8 (i8 (Int32.ofNat c.val)) := by decide +kernel
theorem own_pt (y : Int32) : pt (y &&& (255 : Int32)) = u8 (i8 (y &&& (255 : Int32))) := by
  obtain ⟨c, e⟩ := own_m255 y; rw [e]; exact own_ptu c
theorem own_255 (y : Int32) : ¬ (255 : Int32) < y &&& (255 : Int32) := by
  have e1 : (y &&& (255 : Int32)).toInt = y.toInt % 2 ^ 8 := Jvm.Kit.i32_mask y 255 (k := 8) (by decide) (by decide)
  rw [Int32.lt_iff_toInt_lt, e1]; have : (255 : Int32).toInt = 255 := rfl
  omega
theorem own_zby (f : Int32) : (∀ z ∈ zsOf f, BY z) ∧ (zsOf f).length ≤ 2 := by
  unfold zsOf; split
  · exact ⟨(fun z hz => by cases hz), by simp⟩
  · split
    · exact ⟨(fun z hz => by rw [List.mem_singleton.mp hz]; exact own_by8 _), by simp⟩
    · refine ⟨fun z hz => ?_, by simp⟩
      rcases List.mem_cons.mp hz with rfl | q
      · exact own_by8 _
      · rw [List.mem_singleton.mp q]; exact own_by8 _
/-- decoding -/
def dec (zs : List Int32) : Int32 := match zs with | [a] => a | [a, b] => i8 (((a &&& (3 : Int32)) <<< (6 : Int32)) ||| (b &&& (63 : Int32))) | _ => 0
theorem own_dec : ∀ c : Fin 256, dec (u8 (i8 (Int32.ofNat c.val))) = i8 (Int32.ofNat c.val) := by decide +kernel
def hlen_ (l : List Int32) : Nat := match l.head? with | some a => if a < 0 then 2 else 1 | none => 0
theorem own_hl : ∀ c : Fin 256, (u8 (i8 (Int32.ofNat c.val))).length = hlen_ (u8 (i8 (Int32.ofNat c.val))) := by decide +kernel
theorem own_byF {z : Int32} (h : BY z) : ∃ c : Fin 256, z = i8 (Int32.ofNat c.val) := by
  have e0 := own_narB h
  obtain ⟨c, e⟩ := own_m255 z
  refine ⟨c, ?_⟩
  rw [← e]
  have e1 : (z &&& (255 : Int32)).toInt = z.toInt % 2 ^ 8 := Jvm.Kit.i32_mask z 255 (k := 8) (by decide) (by decide)
  have e2 : (z.toInt8.toInt32).toInt = z.toInt := congrArg Int32.toInt e0
  rw [Int8.toInt_toInt32, Int32.toInt_toInt8] at e2
  apply Int32.toInt_inj.mp
  show z.toInt = ((z &&& (255 : Int32)).toInt8.toInt32).toInt
  rw [Int8.toInt_toInt32, Int32.toInt_toInt8, e1, ← e2]
  have := Int.bmod_def (z.toInt) 256
  rw [Int.bmod_def, Int.bmod_def] ; omega
theorem own_Uinj : ∀ {xs ys : List Int32}, (∀ z ∈ xs, BY z) → (∀ z ∈ ys, BY z) → U xs = U ys → xs = ys
  | [], [], _, _, _ => rfl
  | [], y :: ys, _, h2, e => by
    exfalso; have q := congrArg List.length e
    have h1 : 1 ≤ (u8 y).length := by unfold u8; split <;> simp
    simp only [U, List.flatMap_nil, List.flatMap_cons, List.length_append, List.length_nil] at q; omega
  | x :: xs, [], _, _, e => by
    exfalso; have q := congrArg List.length e
    have h1 : 1 ≤ (u8 x).length := by unfold u8; split <;> simp
    simp only [U, List.flatMap_nil, List.flatMap_cons, List.length_append, List.length_nil] at q; omega
  | x :: xs, y :: ys, h1, h2, e => by
    simp only [U, List.flatMap_cons] at e
    obtain ⟨c, ec⟩ := own_byF (h1 x List.mem_cons_self)
    obtain ⟨d, ed⟩ := own_byF (h2 y List.mem_cons_self)
    have hh : (u8 x).head? = (u8 y).head? := by
      have n1 : u8 x ≠ [] := by unfold u8; split <;> simp
      have n2 : u8 y ≠ [] := by unfold u8; split <;> simp
      cases hx : u8 x with
      | nil => exact absurd hx n1
      | cons a l1 => cases hy : u8 y with
        | nil => exact absurd hy n2
        | cons b l2 => rw [hx, hy, List.cons_append, List.cons_append] at e; exact congrArg some (List.cons.inj e).1
    have hlen : (u8 x).length = (u8 y).length := by rw [ec, ed] at hh ⊢; rw [own_hl, own_hl]; unfold hlen_; rw [hh]
    obtain ⟨e1, e2⟩ := List.append_inj e hlen
    have e3 : x = y := by
      have q := congrArg dec e1
      rw [ec, ed] at q ⊢; rwa [own_dec, own_dec] at q
    rw [e3, own_Uinj (fun z hz => h1 z (List.mem_cons_of_mem _ hz)) (fun z hz => h2 z (List.mem_cons_of_mem _ hz)) e2]
theorem d1_0 : decode method_2_code 0 = .ok (.lload_n 0, 1) := by decide +kernel
theorem d1_1 : decode method_2_code 1 = .ok (.bipush 18, 2) := by decide +kernel
theorem d1_3 : decode method_2_code 3 = .ok (.iload_n 2, 1) := by decide +kernel
theorem d1_4 : decode method_2_code 4 = .ok (.imul, 1) := by decide +kernel
theorem d1_5 : decode method_2_code 5 = .ok (.lushr, 1) := by decide +kernel
theorem d1_6 : decode method_2_code 6 = .ok (.ldc2_w 7, 3) := by decide +kernel
theorem d1_9 : decode method_2_code 9 = .ok (.land, 1) := by decide +kernel
theorem d1_10 : decode method_2_code 10 = .ok (.l2i, 1) := by decide +kernel
theorem d1_11 : decode method_2_code 11 = .ok (.ireturn, 1) := by decide +kernel
theorem ef_1 (m : MethodId) (a : Int64) (b : Int32) : entryFrame m #[(.long a), (.int b)] 3 = mkF m 0 #[.val (.long a), .second, .val (.int b)] [] := by first | (simp [entryFrame, mkF, argsToLocals, Value.category]; done) | rfl
def R1 : Room := ({ frames := 0, cells := 0, slots := 0, locals := 0 } : Room)
set_option maxRecDepth 65536 in
set_option maxHeartbeats 40000000 in
theorem rm1 (l : Launch) (Z : State) (a0 : Array Value) (hw : ∀ d ∈ tables_1, d.before a0 Z = true) (a : Int64) (b : Int32) (h0 : Heap) (n0 : Nat) (hO : Old Z n0 h0)  :
    Con l Z (⟨"com/example/indexloom/indexloom/TextsFindPinLaw", "field", "(JI)I"⟩ : MethodName) method_2_code 3 (some .int) [] R1 R1.cells R1.slots #[(.long a), (.int b)] h0 (fun r h L => ∃ z : Int32, r = some (.int z) ∧ h0 = h ∧ L = []) := by
  refine Con.intro (n0 := n0) (plainFor_of_name pn_5) (fun m => ef_1 m a b) hO ?_
  intro p e s m below meth cc T hs0 X0
  refine g_lloadN X0 d1_0 (pc' := 1) rfl rfl ?_
  refine g_bipush X0 d1_1 (pc' := 3) rfl (v := (18 : Int32)) rfl ?_
  refine g_iloadN X0 d1_3 (pc' := 4) rfl rfl ?_
  refine g_imul X0 d1_4 (pc' := 5) rfl ?_
  refine g_lushr X0 d1_5 (pc' := 6) rfl ?_
  refine g_ldc2 X0 (hw _ m4) d1_6 (pc' := 9) rfl ?_
  refine g_land X0 d1_9 (pc' := 10) rfl ?_
  refine g_l2i X0 d1_10 (pc' := 11) rfl ?_
  exact g_retI X0 rfl d1_11 (by decide) (by decide) ⟨_, rfl, rfl, rfl⟩

theorem own_ptlen (c : Int32) : 1 ≤ (pt c).length ∧ (pt c).length ≤ 2 := by unfold pt; split <;> simp
theorem own_ptp {c : Int32} (h : c < (128 : Int32)) : pt c = [i8 c] := by unfold pt; rw [if_pos h]
theorem own_ptn {c : Int32} (h : ¬ c < (128 : Int32)) : pt c = [i8 ((192 : Int32) ||| (c >>> ((6 : Int32) &&& 31)))] ++ [i8 ((128 : Int32) ||| (c &&& (63 : Int32)))] := by unfold pt; rw [if_neg h]; rfl
theorem d30_0 : decode method_4_code 0 = .ok (.iload_n 2, 1) := by decide +kernel
theorem d30_1 : decode method_4_code 1 = .ok (.sipush 128, 3) := by decide +kernel
theorem d30_4 : decode method_4_code 4 = .ok (.if_icmp .ge 12, 3) := by decide +kernel
theorem d30_7 : decode method_4_code 7 = .ok (.aload_n 0, 1) := by decide +kernel
theorem d30_8 : decode method_4_code 8 = .ok (.iload_n 1, 1) := by decide +kernel
theorem d30_9 : decode method_4_code 9 = .ok (.iload_n 2, 1) := by decide +kernel
theorem d30_10 : decode method_4_code 10 = .ok (.i2b, 1) := by decide +kernel
theorem d30_11 : decode method_4_code 11 = .ok (.bastore, 1) := by decide +kernel
theorem d30_12 : decode method_4_code 12 = .ok (.iload_n 1, 1) := by decide +kernel
theorem d30_13 : decode method_4_code 13 = .ok (.iconst 1, 1) := by decide +kernel
theorem d30_14 : decode method_4_code 14 = .ok (.iadd, 1) := by decide +kernel
theorem d30_15 : decode method_4_code 15 = .ok (.ireturn, 1) := by decide +kernel
theorem d30_16 : decode method_4_code 16 = .ok (.aload_n 0, 1) := by decide +kernel
theorem d30_17 : decode method_4_code 17 = .ok (.iload_n 1, 1) := by decide +kernel
theorem d30_18 : decode method_4_code 18 = .ok (.sipush 192, 3) := by decide +kernel
theorem d30_21 : decode method_4_code 21 = .ok (.iload_n 2, 1) := by decide +kernel
theorem d30_22 : decode method_4_code 22 = .ok (.bipush 6, 2) := by decide +kernel
theorem d30_24 : decode method_4_code 24 = .ok (.ishr, 1) := by decide +kernel
theorem d30_25 : decode method_4_code 25 = .ok (.ior, 1) := by decide +kernel
theorem d30_26 : decode method_4_code 26 = .ok (.i2b, 1) := by decide +kernel
theorem d30_27 : decode method_4_code 27 = .ok (.bastore, 1) := by decide +kernel
theorem d30_28 : decode method_4_code 28 = .ok (.aload_n 0, 1) := by decide +kernel
theorem d30_29 : decode method_4_code 29 = .ok (.iload_n 1, 1) := by decide +kernel
theorem d30_30 : decode method_4_code 30 = .ok (.iconst 1, 1) := by decide +kernel
theorem d30_31 : decode method_4_code 31 = .ok (.iadd, 1) := by decide +kernel
theorem d30_32 : decode method_4_code 32 = .ok (.sipush 128, 3) := by decide +kernel
theorem d30_35 : decode method_4_code 35 = .ok (.iload_n 2, 1) := by decide +kernel
theorem d30_36 : decode method_4_code 36 = .ok (.bipush 63, 2) := by decide +kernel
theorem d30_38 : decode method_4_code 38 = .ok (.iand, 1) := by decide +kernel
theorem d30_39 : decode method_4_code 39 = .ok (.ior, 1) := by decide +kernel
theorem d30_40 : decode method_4_code 40 = .ok (.i2b, 1) := by decide +kernel
theorem d30_41 : decode method_4_code 41 = .ok (.bastore, 1) := by decide +kernel
theorem d30_42 : decode method_4_code 42 = .ok (.iload_n 1, 1) := by decide +kernel
theorem d30_43 : decode method_4_code 43 = .ok (.iconst 2, 1) := by decide +kernel
theorem d30_44 : decode method_4_code 44 = .ok (.iadd, 1) := by decide +kernel
theorem d30_45 : decode method_4_code 45 = .ok (.ireturn, 1) := by decide +kernel
theorem ef_30 (m : MethodId) (b : Addr) (Xs : List Int32) (c' : Int32) : entryFrame m #[(.ref b), (.int (Int32.ofNat Xs.length)), (.int c')] 3 = mkF m 0 #[.val (.ref b), .val (.int (Int32.ofNat Xs.length)), .val (.int c')] [] := by first | (simp [entryFrame, mkF, argsToLocals, Value.category]; done) | rfl
def R30 : Room := ({ frames := 0, cells := 0, slots := 0, locals := 0 } : Room)
set_option maxRecDepth 65536 in
set_option maxHeartbeats 40000000 in
theorem rm30 (l : Launch) (Z : State) (a0 : Array Value) (hw : ∀ d ∈ tables_1, d.before a0 Z = true) (b : Addr) (Xs : List Int32) (c' : Int32) (h0 : Heap) (n0 : Nat) (hO : Old Z n0 h0) (A_b : Arx Z h0 b .byte (own_bs (Xs ++ List.replicate (4 - Xs.length) 0))) (g_b : n0 ≤ b) (hX : Xs.length ≤ 2) :
    Con l Z (⟨"com/example/indexloom/indexloom/TextsFindPinLaw", "put", "([BII)I"⟩ : MethodName) method_4_code 3 (some .int) [] R30 R30.cells R30.slots #[(.ref b), (.int (Int32.ofNat Xs.length)), (.int c')] h0 (fun r h L => r = some (.int (Int32.ofNat (Xs ++ pt c').length)) ∧ Fr n0 L ∧ Keep h0 h [b] ∧ Arx Z h b .byte (own_bs ((Xs ++ pt c') ++ List.replicate (4 - (Xs ++ pt c').length) 0))) := by
  refine Con.intro (n0 := n0) (plainFor_of_name pn_5) (fun m => ef_30 m b Xs c') hO ?_
  intro p e s m below meth cc T hs0 X0
  refine g_iloadN X0 d30_0 (pc' := 1) rfl rfl ?_
  refine g_sipush X0 d30_1 (pc' := 4) rfl (v := (128 : Int32)) rfl ?_
  refine g_icmp_ge X0 d30_4 (pt := 16) (by decide) (pc' := 7) rfl (fun hc4 => ?_) (fun hc4 => ?_)
  · have hc4' := hc4
    refine g_aloadN X0 d30_16 (pc' := 17) rfl rfl rfl ?_
    refine g_iloadN X0 d30_17 (pc' := 18) rfl rfl ?_
    refine g_sipush X0 d30_18 (pc' := 21) rfl (v := (192 : Int32)) rfl ?_
    refine g_iloadN X0 d30_21 (pc' := 22) rfl rfl ?_
    refine g_bipush X0 d30_22 (pc' := 24) rfl (v := (6 : Int32)) rfl ?_
    refine g_ishr X0 d30_24 (pc' := 25) rfl ?_
    refine g_ior X0 d30_25 (pc' := 26) rfl ?_
    refine g_i2b X0 d30_26 (pc' := 27) rfl ?_
    refine g_bastore X0 (i := Xs.length) A_b (own_small (by omega)) (by rw [own_bs_len, List.length_append, List.length_replicate]; omega) g_b d30_27 (pc' := 28) rfl (fun T106 h106 X106 W106 A106 => ?_)
    rw [own_i8u, own_n8, own_step1 (by omega)] at A106
    refine g_aloadN X106 d30_28 (pc' := 29) rfl rfl rfl ?_
    refine g_iloadN X106 d30_29 (pc' := 30) rfl rfl ?_
    refine g_iconst X106 d30_30 (pc' := 31) rfl (v := (1 : Int32)) rfl ?_
    refine g_iadd X106 d30_31 (pc' := 32) rfl ?_
    refine g_sipush X106 d30_32 (pc' := 35) rfl (v := (128 : Int32)) rfl ?_
    refine g_iloadN X106 d30_35 (pc' := 36) rfl rfl ?_
    refine g_bipush X106 d30_36 (pc' := 38) rfl (v := (63 : Int32)) rfl ?_
    refine g_iand X106 d30_38 (pc' := 39) rfl ?_
    refine g_ior X106 d30_39 (pc' := 40) rfl ?_
    refine g_i2b X106 d30_40 (pc' := 41) rfl ?_
    refine g_bastore X106 (i := (Xs ++ [i8 ((192 : Int32) ||| (c' >>> ((6 : Int32) &&& 31)))]).length) A106 (by rw [own_succ, own_dp]; exact own_small (by rw [← own_dp]; omega)) (by simp only [own_bs_len, List.length_append, List.length_replicate, List.length_cons, List.length_nil]; omega) g_b d30_41 (pc' := 42) rfl (fun T107 h107 X107 W107 A107 => ?_)
    rw [own_i8u, own_n8, own_step1 (by rw [← own_dp]; omega)] at A107
    refine g_iloadN X107 d30_42 (pc' := 43) rfl rfl ?_
    refine g_iconst X107 d30_43 (pc' := 44) rfl (v := (2 : Int32)) rfl ?_
    refine g_iadd X107 d30_44 (pc' := 45) rfl ?_
    have k108 := (Keep.refl h0 [b]).wr W106 (Or.inl (by simp))
    have k109 := k108.wr W107 (Or.inl (by simp))
    rw [show Int32.ofNat Xs.length + (2 : Int32) = Int32.ofNat (Xs ++ pt c').length from by rw [own_ptn hc4', show (2 : Int32) = Int32.ofNat 2 from rfl, own_add]; simp]
    rw [List.append_assoc Xs, ← own_ptn hc4'] at A107
    exact g_retI X107 rfl d30_45 (by decide) (by decide) ⟨rfl, X107.fr, k109, A107⟩
  · have hc4' := hc4
    refine g_aloadN X0 d30_7 (pc' := 8) rfl rfl rfl ?_
    refine g_iloadN X0 d30_8 (pc' := 9) rfl rfl ?_
    refine g_iloadN X0 d30_9 (pc' := 10) rfl rfl ?_
    refine g_i2b X0 d30_10 (pc' := 11) rfl ?_
    refine g_bastore X0 (i := Xs.length) A_b (own_small (by omega)) (by rw [own_bs_len, List.length_append, List.length_replicate]; omega) g_b d30_11 (pc' := 12) rfl (fun T110 h110 X110 W110 A110 => ?_)
    rw [own_i8u, own_n8, own_step1 (by omega)] at A110
    refine g_iloadN X110 d30_12 (pc' := 13) rfl rfl ?_
    refine g_iconst X110 d30_13 (pc' := 14) rfl (v := (1 : Int32)) rfl ?_
    refine g_iadd X110 d30_14 (pc' := 15) rfl ?_
    have k111 := (Keep.refl h0 [b]).wr W110 (Or.inl (by simp))
    rw [own_succ, own_dp (i8 c'), ← own_ptp hc4']
    rw [← own_ptp hc4'] at A110
    exact g_retI X110 rfl d30_15 (by decide) (by decide) ⟨rfl, X110.fr, k111, A110⟩

theorem own_enc0 {f : Int32} (h : lenOf_ f = 0) : ([] : List Int32) = U (zsOf f) := by unfold zsOf; rw [if_pos h]; rfl
theorem own_enc1 {f : Int32} (h : lenOf_ f = 1) : [] ++ pt (ch0 f) = U (zsOf f) := by
  unfold zsOf; rw [if_neg (by rw [h]; decide), if_pos h]
  show pt (ch0 f) = u8 (i8 (ch0 f)) ++ []
  rw [List.append_nil]; exact own_pt _
theorem own_enc2 {f : Int32} (h : lenOf_ f = 2) : ([] ++ pt (ch0 f)) ++ pt (ch1 f) = U (zsOf f) := by
  unfold zsOf; rw [if_neg (by rw [h]; decide), if_neg (by rw [h]; decide)]
  show pt (ch0 f) ++ pt (ch1 f) = u8 (i8 (ch0 f)) ++ (u8 (i8 (ch1 f)) ++ [])
  rw [List.append_nil, show pt (ch0 f) = u8 (i8 (ch0 f)) from own_pt _, show pt (ch1 f) = u8 (i8 (ch1 f)) from own_pt _]
theorem own_st (r : Int32) : ∃ a : Nat, a < 5 ∧ (r &&& (255 : Int32)) % (5 : Int32) = Int32.ofNat a := by
  obtain ⟨c, e⟩ := own_m255 r
  have h0 : 0 ≤ (r &&& (255 : Int32)).toInt := by rw [e, own_small (by omega)]; omega
  have e2 : ((r &&& (255 : Int32)) % (5 : Int32)).toInt = (r &&& (255 : Int32)).toInt % 5 := by rw [Int32.toInt_mod, Int.tmod_eq_emod_of_nonneg h0]; rfl
  refine ⟨((r &&& (255 : Int32)).toInt % 5).toNat, by omega, Int32.toInt_inj.mp ?_⟩
  rw [e2, own_small (by omega)]; omega
theorem own_5s {a : Nat} (h : a < 5) : (5 : Int32) - Int32.ofNat a = Int32.ofNat (5 - a) := by rw [show (5 : Int32) = Int32.ofNat 5 from rfl, own_subN (by omega)]
theorem own_nz {a : Nat} (h : a < 5) : (5 : Int32) - Int32.ofNat a ≠ 0 := by
  rw [own_5s h]; intro q; have e := congrArg Int32.toInt q; rw [own_small (by omega)] at e; have : (0 : Int32).toInt = 0 := rfl
  omega
theorem own_en (r : Int32) {a : Nat} (h : a < 5) : ∃ b : Nat, a ≤ b ∧ b ≤ 4 ∧ Int32.ofNat a + ((r.toUInt32 >>> ((8 : Int32) &&& 31).toUInt32).toInt32 &&& (16777215 : Int32)) % ((5 : Int32) - Int32.ofNat a) = Int32.ofNat b := by
  generalize (r.toUInt32 >>> ((8 : Int32) &&& 31).toUInt32).toInt32 = y
  rw [own_5s h]
  have e1 : (y &&& (16777215 : Int32)).toInt = y.toInt % 2 ^ 24 := Jvm.Kit.i32_mask y 16777215 (k := 24) (by decide) (by decide)
  have h0 : 0 ≤ (y &&& (16777215 : Int32)).toInt := by rw [e1]; omega
  have e2 : ((y &&& (16777215 : Int32)) % Int32.ofNat (5 - a)).toInt = (y &&& (16777215 : Int32)).toInt % ((5 - a : Nat) : Int) := by rw [Int32.toInt_mod, Int.tmod_eq_emod_of_nonneg h0, own_small (by omega)]
  have a1 := Int.emod_nonneg (y &&& (16777215 : Int32)).toInt (show ((5 - a : Nat) : Int) ≠ 0 by omega)
  have a2 := Int.emod_lt_of_pos (y &&& (16777215 : Int32)).toInt (show (0 : Int) < ((5 - a : Nat) : Int) by omega)
  obtain ⟨m, hm⟩ : ∃ m : Nat, (y &&& (16777215 : Int32)) % Int32.ofNat (5 - a) = Int32.ofNat m ∧ m < 5 - a := by
    refine ⟨((y &&& (16777215 : Int32)).toInt % ((5 - a : Nat) : Int)).toNat, Int32.toInt_inj.mp ?_, by omega⟩
    rw [e2, own_small (by omega)]; omega
  rw [hm.1, own_add]; exact ⟨a + m, by omega, by omega, rfl⟩
/-- the slice s .. e of qs -/
def sl (qs : List Int32) (s e : Nat) : List Int32 := (qs.drop s).take (e - s)
theorem own_mt {qs ks : List Int32} {s e n : Nat} (hq : qs.length = 4) (hk : ks.length = 4) (hse : s ≤ e) (he : e ≤ 4) (hn : e - s = n) (h : ∀ i, i < n → qs[s + i]? = ks[i]?) : sl qs s e = ks.take n := by
  unfold sl
  apply List.ext_getElem?
  intro i
  by_cases q : i < n
  · rw [List.getElem?_take_of_lt (by omega), List.getElem?_take_of_lt q, List.getElem?_drop]; exact h i q
  · rw [List.getElem?_eq_none (by rw [List.length_take, List.length_drop]; omega), List.getElem?_eq_none (by rw [List.length_take]; omega)]
theorem own_mf {qs ks : List Int32} {s e n : Nat} (hq : qs.length = 4) (hk : ks.length = 4) (hse : s ≤ e) (he : e ≤ 4) (hn4 : n ≤ 4) (hn : ¬ e - s = n) : ¬ sl qs s e = ks.take n := fun q => by
  have := congrArg List.length q
  rw [sl, List.length_take, List.length_take, List.length_drop] at this; omega
theorem own_mg {qs ks : List Int32} {s e n i : Nat} (hn : e - s = n) (hi : i < n) (h : ¬ qs[s + i]? = ks[i]?) : ¬ sl qs s e = ks.take n := fun q => by
  have e1 := congrArg (fun l => l[i]?) q
  simp only [sl] at e1
  rw [List.getElem?_take_of_lt (by omega), List.getElem?_take_of_lt hi, List.getElem?_drop] at e1; exact h e1
theorem d6_0 : decode method_5_code 0 = .ok (.iload_n 0, 1) := by decide +kernel
theorem d6_1 : decode method_5_code 1 = .ok (.iconst 3, 1) := by decide +kernel
theorem d6_2 : decode method_5_code 2 = .ok (.iand, 1) := by decide +kernel
theorem d6_3 : decode method_5_code 3 = .ok (.iconst 3, 1) := by decide +kernel
theorem d6_4 : decode method_5_code 4 = .ok (.irem, 1) := by decide +kernel
theorem d6_5 : decode method_5_code 5 = .ok (.istore_n 2, 1) := by decide +kernel
theorem d6_6 : decode method_5_code 6 = .ok (.iconst 0, 1) := by decide +kernel
theorem d6_7 : decode method_5_code 7 = .ok (.istore_n 3, 1) := by decide +kernel
theorem d6_8 : decode method_5_code 8 = .ok (.iload_n 2, 1) := by decide +kernel
theorem d6_9 : decode method_5_code 9 = .ok (.iconst 1, 1) := by decide +kernel
theorem d6_10 : decode method_5_code 10 = .ok (.if_icmp .lt 16, 3) := by decide +kernel
theorem d6_13 : decode method_5_code 13 = .ok (.aload_n 1, 1) := by decide +kernel
theorem d6_14 : decode method_5_code 14 = .ok (.iload_n 3, 1) := by decide +kernel
theorem d6_15 : decode method_5_code 15 = .ok (.iload_n 0, 1) := by decide +kernel
theorem d6_16 : decode method_5_code 16 = .ok (.iconst 2, 1) := by decide +kernel
theorem d6_17 : decode method_5_code 17 = .ok (.iushr, 1) := by decide +kernel
theorem d6_18 : decode method_5_code 18 = .ok (.sipush 255, 3) := by decide +kernel
theorem d6_21 : decode method_5_code 21 = .ok (.iand, 1) := by decide +kernel
theorem d6_22 : decode method_5_code 22 = .ok (.invokestatic 18, 3) := by decide +kernel
theorem d6_25 : decode method_5_code 25 = .ok (.istore_n 3, 1) := by decide +kernel
theorem d6_26 : decode method_5_code 26 = .ok (.iload_n 2, 1) := by decide +kernel
theorem d6_27 : decode method_5_code 27 = .ok (.iconst 2, 1) := by decide +kernel
theorem d6_28 : decode method_5_code 28 = .ok (.if_icmp .lt 17, 3) := by decide +kernel
theorem d6_31 : decode method_5_code 31 = .ok (.aload_n 1, 1) := by decide +kernel
theorem d6_32 : decode method_5_code 32 = .ok (.iload_n 3, 1) := by decide +kernel
theorem d6_33 : decode method_5_code 33 = .ok (.iload_n 0, 1) := by decide +kernel
theorem d6_34 : decode method_5_code 34 = .ok (.bipush 10, 2) := by decide +kernel
theorem d6_36 : decode method_5_code 36 = .ok (.iushr, 1) := by decide +kernel
theorem d6_37 : decode method_5_code 37 = .ok (.sipush 255, 3) := by decide +kernel
theorem d6_40 : decode method_5_code 40 = .ok (.iand, 1) := by decide +kernel
theorem d6_41 : decode method_5_code 41 = .ok (.invokestatic 18, 3) := by decide +kernel
theorem d6_44 : decode method_5_code 44 = .ok (.istore_n 3, 1) := by decide +kernel
theorem d6_45 : decode method_5_code 45 = .ok (.iload_n 3, 1) := by decide +kernel
theorem d6_46 : decode method_5_code 46 = .ok (.ireturn, 1) := by decide +kernel
theorem ef_6 (m : MethodId) (f : Int32) (b : Addr) : entryFrame m #[(.int f), (.ref b)] 4 = mkF m 0 #[.val (.int f), .val (.ref b), .unset, .unset] [] := by first | (simp [entryFrame, mkF, argsToLocals, Value.category]; done) | rfl
def R6 : Room := ({ frames := 1, cells := 0, slots := 0, locals := 14 } : Room)
set_option maxRecDepth 65536 in
set_option maxHeartbeats 40000000 in
theorem rm6 (l : Launch) (Z : State) (a0 : Array Value) (hw : ∀ d ∈ tables_1, d.before a0 Z = true) (f : Int32) (b : Addr) (h0 : Heap) (n0 : Nat) (hO : Old Z n0 h0) (A_b : Arx Z h0 b .byte (own_bs (List.replicate 4 0))) (g_b : n0 ≤ b) :
    Con l Z (⟨"com/example/indexloom/indexloom/TextsFindPinLaw", "enc", "(I[B)I"⟩ : MethodName) method_5_code 4 (some .int) [] R6 R6.cells R6.slots #[(.int f), (.ref b)] h0 (fun r h L => r = some (.int (Int32.ofNat (U (zsOf f)).length)) ∧ Fr n0 L ∧ Keep h0 h [b] ∧ Arx Z h b .byte (own_bs ((U (zsOf f)) ++ List.replicate (4 - (U (zsOf f)).length) 0))) := by
  refine Con.intro (n0 := n0) (plainFor_of_name pn_5) (fun m => ef_6 m f b) hO ?_
  intro p e s m below meth cc T hs0 X0
  refine g_iloadN X0 d6_0 (pc' := 1) rfl rfl ?_
  refine g_iconst X0 d6_1 (pc' := 2) rfl (v := (3 : Int32)) rfl ?_
  refine g_iand X0 d6_2 (pc' := 3) rfl ?_
  refine g_iconst X0 d6_3 (pc' := 4) rfl (v := (3 : Int32)) rfl ?_
  refine g_irem X0 d6_4 (pc' := 5) rfl (by decide) ?_
  have h3 := own_three f
  rcases h3 with q | q | q
  · rw [show (f &&& (3 : Int32)) % (3 : Int32) = (0 : Int32) from q]
    refine g_istoreN X0 d6_5 (pc' := 6) rfl (L' := #[.val (.int f), .val (.ref b), .val (.int (0 : Int32)), .unset]) rfl ?_
    refine g_iconst X0 d6_6 (pc' := 7) rfl (v := (0 : Int32)) rfl ?_
    refine g_istoreN X0 d6_7 (pc' := 8) rfl (L' := #[.val (.int f), .val (.ref b), .val (.int (0 : Int32)), .val (.int (0 : Int32))]) rfl ?_
    refine g_iloadN X0 d6_8 (pc' := 9) rfl rfl ?_
    refine g_iconst X0 d6_9 (pc' := 10) rfl (v := (1 : Int32)) rfl ?_
    refine g_icmp_lt_t X0 d6_10 (pt := 26) (by decide) (by decide) ?_
    refine g_iloadN X0 d6_26 (pc' := 27) rfl rfl ?_
    refine g_iconst X0 d6_27 (pc' := 28) rfl (v := (2 : Int32)) rfl ?_
    refine g_icmp_lt_t X0 d6_28 (pt := 45) (by decide) (by decide) ?_
    refine g_iloadN X0 d6_45 (pc' := 46) rfl rfl ?_
    have eU := own_enc0 q
    exact g_retI X0 rfl d6_46 (by decide) (by decide) ⟨(by rw [← eU]; rfl), X0.fr, (Keep.refl h0 [b]), (by rw [← eU]; exact A_b)⟩
  · rw [show (f &&& (3 : Int32)) % (3 : Int32) = (1 : Int32) from q]
    refine g_istoreN X0 d6_5 (pc' := 6) rfl (L' := #[.val (.int f), .val (.ref b), .val (.int (1 : Int32)), .unset]) rfl ?_
    refine g_iconst X0 d6_6 (pc' := 7) rfl (v := (0 : Int32)) rfl ?_
    refine g_istoreN X0 d6_7 (pc' := 8) rfl (L' := #[.val (.int f), .val (.ref b), .val (.int (1 : Int32)), .val (.int (0 : Int32))]) rfl ?_
    refine g_iloadN X0 d6_8 (pc' := 9) rfl rfl ?_
    refine g_iconst X0 d6_9 (pc' := 10) rfl (v := (1 : Int32)) rfl ?_
    refine g_icmp_lt_f X0 d6_10 (pc' := 13) rfl (by decide) ?_
    refine g_aloadN X0 d6_13 (pc' := 14) rfl rfl rfl ?_
    refine g_iloadN X0 d6_14 (pc' := 15) rfl rfl ?_
    refine g_iloadN X0 d6_15 (pc' := 16) rfl rfl ?_
    refine g_iconst X0 d6_16 (pc' := 17) rfl (v := (2 : Int32)) rfl ?_
    refine g_iushr X0 d6_17 (pc' := 18) rfl ?_
    refine g_sipush X0 d6_18 (pc' := 21) rfl (v := (255 : Int32)) rfl ?_
    refine g_iand X0 d6_21 (pc' := 22) rfl ?_
    refine g_callS X0 (y := (⟨"com/example/indexloom/indexloom/TextsFindPinLaw", "put", "([BII)I"⟩ : MethodName)) [(.ref b), (.int (0 : Int32)), (.int (((f.toUInt32 >>> ((2 : Int32) &&& 31).toUInt32).toInt32) &&& (255 : Int32)))] (hw _ m158) (hw _ m159) (hw _ m2) (hw _ m160) (hw _ m2) (rm30 l Z a0 hw b ([] : List Int32) (ch0 f) h0 n0 X0.old A_b g_b (by decide)) (by decide) (by decide) (by decide) (by decide) (by decide) rfl pd_3 rfl (rest := []) rfl (W := 0) rfl d6_22 (pc' := 25) rfl ?_
    rintro _ T112 h112 L112 Y112 ⟨rfl, N112, K112, A112x⟩
    have X112 := Y112 (X0.old.keep K112 (allS g_b all0)) N112
    show Go p e below _ (State.setTop _ (mkF m 25 #[.val (.int f), .val (.ref b), .val (.int (1 : Int32)), .val (.int (0 : Int32))] [(.int (Int32.ofNat (([] : List Int32) ++ pt (ch0 f)).length))]))
    refine g_istoreN X112 d6_25 (pc' := 26) rfl (L' := #[.val (.int f), .val (.ref b), .val (.int (1 : Int32)), .val (.int (Int32.ofNat (([] : List Int32) ++ pt (ch0 f)).length))]) rfl ?_
    refine g_iloadN X112 d6_26 (pc' := 27) rfl rfl ?_
    refine g_iconst X112 d6_27 (pc' := 28) rfl (v := (2 : Int32)) rfl ?_
    refine g_icmp_lt_t X112 d6_28 (pt := 45) (by decide) (by decide) ?_
    refine g_iloadN X112 d6_45 (pc' := 46) rfl rfl ?_
    have k113 := (Keep.refl h0 [b]).trans K112 (allS (Or.inl (by simp)) all0)
    have eU := own_enc1 q
    exact g_retI X112 rfl d6_46 (by decide) (by decide) ⟨(by rw [← eU]), X112.fr, k113, (by rw [← eU]; exact A112x)⟩
  · rw [show (f &&& (3 : Int32)) % (3 : Int32) = (2 : Int32) from q]
    refine g_istoreN X0 d6_5 (pc' := 6) rfl (L' := #[.val (.int f), .val (.ref b), .val (.int (2 : Int32)), .unset]) rfl ?_
    refine g_iconst X0 d6_6 (pc' := 7) rfl (v := (0 : Int32)) rfl ?_
    refine g_istoreN X0 d6_7 (pc' := 8) rfl (L' := #[.val (.int f), .val (.ref b), .val (.int (2 : Int32)), .val (.int (0 : Int32))]) rfl ?_
    refine g_iloadN X0 d6_8 (pc' := 9) rfl rfl ?_
    refine g_iconst X0 d6_9 (pc' := 10) rfl (v := (1 : Int32)) rfl ?_
    refine g_icmp_lt_f X0 d6_10 (pc' := 13) rfl (by decide) ?_
    refine g_aloadN X0 d6_13 (pc' := 14) rfl rfl rfl ?_
    refine g_iloadN X0 d6_14 (pc' := 15) rfl rfl ?_
    refine g_iloadN X0 d6_15 (pc' := 16) rfl rfl ?_
    refine g_iconst X0 d6_16 (pc' := 17) rfl (v := (2 : Int32)) rfl ?_
    refine g_iushr X0 d6_17 (pc' := 18) rfl ?_
    refine g_sipush X0 d6_18 (pc' := 21) rfl (v := (255 : Int32)) rfl ?_
    refine g_iand X0 d6_21 (pc' := 22) rfl ?_
    refine g_callS X0 (y := (⟨"com/example/indexloom/indexloom/TextsFindPinLaw", "put", "([BII)I"⟩ : MethodName)) [(.ref b), (.int (0 : Int32)), (.int (((f.toUInt32 >>> ((2 : Int32) &&& 31).toUInt32).toInt32) &&& (255 : Int32)))] (hw _ m158) (hw _ m159) (hw _ m2) (hw _ m160) (hw _ m2) (rm30 l Z a0 hw b ([] : List Int32) (ch0 f) h0 n0 X0.old A_b g_b (by decide)) (by decide) (by decide) (by decide) (by decide) (by decide) rfl pd_3 rfl (rest := []) rfl (W := 0) rfl d6_22 (pc' := 25) rfl ?_
    rintro _ T114 h114 L114 Y114 ⟨rfl, N114, K114, A114x⟩
    have X114 := Y114 (X0.old.keep K114 (allS g_b all0)) N114
    show Go p e below _ (State.setTop _ (mkF m 25 #[.val (.int f), .val (.ref b), .val (.int (2 : Int32)), .val (.int (0 : Int32))] [(.int (Int32.ofNat (([] : List Int32) ++ pt (ch0 f)).length))]))
    refine g_istoreN X114 d6_25 (pc' := 26) rfl (L' := #[.val (.int f), .val (.ref b), .val (.int (2 : Int32)), .val (.int (Int32.ofNat (([] : List Int32) ++ pt (ch0 f)).length))]) rfl ?_
    refine g_iloadN X114 d6_26 (pc' := 27) rfl rfl ?_
    refine g_iconst X114 d6_27 (pc' := 28) rfl (v := (2 : Int32)) rfl ?_
    refine g_icmp_lt_f X114 d6_28 (pc' := 31) rfl (by decide) ?_
    refine g_aloadN X114 d6_31 (pc' := 32) rfl rfl rfl ?_
    refine g_iloadN X114 d6_32 (pc' := 33) rfl rfl ?_
    refine g_iloadN X114 d6_33 (pc' := 34) rfl rfl ?_
    refine g_bipush X114 d6_34 (pc' := 36) rfl (v := (10 : Int32)) rfl ?_
    refine g_iushr X114 d6_36 (pc' := 37) rfl ?_
    refine g_sipush X114 d6_37 (pc' := 40) rfl (v := (255 : Int32)) rfl ?_
    refine g_iand X114 d6_40 (pc' := 41) rfl ?_
    refine g_callS X114 (y := (⟨"com/example/indexloom/indexloom/TextsFindPinLaw", "put", "([BII)I"⟩ : MethodName)) [(.ref b), (.int (Int32.ofNat (([] : List Int32) ++ pt (ch0 f)).length)), (.int (((f.toUInt32 >>> ((10 : Int32) &&& 31).toUInt32).toInt32) &&& (255 : Int32)))] (hw _ m158) (hw _ m159) (hw _ m2) (hw _ m160) (hw _ m2) (rm30 l Z a0 hw b (([] : List Int32) ++ pt (ch0 f)) (ch1 f) h114 n0 X114.old A114x g_b (own_ptlen (ch0 f)).2) (by decide) (by decide) (by decide) (by decide) (by decide) rfl pd_3 rfl (rest := []) rfl (W := 0) rfl d6_41 (pc' := 44) rfl ?_
    rintro _ T115 h115 L115 Y115 ⟨rfl, N115, K115, A115x⟩
    have X115 := Y115 (X114.old.keep K115 (allS g_b all0)) N115
    show Go p e below _ (State.setTop _ (mkF m 44 #[.val (.int f), .val (.ref b), .val (.int (2 : Int32)), .val (.int (Int32.ofNat (([] : List Int32) ++ pt (ch0 f)).length))] [(.int (Int32.ofNat ((([] : List Int32) ++ pt (ch0 f)) ++ pt (ch1 f)).length))]))
    refine g_istoreN X115 d6_44 (pc' := 45) rfl (L' := #[.val (.int f), .val (.ref b), .val (.int (2 : Int32)), .val (.int (Int32.ofNat ((([] : List Int32) ++ pt (ch0 f)) ++ pt (ch1 f)).length))]) rfl ?_
    refine g_iloadN X115 d6_45 (pc' := 46) rfl rfl ?_
    have k116 := (Keep.refl h0 [b]).trans K114 (allS (Or.inl (by simp)) all0)
    have k117 := k116.trans K115 (allS (Or.inl (by simp)) all0)
    have eU := own_enc2 q
    exact g_retI X115 rfl d6_46 (by decide) (by decide) ⟨(by rw [← eU]), X115.fr, k117, (by rw [← eU]; exact A115x)⟩

theorem d9_0 : decode method_8_code 0 = .ok (.iload_n 0, 1) := by decide +kernel
theorem d9_1 : decode method_8_code 1 = .ok (.sipush 255, 3) := by decide +kernel
theorem d9_4 : decode method_8_code 4 = .ok (.iand, 1) := by decide +kernel
theorem d9_5 : decode method_8_code 5 = .ok (.iconst 5, 1) := by decide +kernel
theorem d9_6 : decode method_8_code 6 = .ok (.irem, 1) := by decide +kernel
theorem d9_7 : decode method_8_code 7 = .ok (.ireturn, 1) := by decide +kernel
theorem ef_9 (m : MethodId) (a : Int32) : entryFrame m #[(.int a)] 1 = mkF m 0 #[.val (.int a)] [] := by first | (simp [entryFrame, mkF, argsToLocals, Value.category]; done) | rfl
def R9 : Room := ({ frames := 0, cells := 0, slots := 0, locals := 0 } : Room)
set_option maxRecDepth 65536 in
set_option maxHeartbeats 40000000 in
theorem rm9 (l : Launch) (Z : State) (a0 : Array Value) (hw : ∀ d ∈ tables_1, d.before a0 Z = true) (a : Int32) (h0 : Heap) (n0 : Nat) (hO : Old Z n0 h0)  :
    Con l Z (⟨"com/example/indexloom/indexloom/TextsFindPinLaw", "start", "(I)I"⟩ : MethodName) method_8_code 1 (some .int) [] R9 R9.cells R9.slots #[(.int a)] h0 (fun r h L => ∃ x : Nat, r = some (.int (Int32.ofNat x)) ∧ x < 5 ∧ h0 = h ∧ L = []) := by
  refine Con.intro (n0 := n0) (plainFor_of_name pn_5) (fun m => ef_9 m a) hO ?_
  intro p e s m below meth cc T hs0 X0
  refine g_iloadN X0 d9_0 (pc' := 1) rfl rfl ?_
  refine g_sipush X0 d9_1 (pc' := 4) rfl (v := (255 : Int32)) rfl ?_
  refine g_iand X0 d9_4 (pc' := 5) rfl ?_
  refine g_iconst X0 d9_5 (pc' := 6) rfl (v := (5 : Int32)) rfl ?_
  refine g_irem X0 d9_6 (pc' := 7) rfl (by decide) ?_
  obtain ⟨x, hx, ex⟩ := own_st a
  rw [ex]
  exact g_retI X0 rfl d9_7 (by decide) (by decide) ⟨x, rfl, hx, rfl, rfl⟩

theorem d10_0 : decode method_9_code 0 = .ok (.iload_n 1, 1) := by decide +kernel
theorem d10_1 : decode method_9_code 1 = .ok (.iload_n 0, 1) := by decide +kernel
theorem d10_2 : decode method_9_code 2 = .ok (.bipush 8, 2) := by decide +kernel
theorem d10_4 : decode method_9_code 4 = .ok (.iushr, 1) := by decide +kernel
theorem d10_5 : decode method_9_code 5 = .ok (.ldc 28, 2) := by decide +kernel
theorem d10_7 : decode method_9_code 7 = .ok (.iand, 1) := by decide +kernel
theorem d10_8 : decode method_9_code 8 = .ok (.iconst 5, 1) := by decide +kernel
theorem d10_9 : decode method_9_code 9 = .ok (.iload_n 1, 1) := by decide +kernel
theorem d10_10 : decode method_9_code 10 = .ok (.isub, 1) := by decide +kernel
theorem d10_11 : decode method_9_code 11 = .ok (.irem, 1) := by decide +kernel
theorem d10_12 : decode method_9_code 12 = .ok (.iadd, 1) := by decide +kernel
theorem d10_13 : decode method_9_code 13 = .ok (.ireturn, 1) := by decide +kernel
theorem ef_10 (m : MethodId) (a : Int32) (x : Nat) : entryFrame m #[(.int a), (.int (Int32.ofNat x))] 2 = mkF m 0 #[.val (.int a), .val (.int (Int32.ofNat x))] [] := by first | (simp [entryFrame, mkF, argsToLocals, Value.category]; done) | rfl
def R10 : Room := ({ frames := 0, cells := 0, slots := 0, locals := 0 } : Room)
set_option maxRecDepth 65536 in
set_option maxHeartbeats 40000000 in
theorem rm10 (l : Launch) (Z : State) (a0 : Array Value) (hw : ∀ d ∈ tables_1, d.before a0 Z = true) (a : Int32) (x : Nat) (h0 : Heap) (n0 : Nat) (hO : Old Z n0 h0) (hx : x < 5) :
    Con l Z (⟨"com/example/indexloom/indexloom/TextsFindPinLaw", "end", "(II)I"⟩ : MethodName) method_9_code 2 (some .int) [] R10 R10.cells R10.slots #[(.int a), (.int (Int32.ofNat x))] h0 (fun r h L => ∃ y : Nat, r = some (.int (Int32.ofNat y)) ∧ (x ≤ y ∧ y ≤ 4) ∧ h0 = h ∧ L = []) := by
  refine Con.intro (n0 := n0) (plainFor_of_name pn_5) (fun m => ef_10 m a x) hO ?_
  intro p e s m below meth cc T hs0 X0
  refine g_iloadN X0 d10_0 (pc' := 1) rfl rfl ?_
  refine g_iloadN X0 d10_1 (pc' := 2) rfl rfl ?_
  refine g_bipush X0 d10_2 (pc' := 4) rfl (v := (8 : Int32)) rfl ?_
  refine g_iushr X0 d10_4 (pc' := 5) rfl ?_
  refine g_ldc X0 (hw _ m50) d10_5 (pc' := 7) rfl ?_
  refine g_iand X0 d10_7 (pc' := 8) rfl ?_
  refine g_iconst X0 d10_8 (pc' := 9) rfl (v := (5 : Int32)) rfl ?_
  refine g_iloadN X0 d10_9 (pc' := 10) rfl rfl ?_
  refine g_isub X0 d10_10 (pc' := 11) rfl ?_
  refine g_irem X0 d10_11 (pc' := 12) rfl (own_nz hx) ?_
  refine g_iadd X0 d10_12 (pc' := 13) rfl ?_
  obtain ⟨y, hy1, hy2, ey⟩ := own_en a hx
  rw [ey]
  exact g_retI X0 rfl d10_13 (by decide) (by decide) ⟨y, rfl, ⟨hy1, hy2⟩, rfl, rfl⟩

theorem d12_0 : decode method_6_code 0 = .ok (.iload_n 2, 1) := by decide +kernel
theorem d12_1 : decode method_6_code 1 = .ok (.iload_n 1, 1) := by decide +kernel
theorem d12_2 : decode method_6_code 2 = .ok (.isub, 1) := by decide +kernel
theorem d12_3 : decode method_6_code 3 = .ok (.iload 4, 2) := by decide +kernel
theorem d12_5 : decode method_6_code 5 = .ok (.if_icmp .ne 73, 3) := by decide +kernel
theorem d12_8 : decode method_6_code 8 = .ok (.iload 4, 2) := by decide +kernel
theorem d12_10 : decode method_6_code 10 = .ok (.iconst 1, 1) := by decide +kernel
theorem d12_11 : decode method_6_code 11 = .ok (.if_icmp .lt 12, 3) := by decide +kernel
theorem d12_14 : decode method_6_code 14 = .ok (.aload_n 0, 1) := by decide +kernel
theorem d12_15 : decode method_6_code 15 = .ok (.iload_n 1, 1) := by decide +kernel
theorem d12_16 : decode method_6_code 16 = .ok (.baload, 1) := by decide +kernel
theorem d12_17 : decode method_6_code 17 = .ok (.aload_n 3, 1) := by decide +kernel
theorem d12_18 : decode method_6_code 18 = .ok (.iconst 0, 1) := by decide +kernel
theorem d12_19 : decode method_6_code 19 = .ok (.baload, 1) := by decide +kernel
theorem d12_20 : decode method_6_code 20 = .ok (.if_icmp .ne 58, 3) := by decide +kernel
theorem d12_23 : decode method_6_code 23 = .ok (.iload 4, 2) := by decide +kernel
theorem d12_25 : decode method_6_code 25 = .ok (.iconst 2, 1) := by decide +kernel
theorem d12_26 : decode method_6_code 26 = .ok (.if_icmp .lt 14, 3) := by decide +kernel
theorem d12_29 : decode method_6_code 29 = .ok (.aload_n 0, 1) := by decide +kernel
theorem d12_30 : decode method_6_code 30 = .ok (.iload_n 1, 1) := by decide +kernel
theorem d12_31 : decode method_6_code 31 = .ok (.iconst 1, 1) := by decide +kernel
theorem d12_32 : decode method_6_code 32 = .ok (.iadd, 1) := by decide +kernel
theorem d12_33 : decode method_6_code 33 = .ok (.baload, 1) := by decide +kernel
theorem d12_34 : decode method_6_code 34 = .ok (.aload_n 3, 1) := by decide +kernel
theorem d12_35 : decode method_6_code 35 = .ok (.iconst 1, 1) := by decide +kernel
theorem d12_36 : decode method_6_code 36 = .ok (.baload, 1) := by decide +kernel
theorem d12_37 : decode method_6_code 37 = .ok (.if_icmp .ne 41, 3) := by decide +kernel
theorem d12_40 : decode method_6_code 40 = .ok (.iload 4, 2) := by decide +kernel
theorem d12_42 : decode method_6_code 42 = .ok (.iconst 3, 1) := by decide +kernel
theorem d12_43 : decode method_6_code 43 = .ok (.if_icmp .lt 14, 3) := by decide +kernel
theorem d12_46 : decode method_6_code 46 = .ok (.aload_n 0, 1) := by decide +kernel
theorem d12_47 : decode method_6_code 47 = .ok (.iload_n 1, 1) := by decide +kernel
theorem d12_48 : decode method_6_code 48 = .ok (.iconst 2, 1) := by decide +kernel
theorem d12_49 : decode method_6_code 49 = .ok (.iadd, 1) := by decide +kernel
theorem d12_50 : decode method_6_code 50 = .ok (.baload, 1) := by decide +kernel
theorem d12_51 : decode method_6_code 51 = .ok (.aload_n 3, 1) := by decide +kernel
theorem d12_52 : decode method_6_code 52 = .ok (.iconst 2, 1) := by decide +kernel
theorem d12_53 : decode method_6_code 53 = .ok (.baload, 1) := by decide +kernel
theorem d12_54 : decode method_6_code 54 = .ok (.if_icmp .ne 24, 3) := by decide +kernel
theorem d12_57 : decode method_6_code 57 = .ok (.iload 4, 2) := by decide +kernel
theorem d12_59 : decode method_6_code 59 = .ok (.iconst 4, 1) := by decide +kernel
theorem d12_60 : decode method_6_code 60 = .ok (.if_icmp .lt 14, 3) := by decide +kernel
theorem d12_63 : decode method_6_code 63 = .ok (.aload_n 0, 1) := by decide +kernel
theorem d12_64 : decode method_6_code 64 = .ok (.iload_n 1, 1) := by decide +kernel
theorem d12_65 : decode method_6_code 65 = .ok (.iconst 3, 1) := by decide +kernel
theorem d12_66 : decode method_6_code 66 = .ok (.iadd, 1) := by decide +kernel
theorem d12_67 : decode method_6_code 67 = .ok (.baload, 1) := by decide +kernel
theorem d12_68 : decode method_6_code 68 = .ok (.aload_n 3, 1) := by decide +kernel
theorem d12_69 : decode method_6_code 69 = .ok (.iconst 3, 1) := by decide +kernel
theorem d12_70 : decode method_6_code 70 = .ok (.baload, 1) := by decide +kernel
theorem d12_71 : decode method_6_code 71 = .ok (.if_icmp .ne 7, 3) := by decide +kernel
theorem d12_74 : decode method_6_code 74 = .ok (.iconst 1, 1) := by decide +kernel
theorem d12_75 : decode method_6_code 75 = .ok (.goto 4, 3) := by decide +kernel
theorem d12_78 : decode method_6_code 78 = .ok (.iconst 0, 1) := by decide +kernel
theorem d12_79 : decode method_6_code 79 = .ok (.ireturn, 1) := by decide +kernel
theorem ef_12 (m : MethodId) (q : Addr) (x : Nat) (y : Nat) (k : Addr) (n : Nat) : entryFrame m #[(.ref q), (.int (Int32.ofNat x)), (.int (Int32.ofNat y)), (.ref k), (.int (Int32.ofNat n))] 5 = mkF m 0 #[.val (.ref q), .val (.int (Int32.ofNat x)), .val (.int (Int32.ofNat y)), .val (.ref k), .val (.int (Int32.ofNat n))] [] := by first | (simp [entryFrame, mkF, argsToLocals, Value.category]; done) | rfl
def R12 : Room := ({ frames := 0, cells := 0, slots := 0, locals := 0 } : Room)
set_option maxRecDepth 65536 in
set_option maxHeartbeats 40000000 in
theorem rm12 (l : Launch) (Z : State) (a0 : Array Value) (hw : ∀ d ∈ tables_1, d.before a0 Z = true) (q : Addr) (x : Nat) (y : Nat) (k : Addr) (n : Nat) (h0 : Heap) (n0 : Nat) (hO : Old Z n0 h0) (qs ks : List Int32) (A_q : Arx Z h0 q .byte (own_bs qs)) (A_k : Arx Z h0 k .byte (own_bs ks)) (hq : qs.length = 4) (hk : ks.length = 4) (hse : x ≤ y) (he : y ≤ 4) (hn4 : n ≤ 4) :
    Con l Z (⟨"com/example/indexloom/indexloom/TextsFindPinLaw", "match", "([BII[BI)Z"⟩ : MethodName) method_6_code 5 (some .boolean) [] R12 R12.cells R12.slots #[(.ref q), (.int (Int32.ofNat x)), (.int (Int32.ofNat y)), (.ref k), (.int (Int32.ofNat n))] h0 (fun r h L => ∃ b : Int32, r = some (.int b) ∧ (b = 1 ∧ (sl qs x y = ks.take n) ∨ b = 0 ∧ ¬ (sl qs x y = ks.take n)) ∧ h0 = h ∧ L = []) := by
  refine Con.intro (n0 := n0) (plainFor_of_name pn_5) (fun m => ef_12 m q x y k n) hO ?_
  intro p e s m below meth cc T hs0 X0
  refine g_iloadN X0 d12_0 (pc' := 1) rfl rfl ?_
  refine g_iloadN X0 d12_1 (pc' := 2) rfl rfl ?_
  refine g_isub X0 d12_2 (pc' := 3) rfl ?_
  rw [own_subN hse]
  refine g_iload X0 d12_3 (pc' := 5) rfl rfl ?_
  refine g_icmp_ne X0 d12_5 (pt := 78) (by decide) (pc' := 8) rfl (fun hc5 => ?_) (fun hc5 => ?_)
  · refine g_iconst X0 d12_78 (pc' := 79) rfl (v := (0 : Int32)) rfl ?_
    have hP : ¬ (sl qs x y = ks.take n) := own_mf hq hk hse he hn4 (fun z => hc5 (congrArg Int32.ofNat z))
    exact g_retN X0 (Or.inl rfl) rfl d12_79 (by decide) (by decide) ⟨0, rfl, Or.inr ⟨rfl, hP⟩, rfl, rfl⟩
  · have hn := (own_inj (by omega) (by omega)).mp hc5
    refine g_iload X0 d12_8 (pc' := 10) rfl rfl ?_
    refine g_iconst X0 d12_10 (pc' := 11) rfl (v := (1 : Int32)) rfl ?_
    refine g_icmp_lt X0 d12_11 (pt := 23) (by decide) (pc' := 14) rfl (fun hc11 => ?_) (fun hc11 => ?_)
    · have hs0 : n < 1 := (own_ltN (j := 1) (by omega) (by omega)).mp hc11
      refine g_iload X0 d12_23 (pc' := 25) rfl rfl ?_
      refine g_iconst X0 d12_25 (pc' := 26) rfl (v := (2 : Int32)) rfl ?_
      refine g_icmp_lt_t X0 d12_26 (pt := 40) (by decide) ((own_ltN (j := 2) (by omega) (by omega)).mpr (by omega)) ?_
      refine g_iload X0 d12_40 (pc' := 42) rfl rfl ?_
      refine g_iconst X0 d12_42 (pc' := 43) rfl (v := (3 : Int32)) rfl ?_
      refine g_icmp_lt_t X0 d12_43 (pt := 57) (by decide) ((own_ltN (j := 3) (by omega) (by omega)).mpr (by omega)) ?_
      refine g_iload X0 d12_57 (pc' := 59) rfl rfl ?_
      refine g_iconst X0 d12_59 (pc' := 60) rfl (v := (4 : Int32)) rfl ?_
      refine g_icmp_lt_t X0 d12_60 (pt := 74) (by decide) ((own_ltN (j := 4) (by omega) (by omega)).mpr (by omega)) ?_
      refine g_iconst X0 d12_74 (pc' := 75) rfl (v := (1 : Int32)) rfl ?_
      refine g_goto X0 d12_75 (pt := 79) (by decide) ?_
      have hn := (own_inj (by omega) (by omega)).mp hc5
      have hP : (sl qs x y = ks.take n) := own_mt hq hk hse he hn (fun i hi => by
        have hi4 : False := by omega
        exact hi4.elim)
      exact g_retN X0 (Or.inl rfl) rfl d12_79 (by decide) (by decide) ⟨1, rfl, Or.inl ⟨rfl, hP⟩, rfl, rfl⟩
    · have hs0 : ¬ n < 1 := fun z => hc11 ((own_ltN (j := 1) (by omega) (by omega)).mpr z)
      refine g_aloadN X0 d12_14 (pc' := 15) rfl rfl rfl ?_
      refine g_iloadN X0 d12_15 (pc' := 16) rfl rfl ?_
      refine g_baload X0 (i := (x + 0)) (v := (.int (qs[x + 0]'(by omega)))) A_q (own_small (by omega)) (own_bs_at (by omega)) d12_16 (pc' := 17) rfl ?_
      refine g_aloadN X0 d12_17 (pc' := 18) rfl rfl rfl ?_
      refine g_iconst X0 d12_18 (pc' := 19) rfl (v := (0 : Int32)) rfl ?_
      refine g_baload X0 (i := 0) (v := (.int (ks[0]'(by omega)))) A_k rfl (own_bs_at (by omega)) d12_19 (pc' := 20) rfl ?_
      refine g_icmp_ne X0 d12_20 (pt := 78) (by decide) (pc' := 23) rfl (fun hc20 => ?_) (fun hc20 => ?_)
      · refine g_iconst X0 d12_78 (pc' := 79) rfl (v := (0 : Int32)) rfl ?_
        have hn := (own_inj (by omega) (by omega)).mp hc5
        have hP : ¬ (sl qs x y = ks.take n) := own_mg (i := 0) hn (by omega) (fun z => by rw [List.getElem?_eq_getElem (by omega), List.getElem?_eq_getElem (by omega)] at z; exact hc20 (Option.some.inj z))
        exact g_retN X0 (Or.inl rfl) rfl d12_79 (by decide) (by decide) ⟨0, rfl, Or.inr ⟨rfl, hP⟩, rfl, rfl⟩
      · refine g_iload X0 d12_23 (pc' := 25) rfl rfl ?_
        refine g_iconst X0 d12_25 (pc' := 26) rfl (v := (2 : Int32)) rfl ?_
        refine g_icmp_lt X0 d12_26 (pt := 40) (by decide) (pc' := 29) rfl (fun hc26 => ?_) (fun hc26 => ?_)
        · have hs1 : n < 2 := (own_ltN (j := 2) (by omega) (by omega)).mp hc26
          refine g_iload X0 d12_40 (pc' := 42) rfl rfl ?_
          refine g_iconst X0 d12_42 (pc' := 43) rfl (v := (3 : Int32)) rfl ?_
          refine g_icmp_lt_t X0 d12_43 (pt := 57) (by decide) ((own_ltN (j := 3) (by omega) (by omega)).mpr (by omega)) ?_
          refine g_iload X0 d12_57 (pc' := 59) rfl rfl ?_
          refine g_iconst X0 d12_59 (pc' := 60) rfl (v := (4 : Int32)) rfl ?_
          refine g_icmp_lt_t X0 d12_60 (pt := 74) (by decide) ((own_ltN (j := 4) (by omega) (by omega)).mpr (by omega)) ?_
          refine g_iconst X0 d12_74 (pc' := 75) rfl (v := (1 : Int32)) rfl ?_
          refine g_goto X0 d12_75 (pt := 79) (by decide) ?_
          have hn := (own_inj (by omega) (by omega)).mp hc5
          have hP : (sl qs x y = ks.take n) := own_mt hq hk hse he hn (fun i hi => by
            have hi4 : i = 0 := by omega
            rcases hi4 with rfl
            · rw [List.getElem?_eq_getElem (by omega), List.getElem?_eq_getElem (by omega)]; exact congrArg some hc20)
          exact g_retN X0 (Or.inl rfl) rfl d12_79 (by decide) (by decide) ⟨1, rfl, Or.inl ⟨rfl, hP⟩, rfl, rfl⟩
        · have hs1 : ¬ n < 2 := fun z => hc26 ((own_ltN (j := 2) (by omega) (by omega)).mpr z)
          refine g_aloadN X0 d12_29 (pc' := 30) rfl rfl rfl ?_
          refine g_iloadN X0 d12_30 (pc' := 31) rfl rfl ?_
          refine g_iconst X0 d12_31 (pc' := 32) rfl (v := (1 : Int32)) rfl ?_
          refine g_iadd X0 d12_32 (pc' := 33) rfl ?_
          refine g_baload X0 (i := (x + 1)) (v := (.int (qs[x + 1]'(by omega)))) A_q (by rw [show (1 : Int32) = Int32.ofNat 1 from rfl, own_add]; exact own_small (by omega)) (own_bs_at (by omega)) d12_33 (pc' := 34) rfl ?_
          refine g_aloadN X0 d12_34 (pc' := 35) rfl rfl rfl ?_
          refine g_iconst X0 d12_35 (pc' := 36) rfl (v := (1 : Int32)) rfl ?_
          refine g_baload X0 (i := 1) (v := (.int (ks[1]'(by omega)))) A_k rfl (own_bs_at (by omega)) d12_36 (pc' := 37) rfl ?_
          refine g_icmp_ne X0 d12_37 (pt := 78) (by decide) (pc' := 40) rfl (fun hc37 => ?_) (fun hc37 => ?_)
          · refine g_iconst X0 d12_78 (pc' := 79) rfl (v := (0 : Int32)) rfl ?_
            have hn := (own_inj (by omega) (by omega)).mp hc5
            have hP : ¬ (sl qs x y = ks.take n) := own_mg (i := 1) hn (by omega) (fun z => by rw [List.getElem?_eq_getElem (by omega), List.getElem?_eq_getElem (by omega)] at z; exact hc37 (Option.some.inj z))
            exact g_retN X0 (Or.inl rfl) rfl d12_79 (by decide) (by decide) ⟨0, rfl, Or.inr ⟨rfl, hP⟩, rfl, rfl⟩
          · refine g_iload X0 d12_40 (pc' := 42) rfl rfl ?_
            refine g_iconst X0 d12_42 (pc' := 43) rfl (v := (3 : Int32)) rfl ?_
            refine g_icmp_lt X0 d12_43 (pt := 57) (by decide) (pc' := 46) rfl (fun hc43 => ?_) (fun hc43 => ?_)
            · have hs2 : n < 3 := (own_ltN (j := 3) (by omega) (by omega)).mp hc43
              refine g_iload X0 d12_57 (pc' := 59) rfl rfl ?_
              refine g_iconst X0 d12_59 (pc' := 60) rfl (v := (4 : Int32)) rfl ?_
              refine g_icmp_lt_t X0 d12_60 (pt := 74) (by decide) ((own_ltN (j := 4) (by omega) (by omega)).mpr (by omega)) ?_
              refine g_iconst X0 d12_74 (pc' := 75) rfl (v := (1 : Int32)) rfl ?_
              refine g_goto X0 d12_75 (pt := 79) (by decide) ?_
              have hn := (own_inj (by omega) (by omega)).mp hc5
              have hP : (sl qs x y = ks.take n) := own_mt hq hk hse he hn (fun i hi => by
                have hi4 : i = 0 ∨ i = 1 := by omega
                rcases hi4 with rfl | rfl
                · rw [List.getElem?_eq_getElem (by omega), List.getElem?_eq_getElem (by omega)]; exact congrArg some hc20
                · rw [List.getElem?_eq_getElem (by omega), List.getElem?_eq_getElem (by omega)]; exact congrArg some hc37)
              exact g_retN X0 (Or.inl rfl) rfl d12_79 (by decide) (by decide) ⟨1, rfl, Or.inl ⟨rfl, hP⟩, rfl, rfl⟩
            · have hs2 : ¬ n < 3 := fun z => hc43 ((own_ltN (j := 3) (by omega) (by omega)).mpr z)
              refine g_aloadN X0 d12_46 (pc' := 47) rfl rfl rfl ?_
              refine g_iloadN X0 d12_47 (pc' := 48) rfl rfl ?_
              refine g_iconst X0 d12_48 (pc' := 49) rfl (v := (2 : Int32)) rfl ?_
              refine g_iadd X0 d12_49 (pc' := 50) rfl ?_
              refine g_baload X0 (i := (x + 2)) (v := (.int (qs[x + 2]'(by omega)))) A_q (by rw [show (2 : Int32) = Int32.ofNat 2 from rfl, own_add]; exact own_small (by omega)) (own_bs_at (by omega)) d12_50 (pc' := 51) rfl ?_
              refine g_aloadN X0 d12_51 (pc' := 52) rfl rfl rfl ?_
              refine g_iconst X0 d12_52 (pc' := 53) rfl (v := (2 : Int32)) rfl ?_
              refine g_baload X0 (i := 2) (v := (.int (ks[2]'(by omega)))) A_k rfl (own_bs_at (by omega)) d12_53 (pc' := 54) rfl ?_
              refine g_icmp_ne X0 d12_54 (pt := 78) (by decide) (pc' := 57) rfl (fun hc54 => ?_) (fun hc54 => ?_)
              · refine g_iconst X0 d12_78 (pc' := 79) rfl (v := (0 : Int32)) rfl ?_
                have hn := (own_inj (by omega) (by omega)).mp hc5
                have hP : ¬ (sl qs x y = ks.take n) := own_mg (i := 2) hn (by omega) (fun z => by rw [List.getElem?_eq_getElem (by omega), List.getElem?_eq_getElem (by omega)] at z; exact hc54 (Option.some.inj z))
                exact g_retN X0 (Or.inl rfl) rfl d12_79 (by decide) (by decide) ⟨0, rfl, Or.inr ⟨rfl, hP⟩, rfl, rfl⟩
              · refine g_iload X0 d12_57 (pc' := 59) rfl rfl ?_
                refine g_iconst X0 d12_59 (pc' := 60) rfl (v := (4 : Int32)) rfl ?_
                refine g_icmp_lt X0 d12_60 (pt := 74) (by decide) (pc' := 63) rfl (fun hc60 => ?_) (fun hc60 => ?_)
                · have hs3 : n < 4 := (own_ltN (j := 4) (by omega) (by omega)).mp hc60
                  refine g_iconst X0 d12_74 (pc' := 75) rfl (v := (1 : Int32)) rfl ?_
                  refine g_goto X0 d12_75 (pt := 79) (by decide) ?_
                  have hn := (own_inj (by omega) (by omega)).mp hc5
                  have hP : (sl qs x y = ks.take n) := own_mt hq hk hse he hn (fun i hi => by
                    have hi4 : i = 0 ∨ i = 1 ∨ i = 2 := by omega
                    rcases hi4 with rfl | rfl | rfl
                    · rw [List.getElem?_eq_getElem (by omega), List.getElem?_eq_getElem (by omega)]; exact congrArg some hc20
                    · rw [List.getElem?_eq_getElem (by omega), List.getElem?_eq_getElem (by omega)]; exact congrArg some hc37
                    · rw [List.getElem?_eq_getElem (by omega), List.getElem?_eq_getElem (by omega)]; exact congrArg some hc54)
                  exact g_retN X0 (Or.inl rfl) rfl d12_79 (by decide) (by decide) ⟨1, rfl, Or.inl ⟨rfl, hP⟩, rfl, rfl⟩
                · have hs3 : ¬ n < 4 := fun z => hc60 ((own_ltN (j := 4) (by omega) (by omega)).mpr z)
                  refine g_aloadN X0 d12_63 (pc' := 64) rfl rfl rfl ?_
                  refine g_iloadN X0 d12_64 (pc' := 65) rfl rfl ?_
                  refine g_iconst X0 d12_65 (pc' := 66) rfl (v := (3 : Int32)) rfl ?_
                  refine g_iadd X0 d12_66 (pc' := 67) rfl ?_
                  refine g_baload X0 (i := (x + 3)) (v := (.int (qs[x + 3]'(by omega)))) A_q (by rw [show (3 : Int32) = Int32.ofNat 3 from rfl, own_add]; exact own_small (by omega)) (own_bs_at (by omega)) d12_67 (pc' := 68) rfl ?_
                  refine g_aloadN X0 d12_68 (pc' := 69) rfl rfl rfl ?_
                  refine g_iconst X0 d12_69 (pc' := 70) rfl (v := (3 : Int32)) rfl ?_
                  refine g_baload X0 (i := 3) (v := (.int (ks[3]'(by omega)))) A_k rfl (own_bs_at (by omega)) d12_70 (pc' := 71) rfl ?_
                  refine g_icmp_ne X0 d12_71 (pt := 78) (by decide) (pc' := 74) rfl (fun hc71 => ?_) (fun hc71 => ?_)
                  · refine g_iconst X0 d12_78 (pc' := 79) rfl (v := (0 : Int32)) rfl ?_
                    have hn := (own_inj (by omega) (by omega)).mp hc5
                    have hP : ¬ (sl qs x y = ks.take n) := own_mg (i := 3) hn (by omega) (fun z => by rw [List.getElem?_eq_getElem (by omega), List.getElem?_eq_getElem (by omega)] at z; exact hc71 (Option.some.inj z))
                    exact g_retN X0 (Or.inl rfl) rfl d12_79 (by decide) (by decide) ⟨0, rfl, Or.inr ⟨rfl, hP⟩, rfl, rfl⟩
                  · refine g_iconst X0 d12_74 (pc' := 75) rfl (v := (1 : Int32)) rfl ?_
                    refine g_goto X0 d12_75 (pt := 79) (by decide) ?_
                    have hn := (own_inj (by omega) (by omega)).mp hc5
                    have hP : (sl qs x y = ks.take n) := own_mt hq hk hse he hn (fun i hi => by
                      have hi4 : i = 0 ∨ i = 1 ∨ i = 2 ∨ i = 3 := by omega
                      rcases hi4 with rfl | rfl | rfl | rfl
                      · rw [List.getElem?_eq_getElem (by omega), List.getElem?_eq_getElem (by omega)]; exact congrArg some hc20
                      · rw [List.getElem?_eq_getElem (by omega), List.getElem?_eq_getElem (by omega)]; exact congrArg some hc37
                      · rw [List.getElem?_eq_getElem (by omega), List.getElem?_eq_getElem (by omega)]; exact congrArg some hc54
                      · rw [List.getElem?_eq_getElem (by omega), List.getElem?_eq_getElem (by omega)]; exact congrArg some hc71)
                    exact g_retN X0 (Or.inl rfl) rfl d12_79 (by decide) (by decide) ⟨1, rfl, Or.inl ⟨rfl, hP⟩, rfl, rfl⟩

theorem d11_0 : decode method_7_code 0 = .ok (.aload_n 0, 1) := by decide +kernel
theorem d11_1 : decode method_7_code 1 = .ok (.iload_n 1, 1) := by decide +kernel
theorem d11_2 : decode method_7_code 2 = .ok (.iload_n 2, 1) := by decide +kernel
theorem d11_3 : decode method_7_code 3 = .ok (.aload_n 3, 1) := by decide +kernel
theorem d11_4 : decode method_7_code 4 = .ok (.iload 4, 2) := by decide +kernel
theorem d11_6 : decode method_7_code 6 = .ok (.invokestatic 24, 3) := by decide +kernel
theorem d11_9 : decode method_7_code 9 = .ok (.ifCond .eq 6, 3) := by decide +kernel
theorem d11_12 : decode method_7_code 12 = .ok (.iload 5, 2) := by decide +kernel
theorem d11_14 : decode method_7_code 14 = .ok (.ireturn, 1) := by decide +kernel
theorem d11_15 : decode method_7_code 15 = .ok (.aload_n 0, 1) := by decide +kernel
theorem d11_16 : decode method_7_code 16 = .ok (.iload_n 1, 1) := by decide +kernel
theorem d11_17 : decode method_7_code 17 = .ok (.iload_n 2, 1) := by decide +kernel
theorem d11_18 : decode method_7_code 18 = .ok (.aload 6, 2) := by decide +kernel
theorem d11_20 : decode method_7_code 20 = .ok (.iload 7, 2) := by decide +kernel
theorem d11_22 : decode method_7_code 22 = .ok (.invokestatic 24, 3) := by decide +kernel
theorem d11_25 : decode method_7_code 25 = .ok (.ifCond .eq 6, 3) := by decide +kernel
theorem d11_28 : decode method_7_code 28 = .ok (.iload 8, 2) := by decide +kernel
theorem d11_30 : decode method_7_code 30 = .ok (.ireturn, 1) := by decide +kernel
theorem d11_31 : decode method_7_code 31 = .ok (.aload_n 0, 1) := by decide +kernel
theorem d11_32 : decode method_7_code 32 = .ok (.iload_n 1, 1) := by decide +kernel
theorem d11_33 : decode method_7_code 33 = .ok (.iload_n 2, 1) := by decide +kernel
theorem d11_34 : decode method_7_code 34 = .ok (.aload 9, 2) := by decide +kernel
theorem d11_36 : decode method_7_code 36 = .ok (.iload 10, 2) := by decide +kernel
theorem d11_38 : decode method_7_code 38 = .ok (.invokestatic 24, 3) := by decide +kernel
theorem d11_41 : decode method_7_code 41 = .ok (.ifCond .eq 6, 3) := by decide +kernel
theorem d11_44 : decode method_7_code 44 = .ok (.iload 11, 2) := by decide +kernel
theorem d11_46 : decode method_7_code 46 = .ok (.ireturn, 1) := by decide +kernel
theorem d11_47 : decode method_7_code 47 = .ok (.iconst (-1), 1) := by decide +kernel
theorem d11_48 : decode method_7_code 48 = .ok (.ireturn, 1) := by decide +kernel
theorem ef_11 (m : MethodId) (q : Addr) (x : Nat) (y : Nat) (k0 : Addr) (kl0 : Nat) (g0 : Int32) (k1 : Addr) (kl1 : Nat) (g1 : Int32) (k2 : Addr) (kl2 : Nat) (g2 : Int32) : entryFrame m #[(.ref q), (.int (Int32.ofNat x)), (.int (Int32.ofNat y)), (.ref k0), (.int (Int32.ofNat kl0)), (.int g0), (.ref k1), (.int (Int32.ofNat kl1)), (.int g1), (.ref k2), (.int (Int32.ofNat kl2)), (.int g2)] 12 = mkF m 0 #[.val (.ref q), .val (.int (Int32.ofNat x)), .val (.int (Int32.ofNat y)), .val (.ref k0), .val (.int (Int32.ofNat kl0)), .val (.int g0), .val (.ref k1), .val (.int (Int32.ofNat kl1)), .val (.int g1), .val (.ref k2), .val (.int (Int32.ofNat kl2)), .val (.int g2)] [] := by first | (simp [entryFrame, mkF, argsToLocals, Value.category]; done) | rfl
def R11 : Room := ({ frames := 1, cells := 0, slots := 0, locals := 16 } : Room)
set_option maxRecDepth 65536 in
set_option maxHeartbeats 40000000 in
theorem rm11 (l : Launch) (Z : State) (a0 : Array Value) (hw : ∀ d ∈ tables_1, d.before a0 Z = true) (q : Addr) (x : Nat) (y : Nat) (k0 : Addr) (kl0 : Nat) (g0 : Int32) (k1 : Addr) (kl1 : Nat) (g1 : Int32) (k2 : Addr) (kl2 : Nat) (g2 : Int32) (h0 : Heap) (n0 : Nat) (hO : Old Z n0 h0) (qs ks0 ks1 ks2 : List Int32) (A_q : Arx Z h0 q .byte (own_bs qs)) (hq : qs.length = 4) (hse : x ≤ y) (he : y ≤ 4) (A_k0 : Arx Z h0 k0 .byte (own_bs ks0)) (hk0 : ks0.length = 4) (hn0 : kl0 ≤ 4) (A_k1 : Arx Z h0 k1 .byte (own_bs ks1)) (hk1 : ks1.length = 4) (hn1 : kl1 ≤ 4) (A_k2 : Arx Z h0 k2 .byte (own_bs ks2)) (hk2 : ks2.length = 4) (hn2 : kl2 ≤ 4) :
    Con l Z (⟨"com/example/indexloom/indexloom/TextsFindPinLaw", "expected", "([BII[BII[BII[BII)I"⟩ : MethodName) method_7_code 12 (some .int) [] R11 R11.cells R11.slots #[(.ref q), (.int (Int32.ofNat x)), (.int (Int32.ofNat y)), (.ref k0), (.int (Int32.ofNat kl0)), (.int g0), (.ref k1), (.int (Int32.ofNat kl1)), (.int g1), (.ref k2), (.int (Int32.ofNat kl2)), (.int g2)] h0 (fun r h L => ∃ e : Int32, r = some (.int e) ∧ ((sl qs x y = ks0.take kl0) ∧ e = g0 ∨ ¬ (sl qs x y = ks0.take kl0) ∧ (sl qs x y = ks1.take kl1) ∧ e = g1 ∨ ¬ (sl qs x y = ks0.take kl0) ∧ ¬ (sl qs x y = ks1.take kl1) ∧ (sl qs x y = ks2.take kl2) ∧ e = g2 ∨ ¬ (sl qs x y = ks0.take kl0) ∧ ¬ (sl qs x y = ks1.take kl1) ∧ ¬ (sl qs x y = ks2.take kl2) ∧ e = -1) ∧ h0 = h ∧ L = []) := by
  refine Con.intro (n0 := n0) (plainFor_of_name pn_5) (fun m => ef_11 m q x y k0 kl0 g0 k1 kl1 g1 k2 kl2 g2) hO ?_
  intro p e s m below meth cc T hs0 X0
  refine g_aloadN X0 d11_0 (pc' := 1) rfl rfl rfl ?_
  refine g_iloadN X0 d11_1 (pc' := 2) rfl rfl ?_
  refine g_iloadN X0 d11_2 (pc' := 3) rfl rfl ?_
  refine g_aloadN X0 d11_3 (pc' := 4) rfl rfl rfl ?_
  refine g_iload X0 d11_4 (pc' := 6) rfl rfl ?_
  refine g_callS X0 (y := (⟨"com/example/indexloom/indexloom/TextsFindPinLaw", "match", "([BII[BI)Z"⟩ : MethodName)) [(.ref q), (.int (Int32.ofNat x)), (.int (Int32.ofNat y)), (.ref k0), (.int (Int32.ofNat kl0))] (hw _ m54) (hw _ m55) (hw _ m2) (hw _ m56) (hw _ m2) (rm12 l Z a0 hw q x y k0 kl0 h0 n0 X0.old qs ks0 A_q A_k0 hq hk0 hse he hn0) (by decide) (by decide) (by decide) (by decide) (by decide) rfl pd_16 rfl (rest := []) rfl (W := 0) rfl d11_6 (pc' := 9) rfl ?_
  rintro _ T118 _ _ Y118 ⟨z118, rfl, r118, rfl, rfl⟩
  have X118 := Y118 X0.old (Fr.nil _)
  show Go p e below _ (State.setTop _ (mkF m 9 #[.val (.ref q), .val (.int (Int32.ofNat x)), .val (.int (Int32.ofNat y)), .val (.ref k0), .val (.int (Int32.ofNat kl0)), .val (.int g0), .val (.ref k1), .val (.int (Int32.ofNat kl1)), .val (.int g1), .val (.ref k2), .val (.int (Int32.ofNat kl2)), .val (.int g2)] [(.int z118)]))
  refine g_if_eq X118 d11_9 (pt := 15) (by decide) (pc' := 12) rfl (fun hc9 => ?_) (fun hc9 => ?_)
  · refine g_aloadN X118 d11_15 (pc' := 16) rfl rfl rfl ?_
    refine g_iloadN X118 d11_16 (pc' := 17) rfl rfl ?_
    refine g_iloadN X118 d11_17 (pc' := 18) rfl rfl ?_
    refine g_aload X118 d11_18 (pc' := 20) rfl rfl rfl ?_
    refine g_iload X118 d11_20 (pc' := 22) rfl rfl ?_
    refine g_callS X118 (y := (⟨"com/example/indexloom/indexloom/TextsFindPinLaw", "match", "([BII[BI)Z"⟩ : MethodName)) [(.ref q), (.int (Int32.ofNat x)), (.int (Int32.ofNat y)), (.ref k1), (.int (Int32.ofNat kl1))] (hw _ m54) (hw _ m55) (hw _ m2) (hw _ m56) (hw _ m2) (rm12 l Z a0 hw q x y k1 kl1 h0 n0 X118.old qs ks1 A_q A_k1 hq hk1 hse he hn1) (by decide) (by decide) (by decide) (by decide) (by decide) rfl pd_16 rfl (rest := []) rfl (W := 0) rfl d11_22 (pc' := 25) rfl ?_
    rintro _ T119 _ _ Y119 ⟨z119, rfl, r119, rfl, rfl⟩
    have X119 := Y119 X118.old (Fr.nil _)
    show Go p e below _ (State.setTop _ (mkF m 25 #[.val (.ref q), .val (.int (Int32.ofNat x)), .val (.int (Int32.ofNat y)), .val (.ref k0), .val (.int (Int32.ofNat kl0)), .val (.int g0), .val (.ref k1), .val (.int (Int32.ofNat kl1)), .val (.int g1), .val (.ref k2), .val (.int (Int32.ofNat kl2)), .val (.int g2)] [(.int z119)]))
    refine g_if_eq X119 d11_25 (pt := 31) (by decide) (pc' := 28) rfl (fun hc25 => ?_) (fun hc25 => ?_)
    · refine g_aloadN X119 d11_31 (pc' := 32) rfl rfl rfl ?_
      refine g_iloadN X119 d11_32 (pc' := 33) rfl rfl ?_
      refine g_iloadN X119 d11_33 (pc' := 34) rfl rfl ?_
      refine g_aload X119 d11_34 (pc' := 36) rfl rfl rfl ?_
      refine g_iload X119 d11_36 (pc' := 38) rfl rfl ?_
      refine g_callS X119 (y := (⟨"com/example/indexloom/indexloom/TextsFindPinLaw", "match", "([BII[BI)Z"⟩ : MethodName)) [(.ref q), (.int (Int32.ofNat x)), (.int (Int32.ofNat y)), (.ref k2), (.int (Int32.ofNat kl2))] (hw _ m54) (hw _ m55) (hw _ m2) (hw _ m56) (hw _ m2) (rm12 l Z a0 hw q x y k2 kl2 h0 n0 X119.old qs ks2 A_q A_k2 hq hk2 hse he hn2) (by decide) (by decide) (by decide) (by decide) (by decide) rfl pd_16 rfl (rest := []) rfl (W := 0) rfl d11_38 (pc' := 41) rfl ?_
      rintro _ T120 _ _ Y120 ⟨z120, rfl, r120, rfl, rfl⟩
      have X120 := Y120 X119.old (Fr.nil _)
      show Go p e below _ (State.setTop _ (mkF m 41 #[.val (.ref q), .val (.int (Int32.ofNat x)), .val (.int (Int32.ofNat y)), .val (.ref k0), .val (.int (Int32.ofNat kl0)), .val (.int g0), .val (.ref k1), .val (.int (Int32.ofNat kl1)), .val (.int g1), .val (.ref k2), .val (.int (Int32.ofNat kl2)), .val (.int g2)] [(.int z120)]))
      refine g_if_eq X120 d11_41 (pt := 47) (by decide) (pc' := 44) rfl (fun hc41 => ?_) (fun hc41 => ?_)
      · refine g_iconst X120 d11_47 (pc' := 48) rfl (v := (-1 : Int32)) rfl ?_
        exact g_retI X120 rfl d11_48 (by decide) (by decide) ⟨_, rfl, Or.inr (Or.inr (Or.inr ⟨((r118).elim (fun z => absurd (hc9.symm.trans z.1) (by decide)) (fun z => z.2)), ((r119).elim (fun z => absurd (hc25.symm.trans z.1) (by decide)) (fun z => z.2)), ((r120).elim (fun z => absurd (hc41.symm.trans z.1) (by decide)) (fun z => z.2)), rfl⟩)), rfl, rfl⟩
      · refine g_iload X120 d11_44 (pc' := 46) rfl rfl ?_
        exact g_retI X120 rfl d11_46 (by decide) (by decide) ⟨_, rfl, Or.inr (Or.inr (Or.inl ⟨((r118).elim (fun z => absurd (hc9.symm.trans z.1) (by decide)) (fun z => z.2)), ((r119).elim (fun z => absurd (hc25.symm.trans z.1) (by decide)) (fun z => z.2)), ((r120).elim (fun z => z.2) (fun z => absurd z.1 hc41)), rfl⟩)), rfl, rfl⟩
    · refine g_iload X119 d11_28 (pc' := 30) rfl rfl ?_
      exact g_retI X119 rfl d11_30 (by decide) (by decide) ⟨_, rfl, Or.inr (Or.inl ⟨((r118).elim (fun z => absurd (hc9.symm.trans z.1) (by decide)) (fun z => z.2)), ((r119).elim (fun z => z.2) (fun z => absurd z.1 hc25)), rfl⟩), rfl, rfl⟩
  · refine g_iload X118 d11_12 (pc' := 14) rfl rfl ?_
    exact g_retI X118 rfl d11_14 (by decide) (by decide) ⟨_, rfl, Or.inl ⟨((r118).elim (fun z => z.2) (fun z => absurd z.1 hc9)), rfl⟩, rfl, rfl⟩

theorem d8_0 : decode jdk_43_method_13_code 0 = .ok (.aload_n 0, 1) := by decide +kernel
theorem d8_1 : decode jdk_43_method_13_code 1 = .ok (.arraylength, 1) := by decide +kernel
theorem d8_2 : decode jdk_43_method_13_code 2 = .ok (.aload_n 1, 1) := by decide +kernel
theorem d8_3 : decode jdk_43_method_13_code 3 = .ok (.arraylength, 1) := by decide +kernel
theorem d8_4 : decode jdk_43_method_13_code 4 = .ok (.if_icmp .ne 30, 3) := by decide +kernel
theorem d8_7 : decode jdk_43_method_13_code 7 = .ok (.iconst 0, 1) := by decide +kernel
theorem d8_8 : decode jdk_43_method_13_code 8 = .ok (.istore_n 2, 1) := by decide +kernel
theorem d8_9 : decode jdk_43_method_13_code 9 = .ok (.iload_n 2, 1) := by decide +kernel
theorem d8_10 : decode jdk_43_method_13_code 10 = .ok (.aload_n 0, 1) := by decide +kernel
theorem d8_11 : decode jdk_43_method_13_code 11 = .ok (.arraylength, 1) := by decide +kernel
theorem d8_12 : decode jdk_43_method_13_code 12 = .ok (.if_icmp .ge 20, 3) := by decide +kernel
theorem d8_15 : decode jdk_43_method_13_code 15 = .ok (.aload_n 0, 1) := by decide +kernel
theorem d8_16 : decode jdk_43_method_13_code 16 = .ok (.iload_n 2, 1) := by decide +kernel
theorem d8_17 : decode jdk_43_method_13_code 17 = .ok (.baload, 1) := by decide +kernel
theorem d8_18 : decode jdk_43_method_13_code 18 = .ok (.aload_n 1, 1) := by decide +kernel
theorem d8_19 : decode jdk_43_method_13_code 19 = .ok (.iload_n 2, 1) := by decide +kernel
theorem d8_20 : decode jdk_43_method_13_code 20 = .ok (.baload, 1) := by decide +kernel
theorem d8_21 : decode jdk_43_method_13_code 21 = .ok (.if_icmp .eq 5, 3) := by decide +kernel
theorem d8_24 : decode jdk_43_method_13_code 24 = .ok (.iconst 0, 1) := by decide +kernel
theorem d8_25 : decode jdk_43_method_13_code 25 = .ok (.ireturn, 1) := by decide +kernel
theorem d8_26 : decode jdk_43_method_13_code 26 = .ok (.iinc 2 1, 3) := by decide +kernel
theorem d8_29 : decode jdk_43_method_13_code 29 = .ok (.goto (-20), 3) := by decide +kernel
theorem d8_32 : decode jdk_43_method_13_code 32 = .ok (.iconst 1, 1) := by decide +kernel
theorem d8_33 : decode jdk_43_method_13_code 33 = .ok (.ireturn, 1) := by decide +kernel
theorem d8_34 : decode jdk_43_method_13_code 34 = .ok (.iconst 0, 1) := by decide +kernel
theorem d8_35 : decode jdk_43_method_13_code 35 = .ok (.ireturn, 1) := by decide +kernel
theorem ef_8 (m : MethodId) (a : Addr) (b : Addr) : entryFrame m #[(.ref a), (.ref b)] 3 = mkF m 0 #[.val (.ref a), .val (.ref b), .unset] [] := by first | (simp [entryFrame, mkF, argsToLocals, Value.category]; done) | rfl
def R8 : Room := ({ frames := 0, cells := 0, slots := 0, locals := 0 } : Room)
set_option maxRecDepth 65536 in
set_option maxHeartbeats 40000000 in
theorem rm8 (l : Launch) (Z : State) (a0 : Array Value) (hw : ∀ d ∈ tables_1, d.before a0 Z = true) (a : Addr) (b : Addr) (h0 : Heap) (n0 : Nat) (hO : Old Z n0 h0) (xs ys : List Int32) (A_a : Arx Z h0 a .byte (own_bs xs)) (A_b : Arx Z h0 b .byte (own_bs ys)) (hx2 : xs.length ≤ 2) (hy2 : ys.length ≤ 2) :
    Con l Z (⟨"java/lang/StringLatin1", "equals", "([B[B)Z"⟩ : MethodName) jdk_43_method_13_code 3 (some .boolean) [] R8 R8.cells R8.slots #[(.ref a), (.ref b)] h0 (fun r h L => ∃ b : Int32, r = some (.int b) ∧ (b = 1 ∧ xs = ys ∨ b = 0 ∧ ¬ xs = ys) ∧ h0 = h ∧ L = []) := by
  refine Con.intro (n0 := n0) (plainFor_of_name pn_1) (fun m => ef_8 m a b) hO ?_
  intro p e s m below meth cc T hs0 X0
  have loop : ∀ (r j : Nat) (T : State) (locs : List Loc), xs.length = ys.length → j + r = xs.length → locs = [] → (∀ i, i < j → xs[i]? = ys[i]?) → St Z n0 p l e R8 s m #[(.ref a), (.ref b)] below meth cc "java/lang/StringLatin1" "equals" jdk_43_method_13_code 3 (some .boolean) T locs 0 0 h0 → Go p e below (Kq s R8.cells R8.slots (fun r h L => ∃ b : Int32, r = some (.int b) ∧ (b = 1 ∧ xs = ys ∨ b = 0 ∧ ¬ xs = ys) ∧ h0 = h ∧ L = [])) (T.setTop (mkF m 9 #[.val (.ref a), .val (.ref b), .val (.int (Int32.ofNat j))] [])) := by
    intro r
    induction r with
    | zero =>
      rintro j T _ hxy hj rfl hp X
      refine g_iloadN X d8_9 (pc' := 10) rfl rfl ?_
      refine g_aloadN X d8_10 (pc' := 11) rfl rfl rfl ?_
      refine g_arraylength X (n := (Int32.ofNat xs.length)) A_a (by rw [own_bs_len]) d8_11 (pc' := 12) rfl ?_
      refine g_icmp_ge_t X d8_12 (pt := 32) (by decide) (by rw [show j = xs.length by omega]; exact fun q => Int32.lt_irrefl q) ?_
      refine g_iconst X d8_32 (pc' := 33) rfl (v := (1 : Int32)) rfl ?_
      exact g_retN X (Or.inl rfl) rfl d8_33 (by decide) (by decide) ⟨1, rfl, Or.inl ⟨rfl, List.ext_getElem? (fun i => by by_cases z : i < j; exact hp i z; rw [List.getElem?_eq_none (by omega), List.getElem?_eq_none (by omega)])⟩, rfl, rfl⟩
    | succ r ih =>
      rintro j T _ hxy hj rfl hp X
      refine g_iloadN X d8_9 (pc' := 10) rfl rfl ?_
      refine g_aloadN X d8_10 (pc' := 11) rfl rfl rfl ?_
      refine g_arraylength X (n := (Int32.ofNat xs.length)) A_a (by rw [own_bs_len]) d8_11 (pc' := 12) rfl ?_
      refine g_icmp_ge_f X d8_12 (pc' := 15) rfl ((own_ltN (by omega) (by omega)).mpr (by omega)) ?_
      refine g_aloadN X d8_15 (pc' := 16) rfl rfl rfl ?_
      refine g_iloadN X d8_16 (pc' := 17) rfl rfl ?_
      refine g_baload X (i := j) (v := (.int (xs[j]'(by omega)))) A_a (own_small (by omega)) (own_bs_at (by omega)) d8_17 (pc' := 18) rfl ?_
      refine g_aloadN X d8_18 (pc' := 19) rfl rfl rfl ?_
      refine g_iloadN X d8_19 (pc' := 20) rfl rfl ?_
      refine g_baload X (i := j) (v := (.int (ys[j]'(by omega)))) A_b (own_small (by omega)) (own_bs_at (by omega)) d8_20 (pc' := 21) rfl ?_
      refine g_icmp_eq X d8_21 (pt := 26) (by decide) (pc' := 24) rfl (fun hc21 => ?_) (fun hc21 => ?_)
      · refine g_iinc X d8_26 (pc' := 29) rfl rfl (L' := #[.val (.ref a), .val (.ref b), .val (.int ((Int32.ofNat j) + (1 : Int32)))]) rfl ?_
        refine g_goto X d8_29 (pt := 9) (by decide) ?_
        rw [own_succ]
        exact ih (j + 1) _ _ hxy (by omega) rfl (fun i hi => by by_cases z : i = j; rw [z, List.getElem?_eq_getElem (by omega), List.getElem?_eq_getElem (by omega)]; exact congrArg some hc21; exact hp i (by omega)) X
      · refine g_iconst X d8_24 (pc' := 25) rfl (v := (0 : Int32)) rfl ?_
        exact g_retN X (Or.inl rfl) rfl d8_25 (by decide) (by decide) ⟨0, rfl, Or.inr ⟨rfl, fun z => hc21 (by have z2 := congrArg (fun l => l[j]?) z; rw [List.getElem?_eq_getElem (by omega), List.getElem?_eq_getElem (by omega)] at z2; exact Option.some.inj z2)⟩, rfl, rfl⟩
  refine g_aloadN X0 d8_0 (pc' := 1) rfl rfl rfl ?_
  refine g_arraylength X0 (n := (Int32.ofNat xs.length)) A_a (by rw [own_bs_len]) d8_1 (pc' := 2) rfl ?_
  refine g_aloadN X0 d8_2 (pc' := 3) rfl rfl rfl ?_
  refine g_arraylength X0 (n := (Int32.ofNat ys.length)) A_b (by rw [own_bs_len]) d8_3 (pc' := 4) rfl ?_
  refine g_icmp_ne X0 d8_4 (pt := 34) (by decide) (pc' := 7) rfl (fun hc4 => ?_) (fun hc4 => ?_)
  · refine g_iconst X0 d8_34 (pc' := 35) rfl (v := (0 : Int32)) rfl ?_
    exact g_retN X0 (Or.inl rfl) rfl d8_35 (by decide) (by decide) ⟨0, rfl, Or.inr ⟨rfl, fun z => hc4 (by rw [z])⟩, rfl, rfl⟩
  · refine g_iconst X0 d8_7 (pc' := 8) rfl (v := (0 : Int32)) rfl ?_
    refine g_istoreN X0 d8_8 (pc' := 9) rfl (L' := #[.val (.ref a), .val (.ref b), .val (.int (0 : Int32))]) rfl ?_
    exact loop xs.length 0 _ _ ((own_inj (by omega) (by omega)).mp hc4) (by omega) rfl (fun i hi => absurd hi (Nat.not_lt_zero i)) X0

theorem own_fldu {Z : State} {h : Heap} {a : Addr} {C n d : String} {v v' : Value} (F : Fld Z h a C n d v) (G : Fld Z h a C n d v') : v = v' := by
  obtain ⟨c1, x1, x2, x3, x4, p1, p2, p3, r1⟩ := F
  obtain ⟨c2, y1, y2, y3, y4, q1, q2, q3, r2⟩ := G
  cases p1.symm.trans q1
  cases p2.symm.trans q2
  exact Option.some.inj (by first | exact (r1.2.2.2.2.symm.trans r2.2.2.2.2) | exact (r1.2.2.2.symm.trans r2.2.2.2) | exact (r1.2.2.symm.trans r2.2.2) | exact (r1.2.symm.trans r2.2) | exact r1.symm.trans r2 | exact p3.symm.trans q3)
theorem own_bsinj {xs ys : List Int32} (h : own_bs xs = own_bs ys) : xs = ys := by
  unfold own_bs at h
  exact (List.map_inj_right (fun a b q => Value.int.inj q)).mp h
theorem own_sseq {Z : State} {h : Heap} {a u w : Addr} {xs ys : List Int32} (H : SS Z h a u xs) (G : SS Z h a w ys) : xs = ys := by
  obtain ⟨-, -, F1, A1⟩ := H
  obtain ⟨-, -, F2, A2⟩ := G
  have e : u = w := Value.ref.inj (own_fldu F1 F2)
  subst e
  obtain ⟨c1, B1, q1, -⟩ := A1
  obtain ⟨c2, B2, q2, -⟩ := A2
  cases B1.1.symm.trans B2.1
  exact own_bsinj (q1.symm.trans q2)
theorem d7_0 : decode jdk_42_method_66_code 0 = .ok (.aload_n 0, 1) := by decide +kernel
theorem d7_1 : decode jdk_42_method_66_code 1 = .ok (.aload_n 1, 1) := by decide +kernel
theorem d7_2 : decode jdk_42_method_66_code 2 = .ok (.if_acmp .ne 5, 3) := by decide +kernel
theorem d7_5 : decode jdk_42_method_66_code 5 = .ok (.iconst 1, 1) := by decide +kernel
theorem d7_6 : decode jdk_42_method_66_code 6 = .ok (.ireturn, 1) := by decide +kernel
theorem d7_7 : decode jdk_42_method_66_code 7 = .ok (.aload_n 1, 1) := by decide +kernel
theorem d7_8 : decode jdk_42_method_66_code 8 = .ok (.instanceof 10, 3) := by decide +kernel
theorem d7_11 : decode jdk_42_method_66_code 11 = .ok (.ifCond .eq 43, 3) := by decide +kernel
theorem d7_14 : decode jdk_42_method_66_code 14 = .ok (.aload_n 1, 1) := by decide +kernel
theorem d7_15 : decode jdk_42_method_66_code 15 = .ok (.checkcast 10, 3) := by decide +kernel
theorem d7_18 : decode jdk_42_method_66_code 18 = .ok (.astore_n 2, 1) := by decide +kernel
theorem d7_19 : decode jdk_42_method_66_code 19 = .ok (.getstatic 38, 3) := by decide +kernel
theorem d7_22 : decode jdk_42_method_66_code 22 = .ok (.ifCond .eq 14, 3) := by decide +kernel
theorem d7_25 : decode jdk_42_method_66_code 25 = .ok (.aload_n 0, 1) := by decide +kernel
theorem d7_26 : decode jdk_42_method_66_code 26 = .ok (.getfield 15, 3) := by decide +kernel
theorem d7_29 : decode jdk_42_method_66_code 29 = .ok (.aload_n 2, 1) := by decide +kernel
theorem d7_30 : decode jdk_42_method_66_code 30 = .ok (.getfield 15, 3) := by decide +kernel
theorem d7_33 : decode jdk_42_method_66_code 33 = .ok (.if_icmp .ne 21, 3) := by decide +kernel
theorem d7_36 : decode jdk_42_method_66_code 36 = .ok (.aload_n 0, 1) := by decide +kernel
theorem d7_37 : decode jdk_42_method_66_code 37 = .ok (.getfield 9, 3) := by decide +kernel
theorem d7_40 : decode jdk_42_method_66_code 40 = .ok (.aload_n 2, 1) := by decide +kernel
theorem d7_41 : decode jdk_42_method_66_code 41 = .ok (.getfield 9, 3) := by decide +kernel
theorem d7_44 : decode jdk_42_method_66_code 44 = .ok (.invokestatic 541, 3) := by decide +kernel
theorem d7_47 : decode jdk_42_method_66_code 47 = .ok (.ifCond .eq 7, 3) := by decide +kernel
theorem d7_50 : decode jdk_42_method_66_code 50 = .ok (.iconst 1, 1) := by decide +kernel
theorem d7_51 : decode jdk_42_method_66_code 51 = .ok (.goto 4, 3) := by decide +kernel
theorem d7_54 : decode jdk_42_method_66_code 54 = .ok (.iconst 0, 1) := by decide +kernel
theorem d7_55 : decode jdk_42_method_66_code 55 = .ok (.ireturn, 1) := by decide +kernel
theorem ef_7 (m : MethodId) (a : Addr) (b : Addr) : entryFrame m #[(.ref a), (.ref b)] 3 = mkF m 0 #[.val (.ref a), .val (.ref b), .unset] [] := by first | (simp [entryFrame, mkF, argsToLocals, Value.category]; done) | rfl
def R7 : Room := ({ frames := 1, cells := 0, slots := 0, locals := 14 } : Room)
set_option maxRecDepth 65536 in
set_option maxHeartbeats 40000000 in
theorem rm7 (l : Launch) (Z : State) (a0 : Array Value) (hw : ∀ d ∈ tables_1, d.before a0 Z = true) (a : Addr) (b : Addr) (h0 : Heap) (n0 : Nat) (hO : Old Z n0 h0) (u w_ : Addr) (xs ys : List Int32) (HS : SS Z h0 a u xs) (HT : SS Z h0 b w_ ys) (hx2 : xs.length ≤ 2) (hy2 : ys.length ≤ 2) (G1 : Int32) (O2 : Sta Z Z.heap "java/lang/String" "COMPACT_STRINGS" "Z" (.int G1)) (P5 : ¬ G1 = (0 : Int32)) :
    Con l Z (⟨"java/lang/String", "equals", "(Ljava/lang/Object;)Z"⟩ : MethodName) jdk_42_method_66_code 3 (some .boolean) [] R7 R7.cells R7.slots #[(.ref a), (.ref b)] h0 (fun r h L => ∃ b : Int32, r = some (.int b) ∧ (b = 1 ∧ xs = ys ∨ b = 0 ∧ ¬ xs = ys) ∧ h0 = h ∧ L = []) := by
  refine Con.intro (n0 := n0) (plainFor_of_name pn_0) (fun m => ef_7 m a b) hO ?_
  intro p e s m below meth cc T hs0 X0
  obtain ⟨E_a, Fc_a, Fv_a, A_u⟩ := id HS
  obtain ⟨E_b, Fc_b, Fv_b, A_w_⟩ := id HT
  refine g_aloadN X0 d7_0 (pc' := 1) rfl rfl rfl ?_
  refine g_aloadN X0 d7_1 (pc' := 2) rfl rfl rfl ?_
  refine g_acmp_ne X0 d7_2 (pt := 7) (by decide) (pc' := 5) rfl (fun hc2 => ?_) (fun hc2 => ?_)
  · refine g_aloadN X0 d7_7 (pc' := 8) rfl rfl rfl ?_
    refine g_inst X0 (hw _ m38) (Ins.self E_b) d7_8 (pc' := 11) rfl (fun T121 X121 => ?_)
    refine g_if_eq_f X121 d7_11 (pc' := 14) rfl (by decide) ?_
    refine g_aloadN X121 d7_14 (pc' := 15) rfl rfl rfl ?_
    refine g_cast X121 (hw _ m38) (Ins.self E_b) d7_15 (pc' := 18) rfl (fun T122 X122 => ?_)
    refine g_astoreN X122 d7_18 (pc' := 19) rfl rfl (L' := #[.val (.ref a), .val (.ref b), .val (.ref b)]) rfl ?_
    refine g_getS X122 (hw _ m39) (O2.ext X122.old.2) d7_19 (pc' := 22) rfl (fun T123 X123 => ?_)
    refine g_if_eq_f X123 d7_22 (pc' := 25) rfl P5 ?_
    refine g_aloadN X123 d7_25 (pc' := 26) rfl rfl rfl ?_
    refine g_getF X123 (host := "") (Or.inl (hw _ m29)) Via.refl Fc_a d7_26 (pc' := 29) rfl (fun T124 X124 => ?_)
    refine g_aloadN X124 d7_29 (pc' := 30) rfl rfl rfl ?_
    refine g_getF X124 (host := "") (Or.inl (hw _ m29)) Via.refl Fc_b d7_30 (pc' := 33) rfl (fun T125 X125 => ?_)
    refine g_icmp_ne_f X125 d7_33 (pc' := 36) rfl (by decide) ?_
    refine g_aloadN X125 d7_36 (pc' := 37) rfl rfl rfl ?_
    refine g_getF X125 (host := "") (Or.inl (hw _ m28)) Via.refl Fv_a d7_37 (pc' := 40) rfl (fun T126 X126 => ?_)
    refine g_aloadN X126 d7_40 (pc' := 41) rfl rfl rfl ?_
    refine g_getF X126 (host := "") (Or.inl (hw _ m28)) Via.refl Fv_b d7_41 (pc' := 44) rfl (fun T127 X127 => ?_)
    refine g_callS X127 (y := (⟨"java/lang/StringLatin1", "equals", "([B[B)Z"⟩ : MethodName)) [(.ref u), (.ref w_)] (hw _ m40) (hw _ m41) (hw _ m42) (hw _ m43) (hw _ m42) (rm8 l Z a0 hw u w_ h0 n0 X127.old xs ys A_u A_w_ hx2 hy2) (by decide) (by decide) (by decide) (by decide) (by decide) rfl pd_17 rfl (rest := []) rfl (W := 0) rfl d7_44 (pc' := 47) rfl ?_
    rintro _ T128 _ _ Y128 ⟨z128, rfl, r128, rfl, rfl⟩
    have X128 := Y128 X127.old (Fr.nil _)
    show Go p e below _ (State.setTop _ (mkF m 47 #[.val (.ref a), .val (.ref b), .val (.ref b)] [(.int z128)]))
    refine g_if_eq X128 d7_47 (pt := 54) (by decide) (pc' := 50) rfl (fun hc47 => ?_) (fun hc47 => ?_)
    · refine g_iconst X128 d7_54 (pc' := 55) rfl (v := (0 : Int32)) rfl ?_
      exact g_retN X128 (Or.inl rfl) rfl d7_55 (by decide) (by decide) ⟨0, rfl, Or.inr ⟨rfl, r128.elim (fun z => absurd (hc47.symm.trans z.1) (by decide)) (fun z => z.2)⟩, rfl, rfl⟩
    · refine g_iconst X128 d7_50 (pc' := 51) rfl (v := (1 : Int32)) rfl ?_
      refine g_goto X128 d7_51 (pt := 55) (by decide) ?_
      exact g_retN X128 (Or.inl rfl) rfl d7_55 (by decide) (by decide) ⟨1, rfl, Or.inl ⟨rfl, r128.elim (fun z => z.2) (fun z => absurd z.1 hc47)⟩, rfl, rfl⟩
  · refine g_iconst X0 d7_5 (pc' := 6) rfl (v := (1 : Int32)) rfl ?_
    exact g_retN X0 (Or.inl rfl) rfl d7_6 (by decide) (by decide) ⟨1, rfl, Or.inl ⟨rfl, own_sseq HS (hc2 ▸ HT)⟩, rfl, rfl⟩

def hstep (h z : Int32) : Int32 := (31 : Int32) * h + z
def hfold (zs : List Int32) : Int32 := zs.foldl hstep 0
def HH (zs : List Int32) : Int32 := hfold zs ^^^ ((hfold zs).toUInt32 >>> ((16 : Int32) &&& 31).toUInt32).toInt32
theorem own_sl_at {ws : List Int32} {s e j : Nat} (h : s + j < e) (he : e ≤ ws.length) : (sl ws s e)[j]? = ws[s + j]? := by
  unfold sl; rw [List.getElem?_take_of_lt (by omega), List.getElem?_drop]
theorem own_sl_len {ws : List Int32} {s e : Nat} (hs : s ≤ e) (he : e ≤ ws.length) : (sl ws s e).length = e - s := by
  unfold sl; rw [List.length_take, List.length_drop]; omega
theorem own_hf {ws : List Int32} {s e j : Nat} (h : s + j < e) (he : e ≤ ws.length) : hstep (hfold ((sl ws s e).take j)) (ws[s + j]'(by omega)) = hfold ((sl ws s e).take (j + 1)) := by
  have q : (sl ws s e)[j]? = some (ws[s + j]'(by omega)) := by rw [own_sl_at h he, List.getElem?_eq_getElem]
  unfold hfold; rw [List.take_add_one, q]; simp
theorem own_hfall {ws : List Int32} {s e j : Nat} (hs : s ≤ e) (he : e ≤ ws.length) (h : s + j = e) : (sl ws s e).take j = sl ws s e := List.take_of_length_le (by rw [own_sl_len hs he]; omega)
theorem d23_0 : decode prog_100_method_10_code 0 = .ok (.iconst 0, 1) := by decide +kernel
theorem d23_1 : decode prog_100_method_10_code 1 = .ok (.istore_n 3, 1) := by decide +kernel
theorem d23_2 : decode prog_100_method_10_code 2 = .ok (.iload_n 1, 1) := by decide +kernel
theorem d23_3 : decode prog_100_method_10_code 3 = .ok (.istore 4, 2) := by decide +kernel
theorem d23_5 : decode prog_100_method_10_code 5 = .ok (.iload 4, 2) := by decide +kernel
theorem d23_7 : decode prog_100_method_10_code 7 = .ok (.iload_n 2, 1) := by decide +kernel
theorem d23_8 : decode prog_100_method_10_code 8 = .ok (.if_icmp .ge 19, 3) := by decide +kernel
theorem d23_11 : decode prog_100_method_10_code 11 = .ok (.bipush 31, 2) := by decide +kernel
theorem d23_13 : decode prog_100_method_10_code 13 = .ok (.iload_n 3, 1) := by decide +kernel
theorem d23_14 : decode prog_100_method_10_code 14 = .ok (.imul, 1) := by decide +kernel
theorem d23_15 : decode prog_100_method_10_code 15 = .ok (.aload_n 0, 1) := by decide +kernel
theorem d23_16 : decode prog_100_method_10_code 16 = .ok (.iload 4, 2) := by decide +kernel
theorem d23_18 : decode prog_100_method_10_code 18 = .ok (.baload, 1) := by decide +kernel
theorem d23_19 : decode prog_100_method_10_code 19 = .ok (.iadd, 1) := by decide +kernel
theorem d23_20 : decode prog_100_method_10_code 20 = .ok (.istore_n 3, 1) := by decide +kernel
theorem d23_21 : decode prog_100_method_10_code 21 = .ok (.iinc 4 1, 3) := by decide +kernel
theorem d23_24 : decode prog_100_method_10_code 24 = .ok (.goto (-19), 3) := by decide +kernel
theorem d23_27 : decode prog_100_method_10_code 27 = .ok (.iload_n 3, 1) := by decide +kernel
theorem d23_28 : decode prog_100_method_10_code 28 = .ok (.iload_n 3, 1) := by decide +kernel
theorem d23_29 : decode prog_100_method_10_code 29 = .ok (.bipush 16, 2) := by decide +kernel
theorem d23_31 : decode prog_100_method_10_code 31 = .ok (.iushr, 1) := by decide +kernel
theorem d23_32 : decode prog_100_method_10_code 32 = .ok (.ixor, 1) := by decide +kernel
theorem d23_33 : decode prog_100_method_10_code 33 = .ok (.ireturn, 1) := by decide +kernel
theorem ef_23 (m : MethodId) (a : Addr) (x : Nat) (y : Nat) : entryFrame m #[(.ref a), (.int (Int32.ofNat x)), (.int (Int32.ofNat y))] 5 = mkF m 0 #[.val (.ref a), .val (.int (Int32.ofNat x)), .val (.int (Int32.ofNat y)), .unset, .unset] [] := by first | (simp [entryFrame, mkF, argsToLocals, Value.category]; done) | rfl
def R23 : Room := ({ frames := 0, cells := 0, slots := 0, locals := 0 } : Room)
set_option maxRecDepth 65536 in
set_option maxHeartbeats 40000000 in
theorem rm23 (l : Launch) (Z : State) (a0 : Array Value) (hw : ∀ d ∈ tables_1, d.before a0 Z = true) (a : Addr) (x : Nat) (y : Nat) (h0 : Heap) (n0 : Nat) (hO : Old Z n0 h0) (ws : List Int32) (A_a : Arx Z h0 a .byte (own_bs ws)) (hxy : x ≤ y) (hy : y ≤ ws.length) (hw4 : ws.length ≤ 4) :
    Con l Z (⟨"com/example/indexloom/indexloom/Texts", "hash", "([BII)I"⟩ : MethodName) prog_100_method_10_code 5 (some .int) [] R23 R23.cells R23.slots #[(.ref a), (.int (Int32.ofNat x)), (.int (Int32.ofNat y))] h0 (fun v h L => v = some (.int (HH (sl ws x y))) ∧ h0 = h ∧ L = []) := by
  refine Con.intro (n0 := n0) (plainFor_of_name pn_6) (fun m => ef_23 m a x y) hO ?_
  intro p e s m below meth cc T hs0 X0
  have loop : ∀ (r j : Nat) (T : State) (locs : List Loc), x + j + r = y → locs = [] → St Z n0 p l e R23 s m #[(.ref a), (.int (Int32.ofNat x)), (.int (Int32.ofNat y))] below meth cc "com/example/indexloom/indexloom/Texts" "hash" prog_100_method_10_code 5 (some .int) T locs 0 0 h0 → Go p e below (Kq s R23.cells R23.slots (fun v h L => v = some (.int (HH (sl ws x y))) ∧ h0 = h ∧ L = [])) (T.setTop (mkF m 5 #[.val (.ref a), .val (.int (Int32.ofNat x)), .val (.int (Int32.ofNat y)), .val (.int (hfold ((sl ws x y).take j))), .val (.int (Int32.ofNat (x + j)))] [])) := by
    intro r
    induction r with
    | zero =>
      rintro j T _ hj rfl X
      refine g_iload X d23_5 (pc' := 7) rfl rfl ?_
      refine g_iloadN X d23_7 (pc' := 8) rfl rfl ?_
      refine g_icmp_ge_t X d23_8 (pt := 27) (by decide) (by rw [show x + j = y by omega]; exact fun q => Int32.lt_irrefl q) ?_
      rw [own_hfall hxy hy (by omega)]
      refine g_iloadN X d23_27 (pc' := 28) rfl rfl ?_
      refine g_iloadN X d23_28 (pc' := 29) rfl rfl ?_
      refine g_bipush X d23_29 (pc' := 31) rfl (v := (16 : Int32)) rfl ?_
      refine g_iushr X d23_31 (pc' := 32) rfl ?_
      refine g_ixor X d23_32 (pc' := 33) rfl ?_
      exact g_retI X rfl d23_33 (by decide) (by decide) ⟨rfl, rfl, rfl⟩
    | succ r ih =>
      rintro j T _ hj rfl X
      refine g_iload X d23_5 (pc' := 7) rfl rfl ?_
      refine g_iloadN X d23_7 (pc' := 8) rfl rfl ?_
      refine g_icmp_ge_f X d23_8 (pc' := 11) rfl ((own_ltN (by omega) (by omega)).mpr (by omega)) ?_
      refine g_bipush X d23_11 (pc' := 13) rfl (v := (31 : Int32)) rfl ?_
      refine g_iloadN X d23_13 (pc' := 14) rfl rfl ?_
      refine g_imul X d23_14 (pc' := 15) rfl ?_
      refine g_aloadN X d23_15 (pc' := 16) rfl rfl rfl ?_
      refine g_iload X d23_16 (pc' := 18) rfl rfl ?_
      refine g_baload X (i := (x + j)) (v := (.int (ws[x + j]'(by omega)))) A_a (own_small (by omega)) (own_bs_at (by omega)) d23_18 (pc' := 19) rfl ?_
      refine g_iadd X d23_19 (pc' := 20) rfl ?_
      rw [show (31 : Int32) * hfold ((sl ws x y).take j) + ws[x + j]'(by omega) = hfold ((sl ws x y).take (j + 1)) from own_hf (by omega) hy]
      refine g_istoreN X d23_20 (pc' := 21) rfl (L' := #[.val (.ref a), .val (.int (Int32.ofNat x)), .val (.int (Int32.ofNat y)), .val (.int (hfold ((sl ws x y).take (j + 1)))), .val (.int (Int32.ofNat (x + j)))]) rfl ?_
      refine g_iinc X d23_21 (pc' := 24) rfl rfl (L' := #[.val (.ref a), .val (.int (Int32.ofNat x)), .val (.int (Int32.ofNat y)), .val (.int (hfold ((sl ws x y).take (j + 1)))), .val (.int ((Int32.ofNat (x + j)) + (1 : Int32)))]) rfl ?_
      refine g_goto X d23_24 (pt := 5) (by decide) ?_
      rw [own_succ]
      exact ih (j + 1) _ _ (by omega) rfl X
  refine g_iconst X0 d23_0 (pc' := 1) rfl (v := (0 : Int32)) rfl ?_
  refine g_istoreN X0 d23_1 (pc' := 2) rfl (L' := #[.val (.ref a), .val (.int (Int32.ofNat x)), .val (.int (Int32.ofNat y)), .val (.int (0 : Int32)), .unset]) rfl ?_
  refine g_iloadN X0 d23_2 (pc' := 3) rfl rfl ?_
  refine g_istore X0 d23_3 (pc' := 5) rfl (L' := #[.val (.ref a), .val (.int (Int32.ofNat x)), .val (.int (Int32.ofNat y)), .val (.int (0 : Int32)), .val (.int (Int32.ofNat x))]) rfl ?_
  exact loop (y - x) 0 _ _ (by omega) rfl X0

theorem d26_0 : decode prog_100_method_9_code 0 = .ok (.iload_n 3, 1) := by decide +kernel
theorem d26_1 : decode prog_100_method_9_code 1 = .ok (.iload_n 2, 1) := by decide +kernel
theorem d26_2 : decode prog_100_method_9_code 2 = .ok (.isub, 1) := by decide +kernel
theorem d26_3 : decode prog_100_method_9_code 3 = .ok (.aload_n 0, 1) := by decide +kernel
theorem d26_4 : decode prog_100_method_9_code 4 = .ok (.arraylength, 1) := by decide +kernel
theorem d26_5 : decode prog_100_method_9_code 5 = .ok (.if_icmp .eq 5, 3) := by decide +kernel
theorem d26_8 : decode prog_100_method_9_code 8 = .ok (.iconst 0, 1) := by decide +kernel
theorem d26_9 : decode prog_100_method_9_code 9 = .ok (.ireturn, 1) := by decide +kernel
theorem d26_10 : decode prog_100_method_9_code 10 = .ok (.iconst 0, 1) := by decide +kernel
theorem d26_11 : decode prog_100_method_9_code 11 = .ok (.istore 4, 2) := by decide +kernel
theorem d26_13 : decode prog_100_method_9_code 13 = .ok (.iload 4, 2) := by decide +kernel
theorem d26_15 : decode prog_100_method_9_code 15 = .ok (.aload_n 0, 1) := by decide +kernel
theorem d26_16 : decode prog_100_method_9_code 16 = .ok (.arraylength, 1) := by decide +kernel
theorem d26_17 : decode prog_100_method_9_code 17 = .ok (.if_icmp .ge 24, 3) := by decide +kernel
theorem d26_20 : decode prog_100_method_9_code 20 = .ok (.aload_n 0, 1) := by decide +kernel
theorem d26_21 : decode prog_100_method_9_code 21 = .ok (.iload 4, 2) := by decide +kernel
theorem d26_23 : decode prog_100_method_9_code 23 = .ok (.baload, 1) := by decide +kernel
theorem d26_24 : decode prog_100_method_9_code 24 = .ok (.aload_n 1, 1) := by decide +kernel
theorem d26_25 : decode prog_100_method_9_code 25 = .ok (.iload_n 2, 1) := by decide +kernel
theorem d26_26 : decode prog_100_method_9_code 26 = .ok (.iload 4, 2) := by decide +kernel
theorem d26_28 : decode prog_100_method_9_code 28 = .ok (.iadd, 1) := by decide +kernel
theorem d26_29 : decode prog_100_method_9_code 29 = .ok (.baload, 1) := by decide +kernel
theorem d26_30 : decode prog_100_method_9_code 30 = .ok (.if_icmp .eq 5, 3) := by decide +kernel
theorem d26_33 : decode prog_100_method_9_code 33 = .ok (.iconst 0, 1) := by decide +kernel
theorem d26_34 : decode prog_100_method_9_code 34 = .ok (.ireturn, 1) := by decide +kernel
theorem d26_35 : decode prog_100_method_9_code 35 = .ok (.iinc 4 1, 3) := by decide +kernel
theorem d26_38 : decode prog_100_method_9_code 38 = .ok (.goto (-25), 3) := by decide +kernel
theorem d26_41 : decode prog_100_method_9_code 41 = .ok (.iconst 1, 1) := by decide +kernel
theorem d26_42 : decode prog_100_method_9_code 42 = .ok (.ireturn, 1) := by decide +kernel
theorem ef_26 (m : MethodId) (k : Addr) (a : Addr) (x : Nat) (y : Nat) : entryFrame m #[(.ref k), (.ref a), (.int (Int32.ofNat x)), (.int (Int32.ofNat y))] 5 = mkF m 0 #[.val (.ref k), .val (.ref a), .val (.int (Int32.ofNat x)), .val (.int (Int32.ofNat y)), .unset] [] := by first | (simp [entryFrame, mkF, argsToLocals, Value.category]; done) | rfl
def R26 : Room := ({ frames := 0, cells := 0, slots := 0, locals := 0 } : Room)
set_option maxRecDepth 65536 in
set_option maxHeartbeats 40000000 in
theorem rm26 (l : Launch) (Z : State) (a0 : Array Value) (hw : ∀ d ∈ tables_1, d.before a0 Z = true) (k : Addr) (a : Addr) (x : Nat) (y : Nat) (h0 : Heap) (n0 : Nat) (hO : Old Z n0 h0) (ks : List Int32) (A_k : Arx Z h0 k .byte (own_bs ks)) (hk4 : ks.length ≤ 4) (ws : List Int32) (A_a : Arx Z h0 a .byte (own_bs ws)) (hxy : x ≤ y) (hy : y ≤ ws.length) (hw4 : ws.length ≤ 4) :
    Con l Z (⟨"com/example/indexloom/indexloom/Texts", "equal", "([B[BII)Z"⟩ : MethodName) prog_100_method_9_code 5 (some .boolean) [] R26 R26.cells R26.slots #[(.ref k), (.ref a), (.int (Int32.ofNat x)), (.int (Int32.ofNat y))] h0 (fun r h L => ∃ b : Int32, r = some (.int b) ∧ (b = 1 ∧ ks = sl ws x y ∨ b = 0 ∧ ¬ ks = sl ws x y) ∧ h0 = h ∧ L = []) := by
  refine Con.intro (n0 := n0) (plainFor_of_name pn_6) (fun m => ef_26 m k a x y) hO ?_
  intro p e s m below meth cc T hs0 X0
  have loop : ∀ (r j : Nat) (T : State) (locs : List Loc), y - x = ks.length → j + r = ks.length → locs = [] → (∀ i, i < j → ks[i]? = ws[x + i]?) → St Z n0 p l e R26 s m #[(.ref k), (.ref a), (.int (Int32.ofNat x)), (.int (Int32.ofNat y))] below meth cc "com/example/indexloom/indexloom/Texts" "equal" prog_100_method_9_code 5 (some .boolean) T locs 0 0 h0 → Go p e below (Kq s R26.cells R26.slots (fun r h L => ∃ b : Int32, r = some (.int b) ∧ (b = 1 ∧ ks = sl ws x y ∨ b = 0 ∧ ¬ ks = sl ws x y) ∧ h0 = h ∧ L = [])) (T.setTop (mkF m 13 #[.val (.ref k), .val (.ref a), .val (.int (Int32.ofNat x)), .val (.int (Int32.ofNat y)), .val (.int (Int32.ofNat j))] [])) := by
    intro r
    induction r with
    | zero =>
      rintro j T _ hlk hj rfl hp X
      refine g_iload X d26_13 (pc' := 15) rfl rfl ?_
      refine g_aloadN X d26_15 (pc' := 16) rfl rfl rfl ?_
      refine g_arraylength X (n := (Int32.ofNat ks.length)) A_k (by rw [own_bs_len]) d26_16 (pc' := 17) rfl ?_
      refine g_icmp_ge_t X d26_17 (pt := 41) (by decide) (by rw [show j = ks.length by omega]; exact fun q => Int32.lt_irrefl q) ?_
      refine g_iconst X d26_41 (pc' := 42) rfl (v := (1 : Int32)) rfl ?_
      exact g_retN X (Or.inl rfl) rfl d26_42 (by decide) (by decide) ⟨1, rfl, Or.inl ⟨rfl, List.ext_getElem? (fun i => by by_cases z : i < j; rw [hp i z, own_sl_at (by omega) hy]; rw [List.getElem?_eq_none (by omega), List.getElem?_eq_none (by rw [own_sl_len hxy hy]; omega)])⟩, rfl, rfl⟩
    | succ r ih =>
      rintro j T _ hlk hj rfl hp X
      refine g_iload X d26_13 (pc' := 15) rfl rfl ?_
      refine g_aloadN X d26_15 (pc' := 16) rfl rfl rfl ?_
      refine g_arraylength X (n := (Int32.ofNat ks.length)) A_k (by rw [own_bs_len]) d26_16 (pc' := 17) rfl ?_
      refine g_icmp_ge_f X d26_17 (pc' := 20) rfl ((own_ltN (by omega) (by omega)).mpr (by omega)) ?_
      refine g_aloadN X d26_20 (pc' := 21) rfl rfl rfl ?_
      refine g_iload X d26_21 (pc' := 23) rfl rfl ?_
      refine g_baload X (i := j) (v := (.int (ks[j]'(by omega)))) A_k (own_small (by omega)) (own_bs_at (by omega)) d26_23 (pc' := 24) rfl ?_
      refine g_aloadN X d26_24 (pc' := 25) rfl rfl rfl ?_
      refine g_iloadN X d26_25 (pc' := 26) rfl rfl ?_
      refine g_iload X d26_26 (pc' := 28) rfl rfl ?_
      refine g_iadd X d26_28 (pc' := 29) rfl ?_
      rw [own_add]
      refine g_baload X (i := (x + j)) (v := (.int (ws[x + j]'(by omega)))) A_a (own_small (by omega)) (own_bs_at (by omega)) d26_29 (pc' := 30) rfl ?_
      refine g_icmp_eq X d26_30 (pt := 35) (by decide) (pc' := 33) rfl (fun hc30 => ?_) (fun hc30 => ?_)
      · refine g_iinc X d26_35 (pc' := 38) rfl rfl (L' := #[.val (.ref k), .val (.ref a), .val (.int (Int32.ofNat x)), .val (.int (Int32.ofNat y)), .val (.int ((Int32.ofNat j) + (1 : Int32)))]) rfl ?_
        refine g_goto X d26_38 (pt := 13) (by decide) ?_
        rw [own_succ]
        exact ih (j + 1) _ _ hlk (by omega) rfl (fun i hi => by by_cases z : i = j; rw [z, List.getElem?_eq_getElem (by omega), List.getElem?_eq_getElem (by omega)]; exact congrArg some hc30; exact hp i (by omega)) X
      · refine g_iconst X d26_33 (pc' := 34) rfl (v := (0 : Int32)) rfl ?_
        exact g_retN X (Or.inl rfl) rfl d26_34 (by decide) (by decide) ⟨0, rfl, Or.inr ⟨rfl, fun z => hc30 (by have z2 := congrArg (fun l => l[j]?) z; have z3 : ks[j]? = (sl ws x y)[j]? := z2; rw [own_sl_at (by omega) hy, List.getElem?_eq_getElem (by omega), List.getElem?_eq_getElem (by omega)] at z3; exact Option.some.inj z3)⟩, rfl, rfl⟩
  refine g_iloadN X0 d26_0 (pc' := 1) rfl rfl ?_
  refine g_iloadN X0 d26_1 (pc' := 2) rfl rfl ?_
  refine g_isub X0 d26_2 (pc' := 3) rfl ?_
  rw [own_subN hxy]
  refine g_aloadN X0 d26_3 (pc' := 4) rfl rfl rfl ?_
  refine g_arraylength X0 (n := (Int32.ofNat ks.length)) A_k (by rw [own_bs_len]) d26_4 (pc' := 5) rfl ?_
  refine g_icmp_eq X0 d26_5 (pt := 10) (by decide) (pc' := 8) rfl (fun hc5 => ?_) (fun hc5 => ?_)
  · refine g_iconst X0 d26_10 (pc' := 11) rfl (v := (0 : Int32)) rfl ?_
    refine g_istore X0 d26_11 (pc' := 13) rfl (L' := #[.val (.ref k), .val (.ref a), .val (.int (Int32.ofNat x)), .val (.int (Int32.ofNat y)), .val (.int (0 : Int32))]) rfl ?_
    exact loop ks.length 0 _ _ ((own_inj (by omega) (by omega)).mp hc5) (by omega) rfl (fun i hi => absurd hi (Nat.not_lt_zero i)) X0
  · refine g_iconst X0 d26_8 (pc' := 9) rfl (v := (0 : Int32)) rfl ?_
    exact g_retN X0 (Or.inl rfl) rfl d26_9 (by decide) (by decide) ⟨0, rfl, Or.inr ⟨rfl, fun z => hc5 (by rw [z, own_sl_len hxy hy])⟩, rfl, rfl⟩

def own_li (n : Nat) (f : Nat → Int32) : List Value := (List.range n).map fun j => Value.int (f j)
def own_lv (n : Nat) (f : Nat → Value) : List Value := (List.range n).map fun j => f j
def own_set {α : Type} (f : Nat → α) (i : Nat) (z : α) : Nat → α := fun j => if j = i then z else f j
theorem own_set_at {α : Type} (f : Nat → α) (i : Nat) (z : α) : own_set f i z i = z := by simp [own_set]
theorem own_set_ne {α : Type} (f : Nat → α) {i j : Nat} (z : α) (h : j ≠ i) : own_set f i z j = f j := by simp [own_set, h]
theorem own_li_len (n : Nat) (f : Nat → Int32) : (own_li n f).length = n := by simp [own_li]
theorem own_lv_len (n : Nat) (f : Nat → Value) : (own_lv n f).length = n := by simp [own_lv]
theorem own_li_at {n : Nat} (f : Nat → Int32) {j : Nat} (h : j < n) : (own_li n f)[j]? = some (.int (f j)) := by simp [own_li, h]
theorem own_lv_at {n : Nat} (f : Nat → Value) {j : Nat} (h : j < n) : (own_lv n f)[j]? = some (f j) := by simp [own_lv, h]
theorem own_li_set (n : Nat) (f : Nat → Int32) (i : Nat) (z : Int32) : (own_li n f).set i (.int z) = own_li n (own_set f i z) := by
  apply List.ext_getElem?
  intro j
  rw [List.getElem?_set, own_li_len]
  by_cases hj : j < n
  · rw [own_li_at _ hj, own_li_at _ hj]
    by_cases hij : i = j
    · subst hij; simp [own_set, hj]
    · rw [if_neg hij]; simp [own_set, Ne.symm hij]
  · have e1 : ∀ g : Nat → Int32, (own_li n g)[j]? = none := fun g => List.getElem?_eq_none (by rw [own_li_len]; omega)
    rw [e1, e1]; split
    · rw [if_neg (by omega)]
    · rfl
theorem own_lv_set (n : Nat) (f : Nat → Value) (i : Nat) (z : Value) : (own_lv n f).set i z = own_lv n (own_set f i z) := by
  apply List.ext_getElem?
  intro j
  rw [List.getElem?_set, own_lv_len]
  by_cases hj : j < n
  · rw [own_lv_at _ hj, own_lv_at _ hj]
    by_cases hij : i = j
    · subst hij; simp [own_set, hj]
    · rw [if_neg hij]; simp [own_set, Ne.symm hij]
  · have e1 : ∀ g : Nat → Value, (own_lv n g)[j]? = none := fun g => List.getElem?_eq_none (by rw [own_lv_len]; omega)
    rw [e1, e1]; split
    · rw [if_neg (by omega)]
    · rfl
theorem own_neT {Z : State} {h : Heap} {x y : Addr} {t t' : FieldType} {vs ws : List Value} (A : Arx Z h x t vs) (B : Arx Z h y t' ws) (ne : t ≠ t') : x ≠ y := fun e => by
  subst e
  obtain ⟨c1, ⟨q1, ⟨-, k1, a1, c1', b1⟩, -⟩, -⟩ := A
  obtain ⟨c2, ⟨q2, ⟨-, k2, a2, c2', b2⟩, -⟩, -⟩ := B
  cases q1.symm.trans q2
  cases a1.symm.trans a2
  rw [b1] at b2; exact ne (by cases b2; rfl)
theorem own_neE {Z : State} {h : Heap} {x y : Addr} {t : FieldType} {C : String} {n : Nat} {a0 : Array Value} {vs : List Value} (A : Arx Z h x t vs) (E : Exa Z h y C) (w : (Jvm.Cond.instantiable C n).before a0 Z = true) : x ≠ y := fun e => by
  subst e
  obtain ⟨c1, ⟨q1, ⟨-, k1, a1, c1', b1⟩, -⟩, -⟩ := A
  obtain ⟨c2, k2, p1, p2, p3, -, -⟩ := E
  cases q1.symm.trans p1
  cases a1.symm.trans p3
  obtain ⟨c3, k3, f1, f2, f3, f4, r⟩ := Cond.instantiable_spec w
  cases p2.symm.trans f1
  cases p3.symm.trans f2
  simp_all
/-- a Texts that holds the k texts B, its slots t, of which ps alone may be taken -/
def TXP (Z : State) (n0 : Nat) (h : Heap) (a : Addr) (k : Nat) (B : Nat → List Int32) (t hs fo : Nat → Int32) (la : Int32) : Prop := ∃ (as ab ah at_ af : Addr) (bd : Nat → Value) (tx : List Value) (bA : Nat → Addr), Exa Z h a "com/example/indexloom/indexloom/Texts" ∧ Fld Z h a "com/example/indexloom/indexloom/Texts" "slots" "[I" (.ref as) ∧ Fld Z h a "com/example/indexloom/indexloom/Texts" "bytes" "[[B" (.ref ab) ∧ Fld Z h a "com/example/indexloom/indexloom/Texts" "hashes" "[I" (.ref ah) ∧ Fld Z h a "com/example/indexloom/indexloom/Texts" "texts" "[Ljava/lang/String;" (.ref at_) ∧ Fld Z h a "com/example/indexloom/indexloom/Texts" "following" "[I" (.ref af) ∧ Fld Z h a "com/example/indexloom/indexloom/Texts" "last" "I" (.int la) ∧ Fld Z h a "com/example/indexloom/indexloom/Texts" "size" "I" (.int (Int32.ofNat k)) ∧ Arx Z h as .int (own_li 64 t) ∧ Arx Z h ah .int (own_li 32 hs) ∧ Arx Z h af .int (own_li 32 fo) ∧ Arx Z h ab (.array .byte) (own_lv 32 bd) ∧ Arx Z h at_ (.object "java/lang/String") tx ∧ tx.length = 32 ∧ Exa Z h ab "[[B" ∧ Exa Z h at_ "[Ljava/lang/String;" ∧ OV Z "[[B" "[B" ∧ OV Z "[Ljava/lang/String;" "java/lang/String" ∧ n0 ≤ a ∧ n0 ≤ as ∧ n0 ≤ ab ∧ n0 ≤ ah ∧ n0 ≤ at_ ∧ n0 ≤ af ∧ a ≠ as ∧ a ≠ ab ∧ a ≠ ah ∧ a ≠ at_ ∧ a ≠ af ∧ as ≠ ab ∧ as ≠ ah ∧ as ≠ at_ ∧ as ≠ af ∧ ab ≠ ah ∧ ab ≠ at_ ∧ ab ≠ af ∧ ah ≠ at_ ∧ ah ≠ af ∧ at_ ≠ af ∧ (∀ i, i < k → bd i = .ref (bA i) ∧ Arx Z h (bA i) .byte (own_bs (B i)) ∧ (B i).length ≤ 4 ∧ hs i = HH (B i)) ∧ (∀ i, i < k → fo i = -1 ∨ ∃ j, j < k ∧ fo i = Int32.ofNat j) ∧ (la = -1 ∨ ∃ j, j < k ∧ la = Int32.ofNat j)
theorem own_foS {k : Nat} {fo : Nat → Int32} (h : ∀ i, i < k → fo i = -1 ∨ ∃ j, j < k ∧ fo i = Int32.ofNat j) {x : Nat} (hx : x < k) (j0 : Nat) : ∀ i, i < k → own_set fo j0 (Int32.ofNat x) i = -1 ∨ ∃ j, j < k ∧ own_set fo j0 (Int32.ofNat x) i = Int32.ofNat j := by
  intro i hi
  by_cases q : i = j0
  · rw [q, own_set_at]; exact Or.inr ⟨x, hx, rfl⟩
  · rw [own_set_ne _ _ q]; exact h i hi
theorem own_m1 : (-1 : Int32) < 0 := by decide
theorem own_nn {j : Nat} (h : j < 100) : ¬ Int32.ofNat j < 0 := own_posN (by omega)
/-- byte arrays and Strings are as they were, objects are of the class they were of -/
def KP (Z : State) (h h' : Heap) : Prop := (∀ x vs, Arx Z h x .byte vs → Arx Z h' x .byte vs) ∧ (∀ x C, Exa Z h x C → Exa Z h' x C) ∧ (∀ x f d v, Exa Z h x "java/lang/String" → Fld Z h x "java/lang/String" f d v → Fld Z h' x "java/lang/String" f d v) ∧ h.size ≤ h'.size
theorem KP.refl (Z : State) (h : Heap) : KP Z h h := ⟨fun _ _ q => q, fun _ _ q => q, fun _ _ _ _ _ q => q, Nat.le_refl _⟩
theorem KP.trans {Z : State} {h h1 h2 : Heap} (A : KP Z h h1) (B : KP Z h1 h2) : KP Z h h2 := ⟨fun x v q => B.1 x v (A.1 x v q), fun x c q => B.2.1 x c (A.2.1 x c q), fun x f d v e q => B.2.2.1 x f d v (A.2.1 _ _ e) (A.2.2.1 x f d v e q), Nat.le_trans A.2.2.2 B.2.2.2⟩
theorem KP.of0 {Z : State} {h h' : Heap} (K : Keep h h' []) : KP Z h h' := ⟨fun x vs A => A.keep K nm0, fun x C E => E.keep K, fun x f d v _ F => F.keep K nm0, K.1⟩
theorem KP.ss {Z : State} {h h' : Heap} (K : KP Z h h') {x u : Addr} {zs : List Int32} (H : SS Z h x u zs) : SS Z h' x u zs := ⟨K.2.1 _ _ H.1, K.2.2.1 _ _ _ _ H.1 H.2.1, K.2.2.1 _ _ _ _ H.1 H.2.2.1, K.1 _ _ H.2.2.2⟩
theorem own_KP {Z : State} {h h' : Heap} {a as ab ah at_ af : Addr} {a0 : Array Value} {n1 n2 : Nat} {v1 v2 v3 v4 v5 : List Value} (K : Keep h h' [a, as, ab, ah, at_, af]) (w1 : (Jvm.Cond.instantiable "com/example/indexloom/indexloom/Texts" n1).before a0 Z = true) (w2 : (Jvm.Cond.instantiable "java/lang/String" n2).before a0 Z = true) (E : Exa Z h a "com/example/indexloom/indexloom/Texts") (A1 : Arx Z h as .int v1) (A2 : Arx Z h ab (.array .byte) v2) (A3 : Arx Z h ah .int v3) (A4 : Arx Z h at_ (.object "java/lang/String") v4) (A5 : Arx Z h af .int v5) : KP Z h h' := by
  refine ⟨fun x vs A => A.keep K ?_, fun x C E => E.keep K, fun x f d v Ex F => F.keep K ?_, K.1⟩
  · simp only [List.mem_cons, List.not_mem_nil, or_false, not_or]
    exact ⟨own_neE A E w1, own_neT A A1 (by decide), own_neT A A2 (by decide), own_neT A A3 (by decide), own_neT A A4 (by decide), own_neT A A5 (by decide)⟩
  · simp only [List.mem_cons, List.not_mem_nil, or_false, not_or]
    exact ⟨Exa.ne Ex E (by decide), (own_neE A1 Ex w2).symm, (own_neE A2 Ex w2).symm, (own_neE A3 Ex w2).symm, (own_neE A4 Ex w2).symm, (own_neE A5 Ex w2).symm⟩
theorem d25_0 : decode prog_100_method_5_code 0 = .ok (.aload_n 0, 1) := by decide +kernel
theorem d25_1 : decode prog_100_method_5_code 1 = .ok (.getfield 31, 3) := by decide +kernel
theorem d25_4 : decode prog_100_method_5_code 4 = .ok (.ifCond .lt 13, 3) := by decide +kernel
theorem d25_7 : decode prog_100_method_5_code 7 = .ok (.aload_n 0, 1) := by decide +kernel
theorem d25_8 : decode prog_100_method_5_code 8 = .ok (.getfield 28, 3) := by decide +kernel
theorem d25_11 : decode prog_100_method_5_code 11 = .ok (.aload_n 0, 1) := by decide +kernel
theorem d25_12 : decode prog_100_method_5_code 12 = .ok (.getfield 31, 3) := by decide +kernel
theorem d25_15 : decode prog_100_method_5_code 15 = .ok (.iload_n 1, 1) := by decide +kernel
theorem d25_16 : decode prog_100_method_5_code 16 = .ok (.iastore, 1) := by decide +kernel
theorem d25_17 : decode prog_100_method_5_code 17 = .ok (.aload_n 0, 1) := by decide +kernel
theorem d25_18 : decode prog_100_method_5_code 18 = .ok (.iload_n 1, 1) := by decide +kernel
theorem d25_19 : decode prog_100_method_5_code 19 = .ok (.putfield 31, 3) := by decide +kernel
theorem d25_22 : decode prog_100_method_5_code 22 = .ok (.return_, 1) := by decide +kernel
theorem ef_25 (m : MethodId) (a : Addr) (x : Nat) : entryFrame m #[(.ref a), (.int (Int32.ofNat x))] 2 = mkF m 0 #[.val (.ref a), .val (.int (Int32.ofNat x))] [] := by first | (simp [entryFrame, mkF, argsToLocals, Value.category]; done) | rfl
def R25 : Room := ({ frames := 0, cells := 0, slots := 0, locals := 0 } : Room)
set_option maxRecDepth 65536 in
set_option maxHeartbeats 40000000 in
theorem rm25 (l : Launch) (Z : State) (a0 : Array Value) (hw : ∀ d ∈ tables_1, d.before a0 Z = true) (a : Addr) (x : Nat) (h0 : Heap) (n0 : Nat) (hO : Old Z n0 h0) (k : Nat) (B : Nat → List Int32) (t hs fo : Nat → Int32) (la : Int32) (H : TXP Z n0 h0 a k B t hs fo la) (hk : k ≤ 4) (hx : x < k) :
    Con l Z (⟨"com/example/indexloom/indexloom/Texts", "follow", "(I)V"⟩ : MethodName) prog_100_method_5_code 2 none [] R25 R25.cells R25.slots #[(.ref a), (.int (Int32.ofNat x))] h0 (fun r h L => ∃ fo', r = none ∧ Fr n0 L ∧ Old Z n0 h ∧ KP Z h0 h ∧ TXP Z n0 h a k B t hs fo' (Int32.ofNat x)) := by
  refine Con.intro (n0 := n0) (plainFor_of_name pn_6) (fun m => ef_25 m a x) hO ?_
  intro p e s m below meth cc T hs0 X0
  obtain ⟨as, ab, ah, at_, af, bd, tx, bA, E_a, F_slots, F_bytes, F_hashes, F_texts, F_following, F_last, F_size, A_as, A_ah, A_af, A_ab, A_at_, htx, E_ab, E_at, O_b, O_t, g_a, g_as, g_ab, g_ah, g_at_, g_af, n_a_as, n_a_ab, n_a_ah, n_a_at_, n_a_af, n_as_ab, n_as_ah, n_as_at_, n_as_af, n_ab_ah, n_ab_at_, n_ab_af, n_ah_at_, n_ah_af, n_at__af, hB, hfo, hla⟩ := id H
  have hBn : ∀ i, i < k → bA i ≠ a ∧ bA i ≠ as ∧ bA i ≠ ab ∧ bA i ≠ ah ∧ bA i ≠ at_ ∧ bA i ≠ af := fun i hi => ⟨own_neE (hB i hi).2.1 E_a (hw _ m58), own_neT (hB i hi).2.1 A_as (by decide), own_neT (hB i hi).2.1 A_ab (by decide), own_neT (hB i hi).2.1 A_ah (by decide), own_neT (hB i hi).2.1 A_at_ (by decide), own_neT (hB i hi).2.1 A_af (by decide)⟩
  refine g_aloadN X0 d25_0 (pc' := 1) rfl rfl rfl ?_
  refine g_getF X0 (host := "") (Or.inl (hw _ m79)) Via.refl F_last d25_1 (pc' := 4) rfl (fun T129 X129 => ?_)
  rcases hla with el | ⟨j0, hj0, el⟩ <;> subst el
  · refine g_if_lt_t X129 d25_4 (pt := 17) (by decide) own_m1 ?_
    refine g_aloadN X129 d25_17 (pc' := 18) rfl rfl rfl ?_
    refine g_iloadN X129 d25_18 (pc' := 19) rfl rfl ?_
    refine g_putF X129 (host := "") (Or.inl (hw _ m79)) Via.refl F_last E_a (Or.inl (hw _ m80)) (hw _ m58) (ty := .int) (by decide) rfl rfl g_a d25_19 (pc' := 22) rfl (fun T130 h130 X130 W130 => ?_)
    have F130 := F_last.same W130
    have k131 := (Keep.refl h0 [a, as, ab, ah, at_, af]).wr W130 (Or.inl (by simp))
    have f132 := (E_a.wr W130)
    have f133 := (F_slots.other W130 (Or.inr (slot_ne (Or.inl (hw _ m66)) (Or.inl (hw _ m80)) (by decide) (t := (.array .int)) (t' := .int) (by decide) (by decide))))
    have f134 := (F_bytes.other W130 (Or.inr (slot_ne (Or.inl (hw _ m70)) (Or.inl (hw _ m80)) (by decide) (t := (.array (.array .byte))) (t' := .int) (by decide) (by decide))))
    have f135 := (F_hashes.other W130 (Or.inr (slot_ne (Or.inl (hw _ m72)) (Or.inl (hw _ m80)) (by decide) (t := (.array .int)) (t' := .int) (by decide) (by decide))))
    have f136 := (F_texts.other W130 (Or.inr (slot_ne (Or.inl (hw _ m76)) (Or.inl (hw _ m80)) (by decide) (t := (.array (.object "java/lang/String"))) (t' := .int) (by decide) (by decide))))
    have f137 := (F_following.other W130 (Or.inr (slot_ne (Or.inl (hw _ m78)) (Or.inl (hw _ m80)) (by decide) (t := (.array .int)) (t' := .int) (by decide) (by decide))))
    have f138 := (F_size.other W130 (Or.inr (slot_ne (Or.inl (hw _ m135)) (Or.inl (hw _ m80)) (by decide) (t := .int) (t' := .int) (by decide) (by decide))))
    have f139 := (A_as.other W130 (Ne.symm n_a_as))
    have f140 := (A_ah.other W130 (Ne.symm n_a_ah))
    have f141 := (A_af.other W130 (Ne.symm n_a_af))
    have f142 := (A_ab.other W130 (Ne.symm n_a_ab))
    have f143 := (A_at_.other W130 (Ne.symm n_a_at_))
    have f144 := (E_ab.wr W130)
    have f145 := (E_at.wr W130)
    exact g_ret X130 rfl d25_22 (by decide) (by decide) ⟨fo, rfl, X130.fr, X130.old, (own_KP k131 (hw _ m58) (hw _ m9) E_a A_as A_ab A_ah A_at_ A_af), ⟨as, ab, ah, at_, af, _, _, bA, f132, f133, f134, f135, f136, f137, F130, f138, f139, f140, f141, f142, f143, htx, f144, f145, O_b, O_t, g_a, g_as, g_ab, g_ah, g_at_, g_af, n_a_as, n_a_ab, n_a_ah, n_a_at_, n_a_af, n_as_ab, n_as_ah, n_as_at_, n_as_af, n_ab_ah, n_ab_at_, n_ab_af, n_ah_at_, n_ah_af, n_at__af, (fun i hi => ⟨(hB i hi).1, ((hB i hi).2.1.other W130 (hBn i hi).1), (hB i hi).2.2⟩), hfo, (Or.inr ⟨x, hx, rfl⟩)⟩⟩
  · refine g_if_lt_f X129 d25_4 (pc' := 7) rfl (own_nn (by omega)) ?_
    refine g_aloadN X129 d25_7 (pc' := 8) rfl rfl rfl ?_
    refine g_getF X129 (host := "") (Or.inl (hw _ m77)) Via.refl F_following d25_8 (pc' := 11) rfl (fun T146 X146 => ?_)
    refine g_aloadN X146 d25_11 (pc' := 12) rfl rfl rfl ?_
    refine g_getF X146 (host := "") (Or.inl (hw _ m79)) Via.refl F_last d25_12 (pc' := 15) rfl (fun T147 X147 => ?_)
    refine g_iloadN X147 d25_15 (pc' := 16) rfl rfl ?_
    refine g_iastore X147 (i := j0) A_af (own_small (by omega)) (by rw [own_li_len]; omega) g_af d25_16 (pc' := 17) rfl (fun T148 h148 X148 W148 A148 => ?_)
    rw [own_li_set] at A148
    refine g_aloadN X148 d25_17 (pc' := 18) rfl rfl rfl ?_
    refine g_iloadN X148 d25_18 (pc' := 19) rfl rfl ?_
    have f149 := (F_last.other W148 (Or.inl n_a_af))
    have f150 := (E_a.wr W148)
    refine g_putF X148 (host := "") (Or.inl (hw _ m79)) Via.refl f149 f150 (Or.inl (hw _ m80)) (hw _ m58) (ty := .int) (by decide) rfl rfl g_a d25_19 (pc' := 22) rfl (fun T151 h151 X151 W151 => ?_)
    have F151 := f149.same W151
    have k152 := (Keep.refl h0 [a, as, ab, ah, at_, af]).wr W148 (Or.inl (by simp))
    have k153 := k152.wr W151 (Or.inl (by simp))
    have f154 := (f150.wr W151)
    have f155 := ((F_slots.other W148 (Or.inl n_a_af)).other W151 (Or.inr (slot_ne (Or.inl (hw _ m66)) (Or.inl (hw _ m80)) (by decide) (t := (.array .int)) (t' := .int) (by decide) (by decide))))
    have f156 := ((F_bytes.other W148 (Or.inl n_a_af)).other W151 (Or.inr (slot_ne (Or.inl (hw _ m70)) (Or.inl (hw _ m80)) (by decide) (t := (.array (.array .byte))) (t' := .int) (by decide) (by decide))))
    have f157 := ((F_hashes.other W148 (Or.inl n_a_af)).other W151 (Or.inr (slot_ne (Or.inl (hw _ m72)) (Or.inl (hw _ m80)) (by decide) (t := (.array .int)) (t' := .int) (by decide) (by decide))))
    have f158 := ((F_texts.other W148 (Or.inl n_a_af)).other W151 (Or.inr (slot_ne (Or.inl (hw _ m76)) (Or.inl (hw _ m80)) (by decide) (t := (.array (.object "java/lang/String"))) (t' := .int) (by decide) (by decide))))
    have f159 := ((F_following.other W148 (Or.inl n_a_af)).other W151 (Or.inr (slot_ne (Or.inl (hw _ m78)) (Or.inl (hw _ m80)) (by decide) (t := (.array .int)) (t' := .int) (by decide) (by decide))))
    have f160 := ((F_size.other W148 (Or.inl n_a_af)).other W151 (Or.inr (slot_ne (Or.inl (hw _ m135)) (Or.inl (hw _ m80)) (by decide) (t := .int) (t' := .int) (by decide) (by decide))))
    have f161 := ((A_as.other W148 n_as_af).other W151 (Ne.symm n_a_as))
    have f162 := ((A_ah.other W148 n_ah_af).other W151 (Ne.symm n_a_ah))
    have f163 := (A148.other W151 (Ne.symm n_a_af))
    have f164 := ((A_ab.other W148 n_ab_af).other W151 (Ne.symm n_a_ab))
    have f165 := ((A_at_.other W148 n_at__af).other W151 (Ne.symm n_a_at_))
    have f166 := ((E_ab.wr W148).wr W151)
    have f167 := ((E_at.wr W148).wr W151)
    exact g_ret X151 rfl d25_22 (by decide) (by decide) ⟨_, rfl, X151.fr, X151.old, (own_KP k153 (hw _ m58) (hw _ m9) E_a A_as A_ab A_ah A_at_ A_af), ⟨as, ab, ah, at_, af, _, _, bA, f154, f155, f156, f157, f158, f159, F151, f160, f161, f162, f163, f164, f165, htx, f166, f167, O_b, O_t, g_a, g_as, g_ab, g_ah, g_at_, g_af, n_a_as, n_a_ab, n_a_ah, n_a_at_, n_a_af, n_as_ab, n_as_ah, n_as_at_, n_as_af, n_ab_ah, n_ab_at_, n_ab_af, n_ah_at_, n_ah_af, n_at__af, (fun i hi => ⟨(hB i hi).1, (((hB i hi).2.1.other W148 (hBn i hi).2.2.2.2.2).other W151 (hBn i hi).1), (hB i hi).2.2⟩), (own_foS hfo hx j0), (Or.inr ⟨x, hx, rfl⟩)⟩⟩

def ix (y : Int32) : Nat := (y &&& (63 : Int32)).toInt.toNat
theorem own_ix (y : Int32) : y &&& (63 : Int32) = Int32.ofNat (ix y) ∧ ix y < 64 := by
  have e1 : (y &&& (63 : Int32)).toInt = y.toInt % 2 ^ 6 := Jvm.Kit.i32_mask y 63 (k := 6) (by decide) (by decide)
  have h : ix y < 64 := by unfold ix; omega
  refine ⟨Int32.toInt_inj.mp ?_, h⟩
  rw [own_small (by omega)]; unfold ix; omega
theorem own_next {s : Nat} (hs : s < 64) : (Int32.ofNat s + (1 : Int32)) &&& (63 : Int32) = Int32.ofNat ((s + 1) % 64) := by
  rw [own_succ]
  have e1 : (Int32.ofNat (s + 1) &&& (63 : Int32)).toInt = (Int32.ofNat (s + 1)).toInt % 2 ^ 6 := Jvm.Kit.i32_mask _ 63 (k := 6) (by decide) (by decide)
  rw [own_small (by omega)] at e1
  apply Int32.toInt_inj.mp; rw [e1, own_small (by omega)]; omega
theorem own_pigeon : ∀ (n : Nat) (f : Nat → Nat) (ps : List Nat), ps.length ≤ n → (∀ i j, i ≤ n → j ≤ n → f i = f j → i = j) → ∃ m, m ≤ n ∧ f m ∉ ps
  | 0, f, ps, hl, _ => ⟨0, Nat.le_refl _, by rw [List.length_eq_zero_iff.mp (Nat.le_zero.mp hl)]; exact List.not_mem_nil⟩
  | n + 1, f, ps, hl, hi => by
    by_cases h : f (n + 1) ∈ ps
    · obtain ⟨m, hm, hn⟩ := own_pigeon n f (ps.erase (f (n + 1))) (by rw [List.length_erase_of_mem h]; omega) (fun i j a b c => hi i j (by omega) (by omega) c)
      refine ⟨m, by omega, fun q => hn ?_⟩
      have hne : f m ≠ f (n + 1) := fun e => by have := hi m (n + 1) (by omega) (Nat.le_refl _) e; omega
      exact (List.mem_erase_of_ne hne).mpr q
    · exact ⟨n + 1, Nat.le_refl _, h⟩
theorem own_free {s k : Nat} {ps : List Nat} (hl : ps.length ≤ k) (hk : k ≤ 4) : ∃ m, (s + m) % 64 ∉ ps := by
  obtain ⟨m, -, hm⟩ := own_pigeon k (fun m => (s + m) % 64) ps hl (fun i j a b c => by omega)
  exact ⟨m, hm⟩
/-- the slots' order: every text is found by probing -/
def SI (k : Nat) (B : Nat → List Int32) (t : Nat → Int32) (ps : List Nat) : Prop := (∀ j, j < 64 → t j ≠ 0 → j ∈ ps) ∧ (∀ j, j < 64 → t j ≠ 0 → ∃ i, i < k ∧ t j = Int32.ofNat (i + 1)) ∧ (∀ i, i < k → ∃ d, t ((ix (HH (B i)) + d) % 64) = Int32.ofNat (i + 1) ∧ ∀ e, e < d → t ((ix (HH (B i)) + e) % 64) ≠ 0) ∧ ps.length ≤ k
/-- what a search answers -/
def FD (k : Nat) (B : Nat → List Int32) (z : List Int32) (e : Int32) : Prop := (∃ i, i < k ∧ B i = z ∧ e = Int32.ofNat i) ∨ ((∀ i, i < k → ¬ B i = z) ∧ e = -1)
theorem own_no {k : Nat} {B : Nat → List Int32} {t : Nat → Int32} {ps : List Nat} (hS : SI k B t ps) (hk : k ≤ 4) {z : List Int32} {d : Nat} (h0 : t ((ix (HH z) + d) % 64) = 0) (hp : ∀ e, e < d → ∀ i, i < k → t ((ix (HH z) + e) % 64) = Int32.ofNat (i + 1) → ¬ B i = z) : ∀ i, i < k → ¬ B i = z := by
  intro i hi e
  obtain ⟨d', q1, q2⟩ := hS.2.2.1 i hi
  rw [e] at q1 q2
  have hne : ¬ Int32.ofNat (i + 1) = 0 := fun z => by
    have z2 := congrArg Int32.toInt z; rw [own_small (by omega)] at z2; have : (0 : Int32).toInt = 0 := rfl
    omega
  rcases Nat.lt_trichotomy d' d with g | g | g
  · exact hp d' g i hi q1 e
  · subst g; exact hne (q1.symm.trans h0)
  · exact q2 d g h0
theorem own_pred1 (i : Nat) : Int32.ofNat (i + 1) - (1 : Int32) = Int32.ofNat i := by rw [← own_succ, Int32.add_sub_cancel]
theorem own_i1 {i j : Nat} (hi : i < 100) (hj : j < 100) (h : Int32.ofNat (i + 1) = Int32.ofNat (j + 1)) : i = j := by
  have := (own_inj (by omega) (by omega)).mp h; omega
theorem own_pn {s d : Nat} : ((s + d) % 64 + 1) % 64 = (s + (d + 1)) % 64 := by omega
theorem own_tz {t : Nat → Int32} {ps : List Nat} (h : ∀ j, j < 64 → t j ≠ 0 → j ∈ ps) {q : Nat} (hq : q < 64) (hm : q ∉ ps) : t q = 0 := Decidable.byContradiction fun g => hm (h q hq g)
theorem d22_0 : decode prog_100_method_6_code 0 = .ok (.aload_n 1, 1) := by decide +kernel
theorem d22_1 : decode prog_100_method_6_code 1 = .ok (.iload_n 2, 1) := by decide +kernel
theorem d22_2 : decode prog_100_method_6_code 2 = .ok (.iload_n 3, 1) := by decide +kernel
theorem d22_3 : decode prog_100_method_6_code 3 = .ok (.invokestatic 50, 3) := by decide +kernel
theorem d22_6 : decode prog_100_method_6_code 6 = .ok (.istore 4, 2) := by decide +kernel
theorem d22_8 : decode prog_100_method_6_code 8 = .ok (.aload_n 0, 1) := by decide +kernel
theorem d22_9 : decode prog_100_method_6_code 9 = .ok (.getfield 9, 3) := by decide +kernel
theorem d22_12 : decode prog_100_method_6_code 12 = .ok (.arraylength, 1) := by decide +kernel
theorem d22_13 : decode prog_100_method_6_code 13 = .ok (.iconst 1, 1) := by decide +kernel
theorem d22_14 : decode prog_100_method_6_code 14 = .ok (.isub, 1) := by decide +kernel
theorem d22_15 : decode prog_100_method_6_code 15 = .ok (.istore 5, 2) := by decide +kernel
theorem d22_17 : decode prog_100_method_6_code 17 = .ok (.iload 4, 2) := by decide +kernel
theorem d22_19 : decode prog_100_method_6_code 19 = .ok (.iload 5, 2) := by decide +kernel
theorem d22_21 : decode prog_100_method_6_code 21 = .ok (.iand, 1) := by decide +kernel
theorem d22_22 : decode prog_100_method_6_code 22 = .ok (.istore 6, 2) := by decide +kernel
theorem d22_24 : decode prog_100_method_6_code 24 = .ok (.aload_n 0, 1) := by decide +kernel
theorem d22_25 : decode prog_100_method_6_code 25 = .ok (.getfield 9, 3) := by decide +kernel
theorem d22_28 : decode prog_100_method_6_code 28 = .ok (.iload 6, 2) := by decide +kernel
theorem d22_30 : decode prog_100_method_6_code 30 = .ok (.iaload, 1) := by decide +kernel
theorem d22_31 : decode prog_100_method_6_code 31 = .ok (.ifCond .eq 57, 3) := by decide +kernel
theorem d22_34 : decode prog_100_method_6_code 34 = .ok (.aload_n 0, 1) := by decide +kernel
theorem d22_35 : decode prog_100_method_6_code 35 = .ok (.getfield 9, 3) := by decide +kernel
theorem d22_38 : decode prog_100_method_6_code 38 = .ok (.iload 6, 2) := by decide +kernel
theorem d22_40 : decode prog_100_method_6_code 40 = .ok (.iaload, 1) := by decide +kernel
theorem d22_41 : decode prog_100_method_6_code 41 = .ok (.iconst 1, 1) := by decide +kernel
theorem d22_42 : decode prog_100_method_6_code 42 = .ok (.isub, 1) := by decide +kernel
theorem d22_43 : decode prog_100_method_6_code 43 = .ok (.istore 7, 2) := by decide +kernel
theorem d22_45 : decode prog_100_method_6_code 45 = .ok (.aload_n 0, 1) := by decide +kernel
theorem d22_46 : decode prog_100_method_6_code 46 = .ok (.getfield 19, 3) := by decide +kernel
theorem d22_49 : decode prog_100_method_6_code 49 = .ok (.iload 7, 2) := by decide +kernel
theorem d22_51 : decode prog_100_method_6_code 51 = .ok (.iaload, 1) := by decide +kernel
theorem d22_52 : decode prog_100_method_6_code 52 = .ok (.iload 4, 2) := by decide +kernel
theorem d22_54 : decode prog_100_method_6_code 54 = .ok (.if_icmp .ne 22, 3) := by decide +kernel
theorem d22_57 : decode prog_100_method_6_code 57 = .ok (.aload_n 0, 1) := by decide +kernel
theorem d22_58 : decode prog_100_method_6_code 58 = .ok (.getfield 15, 3) := by decide +kernel
theorem d22_61 : decode prog_100_method_6_code 61 = .ok (.iload 7, 2) := by decide +kernel
theorem d22_63 : decode prog_100_method_6_code 63 = .ok (.aaload, 1) := by decide +kernel
theorem d22_64 : decode prog_100_method_6_code 64 = .ok (.aload_n 1, 1) := by decide +kernel
theorem d22_65 : decode prog_100_method_6_code 65 = .ok (.iload_n 2, 1) := by decide +kernel
theorem d22_66 : decode prog_100_method_6_code 66 = .ok (.iload_n 3, 1) := by decide +kernel
theorem d22_67 : decode prog_100_method_6_code 67 = .ok (.invokestatic 38, 3) := by decide +kernel
theorem d22_70 : decode prog_100_method_6_code 70 = .ok (.ifCond .eq 6, 3) := by decide +kernel
theorem d22_73 : decode prog_100_method_6_code 73 = .ok (.iload 7, 2) := by decide +kernel
theorem d22_75 : decode prog_100_method_6_code 75 = .ok (.ireturn, 1) := by decide +kernel
theorem d22_76 : decode prog_100_method_6_code 76 = .ok (.iload 6, 2) := by decide +kernel
theorem d22_78 : decode prog_100_method_6_code 78 = .ok (.iconst 1, 1) := by decide +kernel
theorem d22_79 : decode prog_100_method_6_code 79 = .ok (.iadd, 1) := by decide +kernel
theorem d22_80 : decode prog_100_method_6_code 80 = .ok (.iload 5, 2) := by decide +kernel
theorem d22_82 : decode prog_100_method_6_code 82 = .ok (.iand, 1) := by decide +kernel
theorem d22_83 : decode prog_100_method_6_code 83 = .ok (.istore 6, 2) := by decide +kernel
theorem d22_85 : decode prog_100_method_6_code 85 = .ok (.goto (-61), 3) := by decide +kernel
theorem d22_88 : decode prog_100_method_6_code 88 = .ok (.iconst (-1), 1) := by decide +kernel
theorem d22_89 : decode prog_100_method_6_code 89 = .ok (.ireturn, 1) := by decide +kernel
theorem ef_22 (m : MethodId) (a : Addr) (q : Addr) (x : Nat) (y : Nat) : entryFrame m #[(.ref a), (.ref q), (.int (Int32.ofNat x)), (.int (Int32.ofNat y))] 8 = mkF m 0 #[.val (.ref a), .val (.ref q), .val (.int (Int32.ofNat x)), .val (.int (Int32.ofNat y)), .unset, .unset, .unset, .unset] [] := by first | (simp [entryFrame, mkF, argsToLocals, Value.category]; done) | rfl
def R22 : Room := ({ frames := 1, cells := 0, slots := 0, locals := 16 } : Room)
set_option maxRecDepth 65536 in
set_option maxHeartbeats 40000000 in
theorem rm22 (l : Launch) (Z : State) (a0 : Array Value) (hw : ∀ d ∈ tables_1, d.before a0 Z = true) (a : Addr) (q : Addr) (x : Nat) (y : Nat) (h0 : Heap) (n0 : Nat) (hO : Old Z n0 h0) (k : Nat) (B : Nat → List Int32) (t hs fo : Nat → Int32) (la : Int32) (H : TXP Z n0 h0 a k B t hs fo la) (hk : k ≤ 4) (ps : List Nat) (hS : SI k B t ps) (ws : List Int32) (A_q : Arx Z h0 q .byte (own_bs ws)) (hxy : x ≤ y) (hy : y ≤ ws.length) (hw4 : ws.length ≤ 4) :
    Con l Z (⟨"com/example/indexloom/indexloom/Texts", "lookUp", "([BII)I"⟩ : MethodName) prog_100_method_6_code 8 (some .int) [] R22 R22.cells R22.slots #[(.ref a), (.ref q), (.int (Int32.ofNat x)), (.int (Int32.ofNat y))] h0 (fun r h L => ∃ e : Int32, r = some (.int e) ∧ FD k B (sl ws x y) e ∧ h0 = h ∧ L = []) := by
  refine Con.intro (n0 := n0) (plainFor_of_name pn_6) (fun m => ef_22 m a q x y) hO ?_
  intro p e s m below meth cc T hs0 X0
  obtain ⟨as, ab, ah, at_, af, bd, tx, bA, E_a, F_slots, F_bytes, F_hashes, F_texts, F_following, F_last, F_size, A_as, A_ah, A_af, A_ab, A_at_, htx, E_ab, E_at, O_b, O_t, g_a, g_as, g_ab, g_ah, g_at_, g_af, n_a_as, n_a_ab, n_a_ah, n_a_at_, n_a_af, n_as_ab, n_as_ah, n_as_at_, n_as_af, n_ab_ah, n_ab_at_, n_ab_af, n_ah_at_, n_ah_af, n_at__af, hB, hfo, hla⟩ := id H
  have hBn : ∀ i, i < k → bA i ≠ a ∧ bA i ≠ as ∧ bA i ≠ ab ∧ bA i ≠ ah ∧ bA i ≠ at_ ∧ bA i ≠ af := fun i hi => ⟨own_neE (hB i hi).2.1 E_a (hw _ m58), own_neT (hB i hi).2.1 A_as (by decide), own_neT (hB i hi).2.1 A_ab (by decide), own_neT (hB i hi).2.1 A_ah (by decide), own_neT (hB i hi).2.1 A_at_ (by decide), own_neT (hB i hi).2.1 A_af (by decide)⟩
  have loop : ∀ (r d : Nat) (T : State) (locs : List Loc) (s7 : Slot), (s7 = .unset ∨ ∃ w : Value, s7 = .val w ∧ w.category = 1) → (ix (HH (sl ws x y)) + (d + r)) % 64 ∉ ps → locs = [] → (∀ e, e < d → ∀ i, i < k → t ((ix (HH (sl ws x y)) + e) % 64) = Int32.ofNat (i + 1) → ¬ B i = sl ws x y) → St Z n0 p l e R22 s m #[(.ref a), (.ref q), (.int (Int32.ofNat x)), (.int (Int32.ofNat y))] below meth cc "com/example/indexloom/indexloom/Texts" "lookUp" prog_100_method_6_code 8 (some .int) T locs 0 0 h0 → Go p e below (Kq s R22.cells R22.slots (fun r h L => ∃ e : Int32, r = some (.int e) ∧ FD k B (sl ws x y) e ∧ h0 = h ∧ L = [])) (T.setTop (mkF m 24 #[.val (.ref a), .val (.ref q), .val (.int (Int32.ofNat x)), .val (.int (Int32.ofNat y)), .val (.int (HH (sl ws x y))), .val (.int (63 : Int32)), .val (.int (Int32.ofNat ((ix (HH (sl ws x y)) + d) % 64))), s7] [])) := by
    intro r
    induction r with
    | zero =>
      rintro d T _ s7 h7 hm rfl hp X
      have hq : ((ix (HH (sl ws x y)) + d) % 64) < 64 := Nat.mod_lt _ (by omega)
      refine g_aloadN X d22_24 (pc' := 25) rfl rfl rfl ?_
      refine g_getF X (host := "") (Or.inl (hw _ m65)) Via.refl F_slots d22_25 (pc' := 28) rfl (fun T168 X168 => ?_)
      refine g_iload X168 d22_28 (pc' := 30) rfl rfl ?_
      refine g_iaload X168 (i := ((ix (HH (sl ws x y)) + d) % 64)) (v := (.int (t ((ix (HH (sl ws x y)) + d) % 64)))) A_as (own_small (by omega)) (own_li_at _ hq) d22_30 (pc' := 31) rfl ?_
      have ht0 : t ((ix (HH (sl ws x y)) + d) % 64) = 0 := own_tz hS.1 hq hm
      refine g_if_eq_t X168 d22_31 (pt := 88) (by decide) ht0 ?_
      refine g_iconst X168 d22_88 (pc' := 89) rfl (v := (-1 : Int32)) rfl ?_
      exact g_retI X168 rfl d22_89 (by decide) (by decide) ⟨-1, rfl, Or.inr ⟨own_no hS hk ht0 hp, rfl⟩, rfl, rfl⟩
    | succ r ih =>
      rintro d T _ s7 h7 hm rfl hp X
      have hq : ((ix (HH (sl ws x y)) + d) % 64) < 64 := Nat.mod_lt _ (by omega)
      refine g_aloadN X d22_24 (pc' := 25) rfl rfl rfl ?_
      refine g_getF X (host := "") (Or.inl (hw _ m65)) Via.refl F_slots d22_25 (pc' := 28) rfl (fun T169 X169 => ?_)
      refine g_iload X169 d22_28 (pc' := 30) rfl rfl ?_
      refine g_iaload X169 (i := ((ix (HH (sl ws x y)) + d) % 64)) (v := (.int (t ((ix (HH (sl ws x y)) + d) % 64)))) A_as (own_small (by omega)) (own_li_at _ hq) d22_30 (pc' := 31) rfl ?_
      refine g_if_eq X169 d22_31 (pt := 88) (by decide) (pc' := 34) rfl (fun hc31 => ?_) (fun hc31 => ?_)
      · refine g_iconst X169 d22_88 (pc' := 89) rfl (v := (-1 : Int32)) rfl ?_
        exact g_retI X169 rfl d22_89 (by decide) (by decide) ⟨-1, rfl, Or.inr ⟨own_no hS hk hc31 hp, rfl⟩, rfl, rfl⟩
      · refine g_aloadN X169 d22_34 (pc' := 35) rfl rfl rfl ?_
        refine g_getF X169 (host := "") (Or.inl (hw _ m65)) Via.refl F_slots d22_35 (pc' := 38) rfl (fun T170 X170 => ?_)
        refine g_iload X170 d22_38 (pc' := 40) rfl rfl ?_
        refine g_iaload X170 (i := ((ix (HH (sl ws x y)) + d) % 64)) (v := (.int (t ((ix (HH (sl ws x y)) + d) % 64)))) A_as (own_small (by omega)) (own_li_at _ hq) d22_40 (pc' := 41) rfl ?_
        obtain ⟨i, hi, et⟩ := hS.2.1 _ hq hc31
        rw [et]
        refine g_iconst X170 d22_41 (pc' := 42) rfl (v := (1 : Int32)) rfl ?_
        refine g_isub X170 d22_42 (pc' := 43) rfl ?_
        rw [own_pred1]
        refine g_istore X170 d22_43 (pc' := 45) rfl (L' := #[.val (.ref a), .val (.ref q), .val (.int (Int32.ofNat x)), .val (.int (Int32.ofNat y)), .val (.int (HH (sl ws x y))), .val (.int (63 : Int32)), .val (.int (Int32.ofNat ((ix (HH (sl ws x y)) + d) % 64))), .val (.int (Int32.ofNat i))]) (XS.store1 rfl h7 rfl) ?_
        refine g_aloadN X170 d22_45 (pc' := 46) rfl rfl rfl ?_
        refine g_getF X170 (host := "") (Or.inl (hw _ m71)) Via.refl F_hashes d22_46 (pc' := 49) rfl (fun T171 X171 => ?_)
        refine g_iload X171 d22_49 (pc' := 51) rfl rfl ?_
        refine g_iaload X171 (i := i) (v := (.int (hs i))) A_ah (own_small (by omega)) (own_li_at _ (by omega)) d22_51 (pc' := 52) rfl ?_
        refine g_iload X171 d22_52 (pc' := 54) rfl rfl ?_
        refine g_icmp_ne X171 d22_54 (pt := 76) (by decide) (pc' := 57) rfl (fun hc54 => ?_) (fun hc54 => ?_)
        · refine g_iload X171 d22_76 (pc' := 78) rfl rfl ?_
          refine g_iconst X171 d22_78 (pc' := 79) rfl (v := (1 : Int32)) rfl ?_
          refine g_iadd X171 d22_79 (pc' := 80) rfl ?_
          refine g_iload X171 d22_80 (pc' := 82) rfl rfl ?_
          refine g_iand X171 d22_82 (pc' := 83) rfl ?_
          rw [own_next hq]
          refine g_istore X171 d22_83 (pc' := 85) rfl (L' := #[.val (.ref a), .val (.ref q), .val (.int (Int32.ofNat x)), .val (.int (Int32.ofNat y)), .val (.int (HH (sl ws x y))), .val (.int (63 : Int32)), .val (.int (Int32.ofNat ((((ix (HH (sl ws x y)) + d) % 64) + 1) % 64))), .val (.int (Int32.ofNat i))]) rfl ?_
          refine g_goto X171 d22_85 (pt := 24) (by decide) ?_
          rw [own_pn]
          exact ih (d + 1) _ _ _ (Or.inr ⟨_, rfl, rfl⟩) (by rw [show d + 1 + r = d + (r + 1) by omega]; exact hm) rfl (fun e he i' hi' z => by by_cases g : e = d; subst g; have g2 := own_i1 (by omega) (by omega) (et.symm.trans z); subst g2; exact fun zz => hc54 (by rw [(hB i hi).2.2.2, zz]); exact hp e (by omega) i' hi' z) X171
        · refine g_aloadN X171 d22_57 (pc' := 58) rfl rfl rfl ?_
          refine g_getF X171 (host := "") (Or.inl (hw _ m69)) Via.refl F_bytes d22_58 (pc' := 61) rfl (fun T172 X172 => ?_)
          refine g_iload X172 d22_61 (pc' := 63) rfl rfl ?_
          refine g_aaload X172 (i := i) (v := (.ref (bA i))) A_ab rfl (own_small (by omega)) ((own_lv_at _ (by omega)).trans (congrArg some (hB i hi).1)) d22_63 (pc' := 64) rfl ?_
          refine g_aloadN X172 d22_64 (pc' := 65) rfl rfl rfl ?_
          refine g_iloadN X172 d22_65 (pc' := 66) rfl rfl ?_
          refine g_iloadN X172 d22_66 (pc' := 67) rfl rfl ?_
          refine g_callS X172 (y := (⟨"com/example/indexloom/indexloom/Texts", "equal", "([B[BII)Z"⟩ : MethodName)) [(.ref (bA i)), (.ref q), (.int (Int32.ofNat x)), (.int (Int32.ofNat y))] (hw _ m144) (hw _ m145) (hw _ m59) (hw _ m146) (hw _ m59) (rm26 l Z a0 hw (bA i) q x y h0 n0 X172.old (B i) (hB i hi).2.1 (hB i hi).2.2.1 ws A_q hxy hy hw4) (by decide) (by decide) (by decide) (by decide) (by decide) rfl pd_18 rfl (rest := []) rfl (W := 0) rfl d22_67 (pc' := 70) rfl ?_
          rintro _ T173 _ _ Y173 ⟨z173, rfl, r173, rfl, rfl⟩
          have X173 := Y173 X172.old (Fr.nil _)
          show Go p e below _ (State.setTop _ (mkF m 70 #[.val (.ref a), .val (.ref q), .val (.int (Int32.ofNat x)), .val (.int (Int32.ofNat y)), .val (.int (HH (sl ws x y))), .val (.int (63 : Int32)), .val (.int (Int32.ofNat ((ix (HH (sl ws x y)) + d) % 64))), .val (.int (Int32.ofNat i))] [(.int z173)]))
          refine g_if_eq X173 d22_70 (pt := 76) (by decide) (pc' := 73) rfl (fun hc70 => ?_) (fun hc70 => ?_)
          · refine g_iload X173 d22_76 (pc' := 78) rfl rfl ?_
            refine g_iconst X173 d22_78 (pc' := 79) rfl (v := (1 : Int32)) rfl ?_
            refine g_iadd X173 d22_79 (pc' := 80) rfl ?_
            refine g_iload X173 d22_80 (pc' := 82) rfl rfl ?_
            refine g_iand X173 d22_82 (pc' := 83) rfl ?_
            rw [own_next hq]
            refine g_istore X173 d22_83 (pc' := 85) rfl (L' := #[.val (.ref a), .val (.ref q), .val (.int (Int32.ofNat x)), .val (.int (Int32.ofNat y)), .val (.int (HH (sl ws x y))), .val (.int (63 : Int32)), .val (.int (Int32.ofNat ((((ix (HH (sl ws x y)) + d) % 64) + 1) % 64))), .val (.int (Int32.ofNat i))]) rfl ?_
            refine g_goto X173 d22_85 (pt := 24) (by decide) ?_
            rw [own_pn]
            exact ih (d + 1) _ _ _ (Or.inr ⟨_, rfl, rfl⟩) (by rw [show d + 1 + r = d + (r + 1) by omega]; exact hm) rfl (fun e he i' hi' z => by by_cases g : e = d; subst g; have g2 := own_i1 (by omega) (by omega) (et.symm.trans z); subst g2; exact fun zz => (r173.elim (fun z => absurd (hc70.symm.trans z.1) (by decide)) (fun z => z.2)) zz; exact hp e (by omega) i' hi' z) X173
          · refine g_iload X173 d22_73 (pc' := 75) rfl rfl ?_
            exact g_retI X173 rfl d22_75 (by decide) (by decide) ⟨_, rfl, Or.inl ⟨i, hi, r173.elim (fun z => z.2) (fun z => absurd z.1 hc70), rfl⟩, rfl, rfl⟩
  refine g_aloadN X0 d22_0 (pc' := 1) rfl rfl rfl ?_
  refine g_iloadN X0 d22_1 (pc' := 2) rfl rfl ?_
  refine g_iloadN X0 d22_2 (pc' := 3) rfl rfl ?_
  refine g_callS X0 (y := (⟨"com/example/indexloom/indexloom/Texts", "hash", "([BII)I"⟩ : MethodName)) [(.ref q), (.int (Int32.ofNat x)), (.int (Int32.ofNat y))] (hw _ m131) (hw _ m132) (hw _ m59) (hw _ m133) (hw _ m59) (rm23 l Z a0 hw q x y h0 n0 X0.old ws A_q hxy hy hw4) (by decide) (by decide) (by decide) (by decide) (by decide) rfl pd_3 rfl (rest := []) rfl (W := 0) rfl d22_3 (pc' := 6) rfl ?_
  rintro _ T174 _ _ Y174 ⟨rfl, rfl, rfl⟩
  have X174 := Y174 X0.old (Fr.nil _)
  show Go p e below _ (State.setTop _ (mkF m 6 #[.val (.ref a), .val (.ref q), .val (.int (Int32.ofNat x)), .val (.int (Int32.ofNat y)), .unset, .unset, .unset, .unset] [(.int (HH (sl ws x y)))]))
  refine g_istore X174 d22_6 (pc' := 8) rfl (L' := #[.val (.ref a), .val (.ref q), .val (.int (Int32.ofNat x)), .val (.int (Int32.ofNat y)), .val (.int (HH (sl ws x y))), .unset, .unset, .unset]) rfl ?_
  refine g_aloadN X174 d22_8 (pc' := 9) rfl rfl rfl ?_
  refine g_getF X174 (host := "") (Or.inl (hw _ m65)) Via.refl F_slots d22_9 (pc' := 12) rfl (fun T175 X175 => ?_)
  refine g_arraylength X175 (n := (64 : Int32)) A_as (by rw [own_li_len] <;> rfl) d22_12 (pc' := 13) rfl ?_
  refine g_iconst X175 d22_13 (pc' := 14) rfl (v := (1 : Int32)) rfl ?_
  refine g_isub X175 d22_14 (pc' := 15) rfl ?_
  rw [show ((64 : Int32) - (1 : Int32)) = (63 : Int32) from rfl]
  refine g_istore X175 d22_15 (pc' := 17) rfl (L' := #[.val (.ref a), .val (.ref q), .val (.int (Int32.ofNat x)), .val (.int (Int32.ofNat y)), .val (.int (HH (sl ws x y))), .val (.int (63 : Int32)), .unset, .unset]) rfl ?_
  refine g_iload X175 d22_17 (pc' := 19) rfl rfl ?_
  refine g_iload X175 d22_19 (pc' := 21) rfl rfl ?_
  refine g_iand X175 d22_21 (pc' := 22) rfl ?_
  rw [(own_ix _).1, show Int32.ofNat (ix (HH (sl ws x y))) = Int32.ofNat ((ix (HH (sl ws x y)) + 0) % 64) from by rw [Nat.add_zero, Nat.mod_eq_of_lt (own_ix _).2]]
  refine g_istore X175 d22_22 (pc' := 24) rfl (L' := #[.val (.ref a), .val (.ref q), .val (.int (Int32.ofNat x)), .val (.int (Int32.ofNat y)), .val (.int (HH (sl ws x y))), .val (.int (63 : Int32)), .val (.int (Int32.ofNat ((ix (HH (sl ws x y)) + 0) % 64))), .unset]) rfl ?_
  obtain ⟨r, hr⟩ := own_free (s := ix (HH (sl ws x y))) hS.2.2.2 hk
  exact loop r 0 _ _ _ (Or.inl rfl) (by rw [Nat.zero_add]; exact hr) rfl (fun e he => absurd he (Nat.not_lt_zero e)) X175

theorem own_txE {Z : State} {n0 : Nat} {h : Heap} {a : Addr} {k : Nat} {B : Nat → List Int32} {t hs fo : Nat → Int32} {la : Int32} (H : TXP Z n0 h a k B t hs fo la) : Exa Z h a "com/example/indexloom/indexloom/Texts" := by obtain ⟨_, _, _, _, _, _, _, _, E, -⟩ := H; exact E
theorem d21_0 : decode prog_100_method_4_code 0 = .ok (.aload_n 0, 1) := by decide +kernel
theorem d21_1 : decode prog_100_method_4_code 1 = .ok (.getfield 31, 3) := by decide +kernel
theorem d21_4 : decode prog_100_method_4_code 4 = .ok (.ifCond .ge 7, 3) := by decide +kernel
theorem d21_7 : decode prog_100_method_4_code 7 = .ok (.iconst (-1), 1) := by decide +kernel
theorem d21_8 : decode prog_100_method_4_code 8 = .ok (.goto 12, 3) := by decide +kernel
theorem d21_11 : decode prog_100_method_4_code 11 = .ok (.aload_n 0, 1) := by decide +kernel
theorem d21_12 : decode prog_100_method_4_code 12 = .ok (.getfield 28, 3) := by decide +kernel
theorem d21_15 : decode prog_100_method_4_code 15 = .ok (.aload_n 0, 1) := by decide +kernel
theorem d21_16 : decode prog_100_method_4_code 16 = .ok (.getfield 31, 3) := by decide +kernel
theorem d21_19 : decode prog_100_method_4_code 19 = .ok (.iaload, 1) := by decide +kernel
theorem d21_20 : decode prog_100_method_4_code 20 = .ok (.istore 4, 2) := by decide +kernel
theorem d21_22 : decode prog_100_method_4_code 22 = .ok (.iload 4, 2) := by decide +kernel
theorem d21_24 : decode prog_100_method_4_code 24 = .ok (.ifCond .lt 28, 3) := by decide +kernel
theorem d21_27 : decode prog_100_method_4_code 27 = .ok (.aload_n 0, 1) := by decide +kernel
theorem d21_28 : decode prog_100_method_4_code 28 = .ok (.getfield 15, 3) := by decide +kernel
theorem d21_31 : decode prog_100_method_4_code 31 = .ok (.iload 4, 2) := by decide +kernel
theorem d21_33 : decode prog_100_method_4_code 33 = .ok (.aaload, 1) := by decide +kernel
theorem d21_34 : decode prog_100_method_4_code 34 = .ok (.aload_n 1, 1) := by decide +kernel
theorem d21_35 : decode prog_100_method_4_code 35 = .ok (.iload_n 2, 1) := by decide +kernel
theorem d21_36 : decode prog_100_method_4_code 36 = .ok (.iload_n 3, 1) := by decide +kernel
theorem d21_37 : decode prog_100_method_4_code 37 = .ok (.invokestatic 38, 3) := by decide +kernel
theorem d21_40 : decode prog_100_method_4_code 40 = .ok (.ifCond .eq 12, 3) := by decide +kernel
theorem d21_43 : decode prog_100_method_4_code 43 = .ok (.aload_n 0, 1) := by decide +kernel
theorem d21_44 : decode prog_100_method_4_code 44 = .ok (.iload 4, 2) := by decide +kernel
theorem d21_46 : decode prog_100_method_4_code 46 = .ok (.putfield 31, 3) := by decide +kernel
theorem d21_49 : decode prog_100_method_4_code 49 = .ok (.iload 4, 2) := by decide +kernel
theorem d21_51 : decode prog_100_method_4_code 51 = .ok (.ireturn, 1) := by decide +kernel
theorem d21_52 : decode prog_100_method_4_code 52 = .ok (.aload_n 0, 1) := by decide +kernel
theorem d21_53 : decode prog_100_method_4_code 53 = .ok (.aload_n 1, 1) := by decide +kernel
theorem d21_54 : decode prog_100_method_4_code 54 = .ok (.iload_n 2, 1) := by decide +kernel
theorem d21_55 : decode prog_100_method_4_code 55 = .ok (.iload_n 3, 1) := by decide +kernel
theorem d21_56 : decode prog_100_method_4_code 56 = .ok (.invokevirtual 42, 3) := by decide +kernel
theorem d21_59 : decode prog_100_method_4_code 59 = .ok (.istore 5, 2) := by decide +kernel
theorem d21_61 : decode prog_100_method_4_code 61 = .ok (.iload 5, 2) := by decide +kernel
theorem d21_63 : decode prog_100_method_4_code 63 = .ok (.ifCond .lt 9, 3) := by decide +kernel
theorem d21_66 : decode prog_100_method_4_code 66 = .ok (.aload_n 0, 1) := by decide +kernel
theorem d21_67 : decode prog_100_method_4_code 67 = .ok (.iload 5, 2) := by decide +kernel
theorem d21_69 : decode prog_100_method_4_code 69 = .ok (.invokevirtual 46, 3) := by decide +kernel
theorem d21_72 : decode prog_100_method_4_code 72 = .ok (.iload 5, 2) := by decide +kernel
theorem d21_74 : decode prog_100_method_4_code 74 = .ok (.ireturn, 1) := by decide +kernel
theorem ef_21 (m : MethodId) (a : Addr) (q : Addr) (x : Nat) (y : Nat) : entryFrame m #[(.ref a), (.ref q), (.int (Int32.ofNat x)), (.int (Int32.ofNat y))] 6 = mkF m 0 #[.val (.ref a), .val (.ref q), .val (.int (Int32.ofNat x)), .val (.int (Int32.ofNat y)), .unset, .unset] [] := by first | (simp [entryFrame, mkF, argsToLocals, Value.category]; done) | rfl
def R21 : Room := ({ frames := 2, cells := 0, slots := 0, locals := 35 } : Room)
set_option maxRecDepth 65536 in
set_option maxHeartbeats 40000000 in
theorem rm21 (l : Launch) (Z : State) (a0 : Array Value) (hw : ∀ d ∈ tables_1, d.before a0 Z = true) (a : Addr) (q : Addr) (x : Nat) (y : Nat) (h0 : Heap) (n0 : Nat) (hO : Old Z n0 h0) (k : Nat) (B : Nat → List Int32) (t hs fo : Nat → Int32) (la0 : Int32) (H : TXP Z n0 h0 a k B t hs fo la0) (hk : k ≤ 4) (ps : List Nat) (hS : SI k B t ps) (ws : List Int32) (A_q : Arx Z h0 q .byte (own_bs ws)) (hxy : x ≤ y) (hy : y ≤ ws.length) (hw4 : ws.length ≤ 4) :
    Con l Z (⟨"com/example/indexloom/indexloom/Texts", "find", "([BII)I"⟩ : MethodName) prog_100_method_4_code 6 (some .int) [] R21 R21.cells R21.slots #[(.ref a), (.ref q), (.int (Int32.ofNat x)), (.int (Int32.ofNat y))] h0 (fun r h L => ∃ (e : Int32) (fo' : Nat → Int32) (la' : Int32), r = some (.int e) ∧ Fr n0 L ∧ Old Z n0 h ∧ KP Z h0 h ∧ TXP Z n0 h a k B t hs fo' la' ∧ FD k B (sl ws x y) e) := by
  refine Con.intro (n0 := n0) (plainFor_of_name pn_6) (fun m => ef_21 m a q x y) hO ?_
  intro p e s m below meth cc T hs0 X0
  obtain ⟨as, ab, ah, at_, af, bd, tx, bA, E_a, F_slots, F_bytes, F_hashes, F_texts, F_following, F_last, F_size, A_as, A_ah, A_af, A_ab, A_at_, htx, E_ab, E_at, O_b, O_t, g_a, g_as, g_ab, g_ah, g_at_, g_af, n_a_as, n_a_ab, n_a_ah, n_a_at_, n_a_af, n_as_ab, n_as_ah, n_as_at_, n_as_af, n_ab_ah, n_ab_at_, n_ab_af, n_ah_at_, n_ah_af, n_at__af, hB, hfo, hla⟩ := id H
  have hBn : ∀ i, i < k → bA i ≠ a ∧ bA i ≠ as ∧ bA i ≠ ab ∧ bA i ≠ ah ∧ bA i ≠ at_ ∧ bA i ≠ af := fun i hi => ⟨own_neE (hB i hi).2.1 E_a (hw _ m58), own_neT (hB i hi).2.1 A_as (by decide), own_neT (hB i hi).2.1 A_ab (by decide), own_neT (hB i hi).2.1 A_ah (by decide), own_neT (hB i hi).2.1 A_at_ (by decide), own_neT (hB i hi).2.1 A_af (by decide)⟩
  refine g_aloadN X0 d21_0 (pc' := 1) rfl rfl rfl ?_
  refine g_getF X0 (host := "") (Or.inl (hw _ m79)) Via.refl F_last d21_1 (pc' := 4) rfl (fun T176 X176 => ?_)
  rcases hla with el | ⟨j0, hj0, el⟩ <;> rw [el]
  · refine g_if_ge_f X176 d21_4 (pc' := 7) rfl own_m1 ?_
    refine g_iconst X176 d21_7 (pc' := 8) rfl (v := (-1 : Int32)) rfl ?_
    refine g_goto X176 d21_8 (pt := 20) (by decide) ?_
    refine g_istore X176 d21_20 (pc' := 22) rfl (L' := #[.val (.ref a), .val (.ref q), .val (.int (Int32.ofNat x)), .val (.int (Int32.ofNat y)), .val (.int (-1 : Int32)), .unset]) rfl ?_
    refine g_iload X176 d21_22 (pc' := 24) rfl rfl ?_
    refine g_if_lt_t X176 d21_24 (pt := 52) (by decide) own_m1 ?_
    refine g_aloadN X176 d21_52 (pc' := 53) rfl rfl rfl ?_
    refine g_aloadN X176 d21_53 (pc' := 54) rfl rfl rfl ?_
    refine g_iloadN X176 d21_54 (pc' := 55) rfl rfl ?_
    refine g_iloadN X176 d21_55 (pc' := 56) rfl rfl ?_
    refine g_callP X176 (y := (⟨"com/example/indexloom/indexloom/Texts", "lookUp", "([BII)I"⟩ : MethodName)) (a := a) [(.ref q), (.int (Int32.ofNat x)), (.int (Int32.ofNat y))] (hw _ m127) (hw _ m128) (hw _ m129) (hw _ m58) E_a (hw _ m130) (hw _ m59) (rm22 l Z a0 hw a q x y h0 n0 X176.old k B t hs fo la0 H hk ps hS ws A_q hxy hy hw4) (by decide) (by decide) (by decide) (by decide) (by decide) rfl pd_3 rfl (rest := []) rfl (W := 0) rfl d21_56 (pc' := 59) rfl ?_
    rintro _ T177 _ _ Y177 ⟨z177, rfl, r177, rfl, rfl⟩
    have X177 := Y177 X176.old (Fr.nil _)
    show Go p e below _ (State.setTop _ (mkF m 59 #[.val (.ref a), .val (.ref q), .val (.int (Int32.ofNat x)), .val (.int (Int32.ofNat y)), .val (.int (-1 : Int32)), .unset] [(.int z177)]))
    refine g_istore X177 d21_59 (pc' := 61) rfl (L' := #[.val (.ref a), .val (.ref q), .val (.int (Int32.ofNat x)), .val (.int (Int32.ofNat y)), .val (.int (-1 : Int32)), .val (.int z177)]) rfl ?_
    rcases r177 with ⟨i, hi, eB, ez⟩ | ⟨hno, ez⟩ <;> subst ez
    · refine g_iload X177 d21_61 (pc' := 63) rfl rfl ?_
      refine g_if_lt_f X177 d21_63 (pc' := 66) rfl (own_nn (by omega)) ?_
      refine g_aloadN X177 d21_66 (pc' := 67) rfl rfl rfl ?_
      refine g_iload X177 d21_67 (pc' := 69) rfl rfl ?_
      refine g_callP X177 (y := (⟨"com/example/indexloom/indexloom/Texts", "follow", "(I)V"⟩ : MethodName)) (a := a) [(.int (Int32.ofNat i))] (hw _ m140) (hw _ m141) (hw _ m142) (hw _ m58) E_a (hw _ m143) (hw _ m59) (rm25 l Z a0 hw a i h0 n0 X177.old k B t hs fo la0 H hk hi) (by decide) (by decide) (by decide) (by decide) (by decide) rfl pd_19 rfl (rest := []) rfl (W := 0) rfl d21_69 (pc' := 72) rfl ?_
      rintro _ T178 h178 L178 Y178 ⟨fo178, rfl, N178, z178, K178, H178⟩
      have X178 := Y178 z178 N178
      show Go p e below _ (State.setTop _ (mkF m 72 #[.val (.ref a), .val (.ref q), .val (.int (Int32.ofNat x)), .val (.int (Int32.ofNat y)), .val (.int (-1 : Int32)), .val (.int (Int32.ofNat i))] []))
      refine g_iload X178 d21_72 (pc' := 74) rfl rfl ?_
      exact g_retI X178 rfl d21_74 (by decide) (by decide) ⟨_, _, _, rfl, X178.fr, X178.old, K178, H178, Or.inl ⟨i, hi, eB, rfl⟩⟩
    · refine g_iload X177 d21_61 (pc' := 63) rfl rfl ?_
      refine g_if_lt_t X177 d21_63 (pt := 72) (by decide) own_m1 ?_
      refine g_iload X177 d21_72 (pc' := 74) rfl rfl ?_
      exact g_retI X177 rfl d21_74 (by decide) (by decide) ⟨_, _, _, rfl, X177.fr, X177.old, KP.refl _ _, H, Or.inr ⟨hno, rfl⟩⟩
  · refine g_if_ge_t X176 d21_4 (pt := 11) (by decide) (own_nn (by omega)) ?_
    refine g_aloadN X176 d21_11 (pc' := 12) rfl rfl rfl ?_
    refine g_getF X176 (host := "") (Or.inl (hw _ m77)) Via.refl F_following d21_12 (pc' := 15) rfl (fun T179 X179 => ?_)
    refine g_aloadN X179 d21_15 (pc' := 16) rfl rfl rfl ?_
    refine g_getF X179 (host := "") (Or.inl (hw _ m79)) Via.refl F_last d21_16 (pc' := 19) rfl (fun T180 X180 => ?_)
    rw [el]
    refine g_iaload X180 (i := j0) (v := (.int (fo j0))) A_af (own_small (by omega)) (own_li_at _ (by omega)) d21_19 (pc' := 20) rfl ?_
    rcases hfo j0 hj0 with eg | ⟨g, hg, eg⟩ <;> rw [eg]
    · refine g_istore X180 d21_20 (pc' := 22) rfl (L' := #[.val (.ref a), .val (.ref q), .val (.int (Int32.ofNat x)), .val (.int (Int32.ofNat y)), .val (.int (-1 : Int32)), .unset]) rfl ?_
      refine g_iload X180 d21_22 (pc' := 24) rfl rfl ?_
      refine g_if_lt_t X180 d21_24 (pt := 52) (by decide) own_m1 ?_
      refine g_aloadN X180 d21_52 (pc' := 53) rfl rfl rfl ?_
      refine g_aloadN X180 d21_53 (pc' := 54) rfl rfl rfl ?_
      refine g_iloadN X180 d21_54 (pc' := 55) rfl rfl ?_
      refine g_iloadN X180 d21_55 (pc' := 56) rfl rfl ?_
      refine g_callP X180 (y := (⟨"com/example/indexloom/indexloom/Texts", "lookUp", "([BII)I"⟩ : MethodName)) (a := a) [(.ref q), (.int (Int32.ofNat x)), (.int (Int32.ofNat y))] (hw _ m127) (hw _ m128) (hw _ m129) (hw _ m58) E_a (hw _ m130) (hw _ m59) (rm22 l Z a0 hw a q x y h0 n0 X180.old k B t hs fo la0 H hk ps hS ws A_q hxy hy hw4) (by decide) (by decide) (by decide) (by decide) (by decide) rfl pd_3 rfl (rest := []) rfl (W := 0) rfl d21_56 (pc' := 59) rfl ?_
      rintro _ T181 _ _ Y181 ⟨z181, rfl, r181, rfl, rfl⟩
      have X181 := Y181 X180.old (Fr.nil _)
      show Go p e below _ (State.setTop _ (mkF m 59 #[.val (.ref a), .val (.ref q), .val (.int (Int32.ofNat x)), .val (.int (Int32.ofNat y)), .val (.int (-1 : Int32)), .unset] [(.int z181)]))
      refine g_istore X181 d21_59 (pc' := 61) rfl (L' := #[.val (.ref a), .val (.ref q), .val (.int (Int32.ofNat x)), .val (.int (Int32.ofNat y)), .val (.int (-1 : Int32)), .val (.int z181)]) rfl ?_
      rcases r181 with ⟨i, hi, eB, ez⟩ | ⟨hno, ez⟩ <;> subst ez
      · refine g_iload X181 d21_61 (pc' := 63) rfl rfl ?_
        refine g_if_lt_f X181 d21_63 (pc' := 66) rfl (own_nn (by omega)) ?_
        refine g_aloadN X181 d21_66 (pc' := 67) rfl rfl rfl ?_
        refine g_iload X181 d21_67 (pc' := 69) rfl rfl ?_
        refine g_callP X181 (y := (⟨"com/example/indexloom/indexloom/Texts", "follow", "(I)V"⟩ : MethodName)) (a := a) [(.int (Int32.ofNat i))] (hw _ m140) (hw _ m141) (hw _ m142) (hw _ m58) E_a (hw _ m143) (hw _ m59) (rm25 l Z a0 hw a i h0 n0 X181.old k B t hs fo la0 H hk hi) (by decide) (by decide) (by decide) (by decide) (by decide) rfl pd_19 rfl (rest := []) rfl (W := 0) rfl d21_69 (pc' := 72) rfl ?_
        rintro _ T182 h182 L182 Y182 ⟨fo182, rfl, N182, z182, K182, H182⟩
        have X182 := Y182 z182 N182
        show Go p e below _ (State.setTop _ (mkF m 72 #[.val (.ref a), .val (.ref q), .val (.int (Int32.ofNat x)), .val (.int (Int32.ofNat y)), .val (.int (-1 : Int32)), .val (.int (Int32.ofNat i))] []))
        refine g_iload X182 d21_72 (pc' := 74) rfl rfl ?_
        exact g_retI X182 rfl d21_74 (by decide) (by decide) ⟨_, _, _, rfl, X182.fr, X182.old, K182, H182, Or.inl ⟨i, hi, eB, rfl⟩⟩
      · refine g_iload X181 d21_61 (pc' := 63) rfl rfl ?_
        refine g_if_lt_t X181 d21_63 (pt := 72) (by decide) own_m1 ?_
        refine g_iload X181 d21_72 (pc' := 74) rfl rfl ?_
        exact g_retI X181 rfl d21_74 (by decide) (by decide) ⟨_, _, _, rfl, X181.fr, X181.old, KP.refl _ _, H, Or.inr ⟨hno, rfl⟩⟩
    · refine g_istore X180 d21_20 (pc' := 22) rfl (L' := #[.val (.ref a), .val (.ref q), .val (.int (Int32.ofNat x)), .val (.int (Int32.ofNat y)), .val (.int (Int32.ofNat g)), .unset]) rfl ?_
      refine g_iload X180 d21_22 (pc' := 24) rfl rfl ?_
      refine g_if_lt_f X180 d21_24 (pc' := 27) rfl (own_nn (by omega)) ?_
      refine g_aloadN X180 d21_27 (pc' := 28) rfl rfl rfl ?_
      refine g_getF X180 (host := "") (Or.inl (hw _ m69)) Via.refl F_bytes d21_28 (pc' := 31) rfl (fun T183 X183 => ?_)
      refine g_iload X183 d21_31 (pc' := 33) rfl rfl ?_
      refine g_aaload X183 (i := g) (v := (.ref (bA g))) A_ab rfl (own_small (by omega)) ((own_lv_at _ (by omega)).trans (congrArg some (hB g hg).1)) d21_33 (pc' := 34) rfl ?_
      refine g_aloadN X183 d21_34 (pc' := 35) rfl rfl rfl ?_
      refine g_iloadN X183 d21_35 (pc' := 36) rfl rfl ?_
      refine g_iloadN X183 d21_36 (pc' := 37) rfl rfl ?_
      refine g_callS X183 (y := (⟨"com/example/indexloom/indexloom/Texts", "equal", "([B[BII)Z"⟩ : MethodName)) [(.ref (bA g)), (.ref q), (.int (Int32.ofNat x)), (.int (Int32.ofNat y))] (hw _ m144) (hw _ m145) (hw _ m59) (hw _ m146) (hw _ m59) (rm26 l Z a0 hw (bA g) q x y h0 n0 X183.old (B g) (hB g hg).2.1 (hB g hg).2.2.1 ws A_q hxy hy hw4) (by decide) (by decide) (by decide) (by decide) (by decide) rfl pd_18 rfl (rest := []) rfl (W := 0) rfl d21_37 (pc' := 40) rfl ?_
      rintro _ T184 _ _ Y184 ⟨z184, rfl, r184, rfl, rfl⟩
      have X184 := Y184 X183.old (Fr.nil _)
      show Go p e below _ (State.setTop _ (mkF m 40 #[.val (.ref a), .val (.ref q), .val (.int (Int32.ofNat x)), .val (.int (Int32.ofNat y)), .val (.int (Int32.ofNat g)), .unset] [(.int z184)]))
      refine g_if_eq X184 d21_40 (pt := 52) (by decide) (pc' := 43) rfl (fun hc40 => ?_) (fun hc40 => ?_)
      · refine g_aloadN X184 d21_52 (pc' := 53) rfl rfl rfl ?_
        refine g_aloadN X184 d21_53 (pc' := 54) rfl rfl rfl ?_
        refine g_iloadN X184 d21_54 (pc' := 55) rfl rfl ?_
        refine g_iloadN X184 d21_55 (pc' := 56) rfl rfl ?_
        refine g_callP X184 (y := (⟨"com/example/indexloom/indexloom/Texts", "lookUp", "([BII)I"⟩ : MethodName)) (a := a) [(.ref q), (.int (Int32.ofNat x)), (.int (Int32.ofNat y))] (hw _ m127) (hw _ m128) (hw _ m129) (hw _ m58) E_a (hw _ m130) (hw _ m59) (rm22 l Z a0 hw a q x y h0 n0 X184.old k B t hs fo la0 H hk ps hS ws A_q hxy hy hw4) (by decide) (by decide) (by decide) (by decide) (by decide) rfl pd_3 rfl (rest := []) rfl (W := 0) rfl d21_56 (pc' := 59) rfl ?_
        rintro _ T185 _ _ Y185 ⟨z185, rfl, r185, rfl, rfl⟩
        have X185 := Y185 X184.old (Fr.nil _)
        show Go p e below _ (State.setTop _ (mkF m 59 #[.val (.ref a), .val (.ref q), .val (.int (Int32.ofNat x)), .val (.int (Int32.ofNat y)), .val (.int (Int32.ofNat g)), .unset] [(.int z185)]))
        refine g_istore X185 d21_59 (pc' := 61) rfl (L' := #[.val (.ref a), .val (.ref q), .val (.int (Int32.ofNat x)), .val (.int (Int32.ofNat y)), .val (.int (Int32.ofNat g)), .val (.int z185)]) rfl ?_
        rcases r185 with ⟨i, hi, eB, ez⟩ | ⟨hno, ez⟩ <;> subst ez
        · refine g_iload X185 d21_61 (pc' := 63) rfl rfl ?_
          refine g_if_lt_f X185 d21_63 (pc' := 66) rfl (own_nn (by omega)) ?_
          refine g_aloadN X185 d21_66 (pc' := 67) rfl rfl rfl ?_
          refine g_iload X185 d21_67 (pc' := 69) rfl rfl ?_
          refine g_callP X185 (y := (⟨"com/example/indexloom/indexloom/Texts", "follow", "(I)V"⟩ : MethodName)) (a := a) [(.int (Int32.ofNat i))] (hw _ m140) (hw _ m141) (hw _ m142) (hw _ m58) E_a (hw _ m143) (hw _ m59) (rm25 l Z a0 hw a i h0 n0 X185.old k B t hs fo la0 H hk hi) (by decide) (by decide) (by decide) (by decide) (by decide) rfl pd_19 rfl (rest := []) rfl (W := 0) rfl d21_69 (pc' := 72) rfl ?_
          rintro _ T186 h186 L186 Y186 ⟨fo186, rfl, N186, z186, K186, H186⟩
          have X186 := Y186 z186 N186
          show Go p e below _ (State.setTop _ (mkF m 72 #[.val (.ref a), .val (.ref q), .val (.int (Int32.ofNat x)), .val (.int (Int32.ofNat y)), .val (.int (Int32.ofNat g)), .val (.int (Int32.ofNat i))] []))
          refine g_iload X186 d21_72 (pc' := 74) rfl rfl ?_
          exact g_retI X186 rfl d21_74 (by decide) (by decide) ⟨_, _, _, rfl, X186.fr, X186.old, K186, H186, Or.inl ⟨i, hi, eB, rfl⟩⟩
        · refine g_iload X185 d21_61 (pc' := 63) rfl rfl ?_
          refine g_if_lt_t X185 d21_63 (pt := 72) (by decide) own_m1 ?_
          refine g_iload X185 d21_72 (pc' := 74) rfl rfl ?_
          exact g_retI X185 rfl d21_74 (by decide) (by decide) ⟨_, _, _, rfl, X185.fr, X185.old, KP.refl _ _, H, Or.inr ⟨hno, rfl⟩⟩
      · refine g_aloadN X184 d21_43 (pc' := 44) rfl rfl rfl ?_
        refine g_iload X184 d21_44 (pc' := 46) rfl rfl ?_
        refine g_putF X184 (host := "") (Or.inl (hw _ m79)) Via.refl F_last E_a (Or.inl (hw _ m80)) (hw _ m58) (ty := .int) (by decide) rfl rfl g_a d21_46 (pc' := 49) rfl (fun T187 h187 X187 W187 => ?_)
        have F187 := F_last.same W187
        refine g_iload X187 d21_49 (pc' := 51) rfl rfl ?_
        have k188 := (Keep.refl h0 [a, as, ab, ah, at_, af]).wr W187 (Or.inl (by simp))
        have f189 := (E_a.wr W187)
        have f190 := (F_slots.other W187 (Or.inr (slot_ne (Or.inl (hw _ m66)) (Or.inl (hw _ m80)) (by decide) (t := (.array .int)) (t' := .int) (by decide) (by decide))))
        have f191 := (F_bytes.other W187 (Or.inr (slot_ne (Or.inl (hw _ m70)) (Or.inl (hw _ m80)) (by decide) (t := (.array (.array .byte))) (t' := .int) (by decide) (by decide))))
        have f192 := (F_hashes.other W187 (Or.inr (slot_ne (Or.inl (hw _ m72)) (Or.inl (hw _ m80)) (by decide) (t := (.array .int)) (t' := .int) (by decide) (by decide))))
        have f193 := (F_texts.other W187 (Or.inr (slot_ne (Or.inl (hw _ m76)) (Or.inl (hw _ m80)) (by decide) (t := (.array (.object "java/lang/String"))) (t' := .int) (by decide) (by decide))))
        have f194 := (F_following.other W187 (Or.inr (slot_ne (Or.inl (hw _ m78)) (Or.inl (hw _ m80)) (by decide) (t := (.array .int)) (t' := .int) (by decide) (by decide))))
        have f195 := (F_size.other W187 (Or.inr (slot_ne (Or.inl (hw _ m135)) (Or.inl (hw _ m80)) (by decide) (t := .int) (t' := .int) (by decide) (by decide))))
        have f196 := (A_as.other W187 (Ne.symm n_a_as))
        have f197 := (A_ah.other W187 (Ne.symm n_a_ah))
        have f198 := (A_af.other W187 (Ne.symm n_a_af))
        have f199 := (A_ab.other W187 (Ne.symm n_a_ab))
        have f200 := (A_at_.other W187 (Ne.symm n_a_at_))
        have f201 := (E_ab.wr W187)
        have f202 := (E_at.wr W187)
        exact g_retI X187 rfl d21_51 (by decide) (by decide) ⟨_, _, _, rfl, X187.fr, X187.old, (own_KP k188 (hw _ m58) (hw _ m9) E_a A_as A_ab A_ah A_at_ A_af), ⟨as, ab, ah, at_, af, _, _, bA, f189, f190, f191, f192, f193, f194, F187, f195, f196, f197, f198, f199, f200, htx, f201, f202, O_b, O_t, g_a, g_as, g_ab, g_ah, g_at_, g_af, n_a_as, n_a_ab, n_a_ah, n_a_at_, n_a_af, n_as_ab, n_as_ah, n_as_at_, n_as_af, n_ab_ah, n_ab_at_, n_ab_af, n_ah_at_, n_ah_af, n_at__af, (fun i hi => ⟨(hB i hi).1, ((hB i hi).2.1.other W187 (hBn i hi).1), (hB i hi).2.2⟩), hfo, (Or.inr ⟨g, hg, rfl⟩)⟩, Or.inl ⟨g, hg, r184.elim (fun z => z.2) (fun z => absurd z.1 hc40), rfl⟩⟩

theorem d24_0 : decode prog_100_method_8_code 0 = .ok (.aload_n 0, 1) := by decide +kernel
theorem d24_1 : decode prog_100_method_8_code 1 = .ok (.getfield 9, 3) := by decide +kernel
theorem d24_4 : decode prog_100_method_8_code 4 = .ok (.arraylength, 1) := by decide +kernel
theorem d24_5 : decode prog_100_method_8_code 5 = .ok (.iconst 1, 1) := by decide +kernel
theorem d24_6 : decode prog_100_method_8_code 6 = .ok (.isub, 1) := by decide +kernel
theorem d24_7 : decode prog_100_method_8_code 7 = .ok (.istore_n 2, 1) := by decide +kernel
theorem d24_8 : decode prog_100_method_8_code 8 = .ok (.iload_n 1, 1) := by decide +kernel
theorem d24_9 : decode prog_100_method_8_code 9 = .ok (.iload_n 2, 1) := by decide +kernel
theorem d24_10 : decode prog_100_method_8_code 10 = .ok (.iand, 1) := by decide +kernel
theorem d24_11 : decode prog_100_method_8_code 11 = .ok (.istore_n 3, 1) := by decide +kernel
theorem d24_12 : decode prog_100_method_8_code 12 = .ok (.aload_n 0, 1) := by decide +kernel
theorem d24_13 : decode prog_100_method_8_code 13 = .ok (.getfield 9, 3) := by decide +kernel
theorem d24_16 : decode prog_100_method_8_code 16 = .ok (.iload_n 3, 1) := by decide +kernel
theorem d24_17 : decode prog_100_method_8_code 17 = .ok (.iaload, 1) := by decide +kernel
theorem d24_18 : decode prog_100_method_8_code 18 = .ok (.ifCond .eq 12, 3) := by decide +kernel
theorem d24_21 : decode prog_100_method_8_code 21 = .ok (.iload_n 3, 1) := by decide +kernel
theorem d24_22 : decode prog_100_method_8_code 22 = .ok (.iconst 1, 1) := by decide +kernel
theorem d24_23 : decode prog_100_method_8_code 23 = .ok (.iadd, 1) := by decide +kernel
theorem d24_24 : decode prog_100_method_8_code 24 = .ok (.iload_n 2, 1) := by decide +kernel
theorem d24_25 : decode prog_100_method_8_code 25 = .ok (.iand, 1) := by decide +kernel
theorem d24_26 : decode prog_100_method_8_code 26 = .ok (.istore_n 3, 1) := by decide +kernel
theorem d24_27 : decode prog_100_method_8_code 27 = .ok (.goto (-15), 3) := by decide +kernel
theorem d24_30 : decode prog_100_method_8_code 30 = .ok (.iload_n 3, 1) := by decide +kernel
theorem d24_31 : decode prog_100_method_8_code 31 = .ok (.ireturn, 1) := by decide +kernel
theorem ef_24 (m : MethodId) (a : Addr) (g : Int32) : entryFrame m #[(.ref a), (.int g)] 4 = mkF m 0 #[.val (.ref a), .val (.int g), .unset, .unset] [] := by first | (simp [entryFrame, mkF, argsToLocals, Value.category]; done) | rfl
def R24 : Room := ({ frames := 0, cells := 0, slots := 0, locals := 0 } : Room)
set_option maxRecDepth 65536 in
set_option maxHeartbeats 40000000 in
theorem rm24 (l : Launch) (Z : State) (a0 : Array Value) (hw : ∀ d ∈ tables_1, d.before a0 Z = true) (a : Addr) (g : Int32) (h0 : Heap) (n0 : Nat) (hO : Old Z n0 h0) (k : Nat) (B : Nat → List Int32) (t hs fo : Nat → Int32) (la : Int32) (H : TXP Z n0 h0 a k B t hs fo la) (kk : Nat) (hk : kk ≤ 4) (ps : List Nat) (hps1 : ∀ j, j < 64 → t j ≠ 0 → j ∈ ps) (hps : ps.length ≤ kk) :
    Con l Z (⟨"com/example/indexloom/indexloom/Texts", "free", "(I)I"⟩ : MethodName) prog_100_method_8_code 4 (some .int) [] R24 R24.cells R24.slots #[(.ref a), (.int g)] h0 (fun r h L => ∃ d : Nat, r = some (.int (Int32.ofNat ((ix g + d) % 64))) ∧ (t ((ix g + d) % 64) = 0 ∧ ∀ e, e < d → t ((ix g + e) % 64) ≠ 0) ∧ h0 = h ∧ L = []) := by
  refine Con.intro (n0 := n0) (plainFor_of_name pn_6) (fun m => ef_24 m a g) hO ?_
  intro p e s m below meth cc T hs0 X0
  obtain ⟨as, ab, ah, at_, af, bd, tx, bA, E_a, F_slots, F_bytes, F_hashes, F_texts, F_following, F_last, F_size, A_as, A_ah, A_af, A_ab, A_at_, htx, E_ab, E_at, O_b, O_t, g_a, g_as, g_ab, g_ah, g_at_, g_af, n_a_as, n_a_ab, n_a_ah, n_a_at_, n_a_af, n_as_ab, n_as_ah, n_as_at_, n_as_af, n_ab_ah, n_ab_at_, n_ab_af, n_ah_at_, n_ah_af, n_at__af, hB, hfo, hla⟩ := id H
  have hBn : ∀ i, i < k → bA i ≠ a ∧ bA i ≠ as ∧ bA i ≠ ab ∧ bA i ≠ ah ∧ bA i ≠ at_ ∧ bA i ≠ af := fun i hi => ⟨own_neE (hB i hi).2.1 E_a (hw _ m58), own_neT (hB i hi).2.1 A_as (by decide), own_neT (hB i hi).2.1 A_ab (by decide), own_neT (hB i hi).2.1 A_ah (by decide), own_neT (hB i hi).2.1 A_at_ (by decide), own_neT (hB i hi).2.1 A_af (by decide)⟩
  have loop : ∀ (r d : Nat) (T : State) (locs : List Loc), (ix g + (d + r)) % 64 ∉ ps → locs = [] → (∀ e, e < d → t ((ix g + e) % 64) ≠ 0) → St Z n0 p l e R24 s m #[(.ref a), (.int g)] below meth cc "com/example/indexloom/indexloom/Texts" "free" prog_100_method_8_code 4 (some .int) T locs 0 0 h0 → Go p e below (Kq s R24.cells R24.slots (fun r h L => ∃ d : Nat, r = some (.int (Int32.ofNat ((ix g + d) % 64))) ∧ (t ((ix g + d) % 64) = 0 ∧ ∀ e, e < d → t ((ix g + e) % 64) ≠ 0) ∧ h0 = h ∧ L = [])) (T.setTop (mkF m 12 #[.val (.ref a), .val (.int g), .val (.int (63 : Int32)), .val (.int (Int32.ofNat ((ix g + d) % 64)))] [])) := by
    intro r
    induction r with
    | zero =>
      rintro d T _ hm rfl hp X
      have hq : ((ix g + d) % 64) < 64 := Nat.mod_lt _ (by omega)
      refine g_aloadN X d24_12 (pc' := 13) rfl rfl rfl ?_
      refine g_getF X (host := "") (Or.inl (hw _ m65)) Via.refl F_slots d24_13 (pc' := 16) rfl (fun T203 X203 => ?_)
      refine g_iloadN X203 d24_16 (pc' := 17) rfl rfl ?_
      refine g_iaload X203 (i := ((ix g + d) % 64)) (v := (.int (t ((ix g + d) % 64)))) A_as (own_small (by omega)) (own_li_at _ hq) d24_17 (pc' := 18) rfl ?_
      have hc18 : t ((ix g + d) % 64) = 0 := own_tz hps1 hq hm
      refine g_if_eq_t X203 d24_18 (pt := 30) (by decide) hc18 ?_
      refine g_iloadN X203 d24_30 (pc' := 31) rfl rfl ?_
      exact g_retI X203 rfl d24_31 (by decide) (by decide) ⟨d, rfl, ⟨hc18, hp⟩, rfl, rfl⟩
    | succ r ih =>
      rintro d T _ hm rfl hp X
      have hq : ((ix g + d) % 64) < 64 := Nat.mod_lt _ (by omega)
      refine g_aloadN X d24_12 (pc' := 13) rfl rfl rfl ?_
      refine g_getF X (host := "") (Or.inl (hw _ m65)) Via.refl F_slots d24_13 (pc' := 16) rfl (fun T204 X204 => ?_)
      refine g_iloadN X204 d24_16 (pc' := 17) rfl rfl ?_
      refine g_iaload X204 (i := ((ix g + d) % 64)) (v := (.int (t ((ix g + d) % 64)))) A_as (own_small (by omega)) (own_li_at _ hq) d24_17 (pc' := 18) rfl ?_
      refine g_if_eq X204 d24_18 (pt := 30) (by decide) (pc' := 21) rfl (fun hc18 => ?_) (fun hc18 => ?_)
      · refine g_iloadN X204 d24_30 (pc' := 31) rfl rfl ?_
        exact g_retI X204 rfl d24_31 (by decide) (by decide) ⟨d, rfl, ⟨hc18, hp⟩, rfl, rfl⟩
      · refine g_iloadN X204 d24_21 (pc' := 22) rfl rfl ?_
        refine g_iconst X204 d24_22 (pc' := 23) rfl (v := (1 : Int32)) rfl ?_
        refine g_iadd X204 d24_23 (pc' := 24) rfl ?_
        refine g_iloadN X204 d24_24 (pc' := 25) rfl rfl ?_
        refine g_iand X204 d24_25 (pc' := 26) rfl ?_
        rw [own_next hq]
        refine g_istoreN X204 d24_26 (pc' := 27) rfl (L' := #[.val (.ref a), .val (.int g), .val (.int (63 : Int32)), .val (.int (Int32.ofNat ((((ix g + d) % 64) + 1) % 64)))]) rfl ?_
        refine g_goto X204 d24_27 (pt := 12) (by decide) ?_
        rw [own_pn]
        exact ih (d + 1) _ _ (by rw [show d + 1 + r = d + (r + 1) by omega]; exact hm) rfl (fun e he => by by_cases z : e = d; rw [z]; exact hc18; exact hp e (by omega)) X204
  refine g_aloadN X0 d24_0 (pc' := 1) rfl rfl rfl ?_
  refine g_getF X0 (host := "") (Or.inl (hw _ m65)) Via.refl F_slots d24_1 (pc' := 4) rfl (fun T205 X205 => ?_)
  refine g_arraylength X205 (n := (64 : Int32)) A_as (by rw [own_li_len] <;> rfl) d24_4 (pc' := 5) rfl ?_
  refine g_iconst X205 d24_5 (pc' := 6) rfl (v := (1 : Int32)) rfl ?_
  refine g_isub X205 d24_6 (pc' := 7) rfl ?_
  rw [show ((64 : Int32) - (1 : Int32)) = (63 : Int32) from rfl]
  refine g_istoreN X205 d24_7 (pc' := 8) rfl (L' := #[.val (.ref a), .val (.int g), .val (.int (63 : Int32)), .unset]) rfl ?_
  refine g_iloadN X205 d24_8 (pc' := 9) rfl rfl ?_
  refine g_iloadN X205 d24_9 (pc' := 10) rfl rfl ?_
  refine g_iand X205 d24_10 (pc' := 11) rfl ?_
  rw [(own_ix _).1, show Int32.ofNat (ix g) = Int32.ofNat ((ix g + 0) % 64) from by rw [Nat.add_zero, Nat.mod_eq_of_lt (own_ix _).2]]
  refine g_istoreN X205 d24_11 (pc' := 12) rfl (L' := #[.val (.ref a), .val (.int g), .val (.int (63 : Int32)), .val (.int (Int32.ofNat ((ix g + 0) % 64)))]) rfl ?_
  obtain ⟨r, hr⟩ := own_free (s := ix g) hps hk
  exact loop r 0 _ _ (by rw [Nat.zero_add]; exact hr) rfl (fun e he => absurd he (Nat.not_lt_zero e)) X205

theorem own_repi (n : Nat) : List.replicate n (Value.int (0 : Int32)) = own_li n (fun _ => (0 : Int32)) := by unfold own_li; rw [List.map_const', List.length_range]
theorem own_repv (n : Nat) : List.replicate n Value.null = own_lv n (fun _ => Value.null) := by unfold own_lv; rw [List.map_const', List.length_range]
theorem d13_0 : decode prog_100_method_1_code 0 = .ok (.aload_n 0, 1) := by decide +kernel
theorem d13_1 : decode prog_100_method_1_code 1 = .ok (.invokespecial 1, 3) := by decide +kernel
theorem d13_4 : decode prog_100_method_1_code 4 = .ok (.aload_n 0, 1) := by decide +kernel
theorem d13_5 : decode prog_100_method_1_code 5 = .ok (.bipush 64, 2) := by decide +kernel
theorem d13_7 : decode prog_100_method_1_code 7 = .ok (.newarray .int, 2) := by decide +kernel
theorem d13_9 : decode prog_100_method_1_code 9 = .ok (.putfield 9, 3) := by decide +kernel
theorem d13_12 : decode prog_100_method_1_code 12 = .ok (.aload_n 0, 1) := by decide +kernel
theorem d13_13 : decode prog_100_method_1_code 13 = .ok (.bipush 32, 2) := by decide +kernel
theorem d13_15 : decode prog_100_method_1_code 15 = .ok (.anewarray 13, 3) := by decide +kernel
theorem d13_18 : decode prog_100_method_1_code 18 = .ok (.putfield 15, 3) := by decide +kernel
theorem d13_21 : decode prog_100_method_1_code 21 = .ok (.aload_n 0, 1) := by decide +kernel
theorem d13_22 : decode prog_100_method_1_code 22 = .ok (.bipush 32, 2) := by decide +kernel
theorem d13_24 : decode prog_100_method_1_code 24 = .ok (.newarray .int, 2) := by decide +kernel
theorem d13_26 : decode prog_100_method_1_code 26 = .ok (.putfield 19, 3) := by decide +kernel
theorem d13_29 : decode prog_100_method_1_code 29 = .ok (.aload_n 0, 1) := by decide +kernel
theorem d13_30 : decode prog_100_method_1_code 30 = .ok (.bipush 32, 2) := by decide +kernel
theorem d13_32 : decode prog_100_method_1_code 32 = .ok (.anewarray 22, 3) := by decide +kernel
theorem d13_35 : decode prog_100_method_1_code 35 = .ok (.putfield 24, 3) := by decide +kernel
theorem d13_38 : decode prog_100_method_1_code 38 = .ok (.aload_n 0, 1) := by decide +kernel
theorem d13_39 : decode prog_100_method_1_code 39 = .ok (.bipush 32, 2) := by decide +kernel
theorem d13_41 : decode prog_100_method_1_code 41 = .ok (.newarray .int, 2) := by decide +kernel
theorem d13_43 : decode prog_100_method_1_code 43 = .ok (.putfield 28, 3) := by decide +kernel
theorem d13_46 : decode prog_100_method_1_code 46 = .ok (.aload_n 0, 1) := by decide +kernel
theorem d13_47 : decode prog_100_method_1_code 47 = .ok (.iconst (-1), 1) := by decide +kernel
theorem d13_48 : decode prog_100_method_1_code 48 = .ok (.putfield 31, 3) := by decide +kernel
theorem d13_51 : decode prog_100_method_1_code 51 = .ok (.return_, 1) := by decide +kernel
theorem ef_13 (m : MethodId) (a : Addr) : entryFrame m #[(.ref a)] 1 = mkF m 0 #[.val (.ref a)] [] := by first | (simp [entryFrame, mkF, argsToLocals, Value.category]; done) | rfl
def R13 : Room := ({ frames := 1, cells := 5, slots := 192, locals := 12 } : Room)
set_option maxRecDepth 65536 in
set_option maxHeartbeats 40000000 in
theorem rm13 (l : Launch) (Z : State) (a0 : Array Value) (hw : ∀ d ∈ tables_1, d.before a0 Z = true) (a : Addr) (h0 : Heap) (n0 : Nat) (hO : Old Z n0 h0) (E_a : Exa Z h0 a "com/example/indexloom/indexloom/Texts") (g_a : n0 ≤ a) (F_slots : Fld Z h0 a "com/example/indexloom/indexloom/Texts" "slots" "[I" .null) (F_bytes : Fld Z h0 a "com/example/indexloom/indexloom/Texts" "bytes" "[[B" .null) (F_hashes : Fld Z h0 a "com/example/indexloom/indexloom/Texts" "hashes" "[I" .null) (F_texts : Fld Z h0 a "com/example/indexloom/indexloom/Texts" "texts" "[Ljava/lang/String;" .null) (F_following : Fld Z h0 a "com/example/indexloom/indexloom/Texts" "following" "[I" .null) (F_last : Fld Z h0 a "com/example/indexloom/indexloom/Texts" "last" "I" (.int (0 : Int32))) (F_size : Fld Z h0 a "com/example/indexloom/indexloom/Texts" "size" "I" (.int (0 : Int32))) :
    Con l Z (⟨"com/example/indexloom/indexloom/Texts", "<init>", "()V"⟩ : MethodName) prog_100_method_1_code 1 none [] R13 R13.cells R13.slots #[(.ref a)] h0 (fun r h L => r = none ∧ Fr n0 L ∧ Old Z n0 h ∧ Keep h0 h [a] ∧ TXP Z n0 h a 0 (fun _ => []) (fun _ => (0 : Int32)) (fun _ => (0 : Int32)) (fun _ => (0 : Int32)) (-1 : Int32)) := by
  refine Con.intro (n0 := n0) (plainFor_of_name pn_6) (fun m => ef_13 m a) hO ?_
  intro p e s m below meth cc T hs0 X0
  refine g_aloadN X0 d13_0 (pc' := 1) rfl rfl rfl ?_
  refine g_initO X0 (hw _ m63) (hw _ m20) (hw _ m21) rfl d13_1 (pc' := 4) rfl (by decide) (W := 0) rfl (by decide) (fun T206 X206 => ?_)
  refine g_aloadN X206 d13_4 (pc' := 5) rfl rfl rfl ?_
  refine g_bipush X206 d13_5 (pc' := 7) rfl (v := (64 : Int32)) rfl ?_
  refine g_newarray X206 (aty := .int) (cap := 64) (vs := (own_li 64 (fun _ => (0 : Int32)))) (hw _ m64) (by decide) (by decide) (own_repi 64) (by decide) d13_7 (pc' := 9) rfl (by decide) (by decide) (fun T207 h207 b207 X207 g207 E207 A207 l207 => ?_)
  have ne208 : a ≠ b207 := ne_new E_a.lt g207
  have f209 := (F_slots.ext E207)
  have f210 := (E_a.ext E207)
  refine g_putF X207 (host := "") (Or.inl (hw _ m65)) Via.refl f209 f210 (Or.inl (hw _ m66)) (hw _ m58) (ty := (.array .int)) (by decide) rfl rfl g_a d13_9 (pc' := 12) rfl (fun T211 h211 X211 W211 => ?_)
  have F211 := f209.same W211
  refine g_aloadN X211 d13_12 (pc' := 13) rfl rfl rfl ?_
  refine g_bipush X211 d13_13 (pc' := 15) rfl (v := (32 : Int32)) rfl ?_
  refine g_anewA X211 (cap := 32) (vs := (List.replicate 32 Value.null)) (ad := "[[B") (by decide) (by decide) (hw _ m67) (hw _ m68) (by decide) (by decide) rfl (by decide) d13_15 (pc' := 18) rfl (by decide) (by decide) (fun T212 h212 b212 X212 g212 E212 A212 EA212 O212 l212 => ?_)
  have f214 := (f210.wr W211)
  have ne213 : a ≠ b212 := ne_new f214.lt g212
  have f216 := (A207.other W211 (Ne.symm ne208))
  have ne215 : b207 ≠ b212 := ne_new f216.lt g212
  have f217 := (((F_bytes.ext E207).other W211 (Or.inr (slot_ne (Or.inl (hw _ m70)) (Or.inl (hw _ m66)) (by decide) (t := (.array (.array .byte))) (t' := (.array .int)) (by decide) (by decide)))).ext E212)
  have f218 := (f214.ext E212)
  refine g_putF X212 (host := "") (Or.inl (hw _ m69)) Via.refl f217 f218 (Or.inl (hw _ m70)) (hw _ m58) (ty := (.array (.array .byte))) (by decide) rfl rfl g_a d13_18 (pc' := 21) rfl (fun T219 h219 X219 W219 => ?_)
  have F219 := f217.same W219
  refine g_aloadN X219 d13_21 (pc' := 22) rfl rfl rfl ?_
  refine g_bipush X219 d13_22 (pc' := 24) rfl (v := (32 : Int32)) rfl ?_
  refine g_newarray X219 (aty := .int) (cap := 32) (vs := (own_li 32 (fun _ => (0 : Int32)))) (hw _ m64) (by decide) (by decide) (own_repi 32) (by decide) d13_24 (pc' := 26) rfl (by decide) (by decide) (fun T220 h220 b220 X220 g220 E220 A220 l220 => ?_)
  have f222 := (f218.wr W219)
  have ne221 : a ≠ b220 := ne_new f222.lt g220
  have f224 := ((f216.ext E212).other W219 (Ne.symm ne208))
  have ne223 : b207 ≠ b220 := ne_new f224.lt g220
  have f226 := (A212.other W219 (Ne.symm ne213))
  have ne225 : b212 ≠ b220 := ne_new f226.lt g220
  have f227 := (((((F_hashes.ext E207).other W211 (Or.inr (slot_ne (Or.inl (hw _ m72)) (Or.inl (hw _ m66)) (by decide) (t := (.array .int)) (t' := (.array .int)) (by decide) (by decide)))).ext E212).other W219 (Or.inr (slot_ne (Or.inl (hw _ m72)) (Or.inl (hw _ m70)) (by decide) (t := (.array .int)) (t' := (.array (.array .byte))) (by decide) (by decide)))).ext E220)
  have f228 := (f222.ext E220)
  refine g_putF X220 (host := "") (Or.inl (hw _ m71)) Via.refl f227 f228 (Or.inl (hw _ m72)) (hw _ m58) (ty := (.array .int)) (by decide) rfl rfl g_a d13_26 (pc' := 29) rfl (fun T229 h229 X229 W229 => ?_)
  have F229 := f227.same W229
  refine g_aloadN X229 d13_29 (pc' := 30) rfl rfl rfl ?_
  refine g_bipush X229 d13_30 (pc' := 32) rfl (v := (32 : Int32)) rfl ?_
  refine g_anewR X229 (cap := 32) (vs := (List.replicate 32 Value.null)) (ad := "[Ljava/lang/String;") (by decide) (hw _ m73) (hw _ m74) (by decide) (by decide) rfl (by decide) d13_32 (pc' := 35) rfl (by decide) (by decide) (fun T230 h230 b230 X230 g230 E230 A230 EA230 O230 l230 => ?_)
  have f232 := (f228.wr W229)
  have ne231 : a ≠ b230 := ne_new f232.lt g230
  have f234 := ((f224.ext E220).other W229 (Ne.symm ne208))
  have ne233 : b207 ≠ b230 := ne_new f234.lt g230
  have f236 := ((f226.ext E220).other W229 (Ne.symm ne213))
  have ne235 : b212 ≠ b230 := ne_new f236.lt g230
  have f238 := (A220.other W229 (Ne.symm ne221))
  have ne237 : b220 ≠ b230 := ne_new f238.lt g230
  have f239 := (((((((F_texts.ext E207).other W211 (Or.inr (slot_ne (Or.inl (hw _ m76)) (Or.inl (hw _ m66)) (by decide) (t := (.array (.object "java/lang/String"))) (t' := (.array .int)) (by decide) (by decide)))).ext E212).other W219 (Or.inr (slot_ne (Or.inl (hw _ m76)) (Or.inl (hw _ m70)) (by decide) (t := (.array (.object "java/lang/String"))) (t' := (.array (.array .byte))) (by decide) (by decide)))).ext E220).other W229 (Or.inr (slot_ne (Or.inl (hw _ m76)) (Or.inl (hw _ m72)) (by decide) (t := (.array (.object "java/lang/String"))) (t' := (.array .int)) (by decide) (by decide)))).ext E230)
  have f240 := (f232.ext E230)
  refine g_putF X230 (host := "") (Or.inl (hw _ m75)) Via.refl f239 f240 (Or.inl (hw _ m76)) (hw _ m58) (ty := (.array (.object "java/lang/String"))) (by decide) rfl rfl g_a d13_35 (pc' := 38) rfl (fun T241 h241 X241 W241 => ?_)
  have F241 := f239.same W241
  refine g_aloadN X241 d13_38 (pc' := 39) rfl rfl rfl ?_
  refine g_bipush X241 d13_39 (pc' := 41) rfl (v := (32 : Int32)) rfl ?_
  refine g_newarray X241 (aty := .int) (cap := 32) (vs := (own_li 32 (fun _ => (0 : Int32)))) (hw _ m64) (by decide) (by decide) (own_repi 32) (by decide) d13_41 (pc' := 43) rfl (by decide) (by decide) (fun T242 h242 b242 X242 g242 E242 A242 l242 => ?_)
  have f244 := (f240.wr W241)
  have ne243 : a ≠ b242 := ne_new f244.lt g242
  have f246 := ((f234.ext E230).other W241 (Ne.symm ne208))
  have ne245 : b207 ≠ b242 := ne_new f246.lt g242
  have f248 := ((f236.ext E230).other W241 (Ne.symm ne213))
  have ne247 : b212 ≠ b242 := ne_new f248.lt g242
  have f250 := ((f238.ext E230).other W241 (Ne.symm ne221))
  have ne249 : b220 ≠ b242 := ne_new f250.lt g242
  have f252 := (A230.other W241 (Ne.symm ne231))
  have ne251 : b230 ≠ b242 := ne_new f252.lt g242
  have f253 := (((((((((F_following.ext E207).other W211 (Or.inr (slot_ne (Or.inl (hw _ m78)) (Or.inl (hw _ m66)) (by decide) (t := (.array .int)) (t' := (.array .int)) (by decide) (by decide)))).ext E212).other W219 (Or.inr (slot_ne (Or.inl (hw _ m78)) (Or.inl (hw _ m70)) (by decide) (t := (.array .int)) (t' := (.array (.array .byte))) (by decide) (by decide)))).ext E220).other W229 (Or.inr (slot_ne (Or.inl (hw _ m78)) (Or.inl (hw _ m72)) (by decide) (t := (.array .int)) (t' := (.array .int)) (by decide) (by decide)))).ext E230).other W241 (Or.inr (slot_ne (Or.inl (hw _ m78)) (Or.inl (hw _ m76)) (by decide) (t := (.array .int)) (t' := (.array (.object "java/lang/String"))) (by decide) (by decide)))).ext E242)
  have f254 := (f244.ext E242)
  refine g_putF X242 (host := "") (Or.inl (hw _ m77)) Via.refl f253 f254 (Or.inl (hw _ m78)) (hw _ m58) (ty := (.array .int)) (by decide) rfl rfl g_a d13_43 (pc' := 46) rfl (fun T255 h255 X255 W255 => ?_)
  have F255 := f253.same W255
  refine g_aloadN X255 d13_46 (pc' := 47) rfl rfl rfl ?_
  refine g_iconst X255 d13_47 (pc' := 48) rfl (v := (-1 : Int32)) rfl ?_
  have f256 := ((((((((((F_last.ext E207).other W211 (Or.inr (slot_ne (Or.inl (hw _ m80)) (Or.inl (hw _ m66)) (by decide) (t := .int) (t' := (.array .int)) (by decide) (by decide)))).ext E212).other W219 (Or.inr (slot_ne (Or.inl (hw _ m80)) (Or.inl (hw _ m70)) (by decide) (t := .int) (t' := (.array (.array .byte))) (by decide) (by decide)))).ext E220).other W229 (Or.inr (slot_ne (Or.inl (hw _ m80)) (Or.inl (hw _ m72)) (by decide) (t := .int) (t' := (.array .int)) (by decide) (by decide)))).ext E230).other W241 (Or.inr (slot_ne (Or.inl (hw _ m80)) (Or.inl (hw _ m76)) (by decide) (t := .int) (t' := (.array (.object "java/lang/String"))) (by decide) (by decide)))).ext E242).other W255 (Or.inr (slot_ne (Or.inl (hw _ m80)) (Or.inl (hw _ m78)) (by decide) (t := .int) (t' := (.array .int)) (by decide) (by decide))))
  have f257 := (f254.wr W255)
  refine g_putF X255 (host := "") (Or.inl (hw _ m79)) Via.refl f256 f257 (Or.inl (hw _ m80)) (hw _ m58) (ty := .int) (by decide) rfl rfl g_a d13_48 (pc' := 51) rfl (fun T258 h258 X258 W258 => ?_)
  have F258 := f256.same W258
  have k259 := (Keep.refl h0 [a]).ext E207
  have k260 := k259.wr W211 (Or.inl (by simp))
  have k261 := k260.ext E212
  have k262 := k261.wr W219 (Or.inl (by simp))
  have k263 := k262.ext E220
  have k264 := k263.wr W229 (Or.inl (by simp))
  have k265 := k264.ext E230
  have k266 := k265.wr W241 (Or.inl (by simp))
  have k267 := k266.ext E242
  have k268 := k267.wr W255 (Or.inl (by simp))
  have k269 := k268.wr W258 (Or.inl (by simp))
  have f270 := (((f246.ext E242).other W255 (Ne.symm ne208)).other W258 (Ne.symm ne208))
  have f271 := (((f250.ext E242).other W255 (Ne.symm ne221)).other W258 (Ne.symm ne221))
  have f272 := ((A242.other W255 (Ne.symm ne243)).other W258 (Ne.symm ne243))
  have f273 := (((f248.ext E242).other W255 (Ne.symm ne213)).other W258 (Ne.symm ne213))
  have f274 := (((f252.ext E242).other W255 (Ne.symm ne231)).other W258 (Ne.symm ne231))
  rw [own_repv] at f273
  have f275 := (f257.wr W258)
  have f276 := (((((((((F211.ext E212).other W219 (Or.inr (slot_ne (Or.inl (hw _ m66)) (Or.inl (hw _ m70)) (by decide) (t := (.array .int)) (t' := (.array (.array .byte))) (by decide) (by decide)))).ext E220).other W229 (Or.inr (slot_ne (Or.inl (hw _ m66)) (Or.inl (hw _ m72)) (by decide) (t := (.array .int)) (t' := (.array .int)) (by decide) (by decide)))).ext E230).other W241 (Or.inr (slot_ne (Or.inl (hw _ m66)) (Or.inl (hw _ m76)) (by decide) (t := (.array .int)) (t' := (.array (.object "java/lang/String"))) (by decide) (by decide)))).ext E242).other W255 (Or.inr (slot_ne (Or.inl (hw _ m66)) (Or.inl (hw _ m78)) (by decide) (t := (.array .int)) (t' := (.array .int)) (by decide) (by decide)))).other W258 (Or.inr (slot_ne (Or.inl (hw _ m66)) (Or.inl (hw _ m80)) (by decide) (t := (.array .int)) (t' := .int) (by decide) (by decide))))
  have f277 := (((((((F219.ext E220).other W229 (Or.inr (slot_ne (Or.inl (hw _ m70)) (Or.inl (hw _ m72)) (by decide) (t := (.array (.array .byte))) (t' := (.array .int)) (by decide) (by decide)))).ext E230).other W241 (Or.inr (slot_ne (Or.inl (hw _ m70)) (Or.inl (hw _ m76)) (by decide) (t := (.array (.array .byte))) (t' := (.array (.object "java/lang/String"))) (by decide) (by decide)))).ext E242).other W255 (Or.inr (slot_ne (Or.inl (hw _ m70)) (Or.inl (hw _ m78)) (by decide) (t := (.array (.array .byte))) (t' := (.array .int)) (by decide) (by decide)))).other W258 (Or.inr (slot_ne (Or.inl (hw _ m70)) (Or.inl (hw _ m80)) (by decide) (t := (.array (.array .byte))) (t' := .int) (by decide) (by decide))))
  have f278 := (((((F229.ext E230).other W241 (Or.inr (slot_ne (Or.inl (hw _ m72)) (Or.inl (hw _ m76)) (by decide) (t := (.array .int)) (t' := (.array (.object "java/lang/String"))) (by decide) (by decide)))).ext E242).other W255 (Or.inr (slot_ne (Or.inl (hw _ m72)) (Or.inl (hw _ m78)) (by decide) (t := (.array .int)) (t' := (.array .int)) (by decide) (by decide)))).other W258 (Or.inr (slot_ne (Or.inl (hw _ m72)) (Or.inl (hw _ m80)) (by decide) (t := (.array .int)) (t' := .int) (by decide) (by decide))))
  have f279 := (((F241.ext E242).other W255 (Or.inr (slot_ne (Or.inl (hw _ m76)) (Or.inl (hw _ m78)) (by decide) (t := (.array (.object "java/lang/String"))) (t' := (.array .int)) (by decide) (by decide)))).other W258 (Or.inr (slot_ne (Or.inl (hw _ m76)) (Or.inl (hw _ m80)) (by decide) (t := (.array (.object "java/lang/String"))) (t' := .int) (by decide) (by decide))))
  have f280 := (F255.other W258 (Or.inr (slot_ne (Or.inl (hw _ m78)) (Or.inl (hw _ m80)) (by decide) (t := (.array .int)) (t' := .int) (by decide) (by decide))))
  have f281 := (((((((((((F_size.ext E207).other W211 (Or.inr (slot_ne (Or.inl (hw _ m135)) (Or.inl (hw _ m66)) (by decide) (t := .int) (t' := (.array .int)) (by decide) (by decide)))).ext E212).other W219 (Or.inr (slot_ne (Or.inl (hw _ m135)) (Or.inl (hw _ m70)) (by decide) (t := .int) (t' := (.array (.array .byte))) (by decide) (by decide)))).ext E220).other W229 (Or.inr (slot_ne (Or.inl (hw _ m135)) (Or.inl (hw _ m72)) (by decide) (t := .int) (t' := (.array .int)) (by decide) (by decide)))).ext E230).other W241 (Or.inr (slot_ne (Or.inl (hw _ m135)) (Or.inl (hw _ m76)) (by decide) (t := .int) (t' := (.array (.object "java/lang/String"))) (by decide) (by decide)))).ext E242).other W255 (Or.inr (slot_ne (Or.inl (hw _ m135)) (Or.inl (hw _ m78)) (by decide) (t := .int) (t' := (.array .int)) (by decide) (by decide)))).other W258 (Or.inr (slot_ne (Or.inl (hw _ m135)) (Or.inl (hw _ m80)) (by decide) (t := .int) (t' := .int) (by decide) (by decide))))
  have f282 := ((((((((EA212.wr W219).ext E220).wr W229).ext E230).wr W241).ext E242).wr W255).wr W258)
  have f283 := ((((EA230.wr W241).ext E242).wr W255).wr W258)
  exact g_ret X258 rfl d13_51 (by decide) (by decide) ⟨rfl, X258.fr, X258.old, k269, b207, b212, b220, b230, b242, _, _, (fun _ => 0), f275, f276, f277, f278, f279, f280, F258, f281, f270, f271, f272, f273, f274, List.length_replicate, f282, f283, O212, O230, g_a, l207, l212, l220, l230, l242, ne208, ne213, ne221, ne231, ne243, ne215, ne223, ne233, ne245, ne225, ne235, ne247, ne237, ne249, ne251, (fun i hi => absurd hi (Nat.not_lt_zero i)), (fun i hi => absurd hi (Nat.not_lt_zero i)), (Or.inl rfl)⟩

theorem own_txk {Z : State} {n0 : Nat} {h h' : Heap} {a : Addr} {k : Nat} {B : Nat → List Int32} {t hs fo : Nat → Int32} {la : Int32} (K : Keep h h' []) (H : TXP Z n0 h a k B t hs fo la) : TXP Z n0 h' a k B t hs fo la := by
  obtain ⟨as, ab, ah, at_, af, bd, tx, bA, E_a, F_slots, F_bytes, F_hashes, F_texts, F_following, F_last, F_size, A_as, A_ah, A_af, A_ab, A_at_, htx, E_ab, E_at, O_b, O_t, g_a, g_as, g_ab, g_ah, g_at_, g_af, n_a_as, n_a_ab, n_a_ah, n_a_at_, n_a_af, n_as_ab, n_as_ah, n_as_at_, n_as_af, n_ab_ah, n_ab_at_, n_ab_af, n_ah_at_, n_ah_af, n_at__af, hB, hfo, hla⟩ := H
  exact ⟨as, ab, ah, at_, af, bd, tx, bA, E_a.keep K, F_slots.keep K nm0, F_bytes.keep K nm0, F_hashes.keep K nm0, F_texts.keep K nm0, F_following.keep K nm0, F_last.keep K nm0, F_size.keep K nm0, A_as.keep K nm0, A_ah.keep K nm0, A_af.keep K nm0, A_ab.keep K nm0, A_at_.keep K nm0, htx, E_ab.keep K, E_at.keep K, O_b, O_t, g_a, g_as, g_ab, g_ah, g_at_, g_af, n_a_as, n_a_ab, n_a_ah, n_a_at_, n_a_af, n_as_ab, n_as_ah, n_as_at_, n_as_af, n_ab_ah, n_ab_at_, n_ab_af, n_ah_at_, n_ah_af, n_at__af, (fun i hi => ⟨(hB i hi).1, (hB i hi).2.1.keep K nm0, (hB i hi).2.2⟩), hfo, hla⟩
theorem own_sl0 (ws : List Int32) : sl ws 0 ws.length = ws := by unfold sl; simp
theorem own_SIS {k : Nat} {B : Nat → List Int32} {t : Nat → Int32} {ps : List Nat} (hS : SI k B t ps) (hk : k < 4) {z : List Int32} {d : Nat} (h0 : t ((ix (HH z) + d) % 64) = 0) (hp : ∀ e, e < d → t ((ix (HH z) + e) % 64) ≠ 0) : SI (k + 1) (own_set B k z) (own_set t ((ix (HH z) + d) % 64) (Int32.ofNat (k + 1))) ((ix (HH z) + d) % 64 :: ps) := by
  obtain ⟨s1, s2, s3, s4⟩ := hS
  have hne : ¬ Int32.ofNat (k + 1) = 0 := fun z => by
    have z2 := congrArg Int32.toInt z; rw [own_small (by omega)] at z2; have : (0 : Int32).toInt = 0 := rfl
    omega
  generalize hq : (ix (HH z) + d) % 64 = q at *
  refine ⟨fun j hj g => ?_, fun j hj g => ?_, fun i hi => ?_, by simp; omega⟩
  · by_cases e : j = q
    · rw [e]; exact List.mem_cons_self
    · rw [own_set_ne _ _ e] at g; exact List.mem_cons_of_mem _ (s1 j hj g)
  · by_cases e : j = q
    · rw [e, own_set_at]; exact ⟨k, by omega, rfl⟩
    · rw [own_set_ne _ _ e] at g ⊢; obtain ⟨i, a, b⟩ := s2 j hj g; exact ⟨i, by omega, b⟩
  · by_cases e : i = k
    · rw [e, own_set_at]; refine ⟨d, by rw [hq, own_set_at], fun e' he' => ?_⟩
      by_cases g : (ix (HH z) + e') % 64 = q
      · rw [g, own_set_at]; exact hne
      · rw [own_set_ne _ _ g]; exact hp e' he'
    · rw [own_set_ne _ _ e]; obtain ⟨d', a1, a2⟩ := s3 i (by omega)
      refine ⟨d', ?_, fun e' he' => ?_⟩
      · by_cases g : (ix (HH (B i)) + d') % 64 = q
        · rw [g] at a1; rw [a1] at h0
          have z2 := congrArg Int32.toInt h0; rw [own_small (by omega)] at z2; have : (0 : Int32).toInt = 0 := rfl
          omega
        · rw [own_set_ne _ _ g]; exact a1
      · by_cases g : (ix (HH (B i)) + e') % 64 = q
        · rw [g, own_set_at]; exact hne
        · rw [own_set_ne _ _ g]; exact a2 e' he' 
theorem own_txS {Z : State} {n0 : Nat} {h : Heap} {a : Addr} {k : Nat} {B : Nat → List Int32} {t hs fo : Nat → Int32} {la : Int32} (H : TXP Z n0 h a k B t hs fo la) : Fld Z h a "com/example/indexloom/indexloom/Texts" "size" "I" (.int (Int32.ofNat k)) := by obtain ⟨_, _, _, _, _, _, _, _, _, _, _, _, _, _, _, F, -⟩ := H; exact F
theorem own_le64 {k : Nat} (hk : k ≤ 4) : ¬ (64 : Int32) < (2 : Int32) * Int32.ofNat (k + 1) := by
  rw [show (2 : Int32) = Int32.ofNat 2 from rfl, ← Int32.ofNat_mul, show (64 : Int32) = Int32.ofNat 64 from rfl, own_ltN (by omega) (by omega)]; omega
theorem own_ne32 {k : Nat} (hk : k ≤ 4) : ¬ Int32.ofNat k = (32 : Int32) := by rw [show (32 : Int32) = Int32.ofNat 32 from rfl, own_inj (by omega) (by omega)]; omega
theorem own_fo1 {k : Nat} {fo : Nat → Int32} (h : ∀ i, i < k → fo i = -1 ∨ ∃ j, j < k ∧ fo i = Int32.ofNat j) : ∀ i, i < k + 1 → own_set fo k (-1) i = -1 ∨ ∃ j, j < k + 1 ∧ own_set fo k (-1) i = Int32.ofNat j := by
  intro i hi
  by_cases q : i = k
  · rw [q, own_set_at]; exact Or.inl rfl
  · rw [own_set_ne _ _ q]; exact (h i (by omega)).imp id fun ⟨j, a, b⟩ => ⟨j, by omega, b⟩
theorem own_la1 {k : Nat} {la : Int32} (h : la = -1 ∨ ∃ j, j < k ∧ la = Int32.ofNat j) : la = -1 ∨ ∃ j, j < k + 1 ∧ la = Int32.ofNat j := h.imp id fun ⟨j, a, b⟩ => ⟨j, by omega, b⟩
theorem d14_0 : decode prog_100_method_7_code 0 = .ok (.aload_n 1, 1) := by decide +kernel
theorem d14_1 : decode prog_100_method_7_code 1 = .ok (.getstatic 53, 3) := by decide +kernel
theorem d14_4 : decode prog_100_method_7_code 4 = .ok (.invokevirtual 59, 3) := by decide +kernel
theorem d14_7 : decode prog_100_method_7_code 7 = .ok (.astore_n 2, 1) := by decide +kernel
theorem d14_8 : decode prog_100_method_7_code 8 = .ok (.aload_n 0, 1) := by decide +kernel
theorem d14_9 : decode prog_100_method_7_code 9 = .ok (.aload_n 2, 1) := by decide +kernel
theorem d14_10 : decode prog_100_method_7_code 10 = .ok (.iconst 0, 1) := by decide +kernel
theorem d14_11 : decode prog_100_method_7_code 11 = .ok (.aload_n 2, 1) := by decide +kernel
theorem d14_12 : decode prog_100_method_7_code 12 = .ok (.arraylength, 1) := by decide +kernel
theorem d14_13 : decode prog_100_method_7_code 13 = .ok (.invokevirtual 63, 3) := by decide +kernel
theorem d14_16 : decode prog_100_method_7_code 16 = .ok (.istore_n 3, 1) := by decide +kernel
theorem d14_17 : decode prog_100_method_7_code 17 = .ok (.iload_n 3, 1) := by decide +kernel
theorem d14_18 : decode prog_100_method_7_code 18 = .ok (.ifCond .lt 5, 3) := by decide +kernel
theorem d14_21 : decode prog_100_method_7_code 21 = .ok (.iload_n 3, 1) := by decide +kernel
theorem d14_22 : decode prog_100_method_7_code 22 = .ok (.ireturn, 1) := by decide +kernel
theorem d14_23 : decode prog_100_method_7_code 23 = .ok (.aload_n 0, 1) := by decide +kernel
theorem d14_24 : decode prog_100_method_7_code 24 = .ok (.getfield 35, 3) := by decide +kernel
theorem d14_27 : decode prog_100_method_7_code 27 = .ok (.aload_n 0, 1) := by decide +kernel
theorem d14_28 : decode prog_100_method_7_code 28 = .ok (.getfield 24, 3) := by decide +kernel
theorem d14_31 : decode prog_100_method_7_code 31 = .ok (.arraylength, 1) := by decide +kernel
theorem d14_32 : decode prog_100_method_7_code 32 = .ok (.if_icmp .ne 77, 3) := by decide +kernel
theorem d14_109 : decode prog_100_method_7_code 109 = .ok (.aload_n 0, 1) := by decide +kernel
theorem d14_110 : decode prog_100_method_7_code 110 = .ok (.getfield 15, 3) := by decide +kernel
theorem d14_113 : decode prog_100_method_7_code 113 = .ok (.aload_n 0, 1) := by decide +kernel
theorem d14_114 : decode prog_100_method_7_code 114 = .ok (.getfield 35, 3) := by decide +kernel
theorem d14_117 : decode prog_100_method_7_code 117 = .ok (.aload_n 2, 1) := by decide +kernel
theorem d14_118 : decode prog_100_method_7_code 118 = .ok (.aastore, 1) := by decide +kernel
theorem d14_119 : decode prog_100_method_7_code 119 = .ok (.aload_n 0, 1) := by decide +kernel
theorem d14_120 : decode prog_100_method_7_code 120 = .ok (.getfield 19, 3) := by decide +kernel
theorem d14_123 : decode prog_100_method_7_code 123 = .ok (.aload_n 0, 1) := by decide +kernel
theorem d14_124 : decode prog_100_method_7_code 124 = .ok (.getfield 35, 3) := by decide +kernel
theorem d14_127 : decode prog_100_method_7_code 127 = .ok (.aload_n 2, 1) := by decide +kernel
theorem d14_128 : decode prog_100_method_7_code 128 = .ok (.iconst 0, 1) := by decide +kernel
theorem d14_129 : decode prog_100_method_7_code 129 = .ok (.aload_n 2, 1) := by decide +kernel
theorem d14_130 : decode prog_100_method_7_code 130 = .ok (.arraylength, 1) := by decide +kernel
theorem d14_131 : decode prog_100_method_7_code 131 = .ok (.invokestatic 50, 3) := by decide +kernel
theorem d14_134 : decode prog_100_method_7_code 134 = .ok (.iastore, 1) := by decide +kernel
theorem d14_135 : decode prog_100_method_7_code 135 = .ok (.aload_n 0, 1) := by decide +kernel
theorem d14_136 : decode prog_100_method_7_code 136 = .ok (.getfield 24, 3) := by decide +kernel
theorem d14_139 : decode prog_100_method_7_code 139 = .ok (.aload_n 0, 1) := by decide +kernel
theorem d14_140 : decode prog_100_method_7_code 140 = .ok (.getfield 35, 3) := by decide +kernel
theorem d14_143 : decode prog_100_method_7_code 143 = .ok (.aload_n 1, 1) := by decide +kernel
theorem d14_144 : decode prog_100_method_7_code 144 = .ok (.aastore, 1) := by decide +kernel
theorem d14_145 : decode prog_100_method_7_code 145 = .ok (.aload_n 0, 1) := by decide +kernel
theorem d14_146 : decode prog_100_method_7_code 146 = .ok (.getfield 28, 3) := by decide +kernel
theorem d14_149 : decode prog_100_method_7_code 149 = .ok (.aload_n 0, 1) := by decide +kernel
theorem d14_150 : decode prog_100_method_7_code 150 = .ok (.getfield 35, 3) := by decide +kernel
theorem d14_153 : decode prog_100_method_7_code 153 = .ok (.iconst (-1), 1) := by decide +kernel
theorem d14_154 : decode prog_100_method_7_code 154 = .ok (.iastore, 1) := by decide +kernel
theorem d14_155 : decode prog_100_method_7_code 155 = .ok (.aload_n 0, 1) := by decide +kernel
theorem d14_156 : decode prog_100_method_7_code 156 = .ok (.dup, 1) := by decide +kernel
theorem d14_157 : decode prog_100_method_7_code 157 = .ok (.getfield 35, 3) := by decide +kernel
theorem d14_160 : decode prog_100_method_7_code 160 = .ok (.iconst 1, 1) := by decide +kernel
theorem d14_161 : decode prog_100_method_7_code 161 = .ok (.iadd, 1) := by decide +kernel
theorem d14_162 : decode prog_100_method_7_code 162 = .ok (.putfield 35, 3) := by decide +kernel
theorem d14_165 : decode prog_100_method_7_code 165 = .ok (.iconst 2, 1) := by decide +kernel
theorem d14_166 : decode prog_100_method_7_code 166 = .ok (.aload_n 0, 1) := by decide +kernel
theorem d14_167 : decode prog_100_method_7_code 167 = .ok (.getfield 35, 3) := by decide +kernel
theorem d14_170 : decode prog_100_method_7_code 170 = .ok (.imul, 1) := by decide +kernel
theorem d14_171 : decode prog_100_method_7_code 171 = .ok (.aload_n 0, 1) := by decide +kernel
theorem d14_172 : decode prog_100_method_7_code 172 = .ok (.getfield 9, 3) := by decide +kernel
theorem d14_175 : decode prog_100_method_7_code 175 = .ok (.arraylength, 1) := by decide +kernel
theorem d14_176 : decode prog_100_method_7_code 176 = .ok (.if_icmp .le 56, 3) := by decide +kernel
theorem d14_232 : decode prog_100_method_7_code 232 = .ok (.aload_n 0, 1) := by decide +kernel
theorem d14_233 : decode prog_100_method_7_code 233 = .ok (.getfield 9, 3) := by decide +kernel
theorem d14_236 : decode prog_100_method_7_code 236 = .ok (.aload_n 0, 1) := by decide +kernel
theorem d14_237 : decode prog_100_method_7_code 237 = .ok (.aload_n 0, 1) := by decide +kernel
theorem d14_238 : decode prog_100_method_7_code 238 = .ok (.getfield 19, 3) := by decide +kernel
theorem d14_241 : decode prog_100_method_7_code 241 = .ok (.aload_n 0, 1) := by decide +kernel
theorem d14_242 : decode prog_100_method_7_code 242 = .ok (.getfield 35, 3) := by decide +kernel
theorem d14_245 : decode prog_100_method_7_code 245 = .ok (.iconst 1, 1) := by decide +kernel
theorem d14_246 : decode prog_100_method_7_code 246 = .ok (.isub, 1) := by decide +kernel
theorem d14_247 : decode prog_100_method_7_code 247 = .ok (.iaload, 1) := by decide +kernel
theorem d14_248 : decode prog_100_method_7_code 248 = .ok (.invokevirtual 77, 3) := by decide +kernel
theorem d14_251 : decode prog_100_method_7_code 251 = .ok (.aload_n 0, 1) := by decide +kernel
theorem d14_252 : decode prog_100_method_7_code 252 = .ok (.getfield 35, 3) := by decide +kernel
theorem d14_255 : decode prog_100_method_7_code 255 = .ok (.iastore, 1) := by decide +kernel
theorem d14_256 : decode prog_100_method_7_code 256 = .ok (.aload_n 0, 1) := by decide +kernel
theorem d14_257 : decode prog_100_method_7_code 257 = .ok (.aload_n 0, 1) := by decide +kernel
theorem d14_258 : decode prog_100_method_7_code 258 = .ok (.getfield 35, 3) := by decide +kernel
theorem d14_261 : decode prog_100_method_7_code 261 = .ok (.iconst 1, 1) := by decide +kernel
theorem d14_262 : decode prog_100_method_7_code 262 = .ok (.isub, 1) := by decide +kernel
theorem d14_263 : decode prog_100_method_7_code 263 = .ok (.invokevirtual 46, 3) := by decide +kernel
theorem d14_266 : decode prog_100_method_7_code 266 = .ok (.aload_n 0, 1) := by decide +kernel
theorem d14_267 : decode prog_100_method_7_code 267 = .ok (.getfield 35, 3) := by decide +kernel
theorem d14_270 : decode prog_100_method_7_code 270 = .ok (.iconst 1, 1) := by decide +kernel
theorem d14_271 : decode prog_100_method_7_code 271 = .ok (.isub, 1) := by decide +kernel
theorem d14_272 : decode prog_100_method_7_code 272 = .ok (.ireturn, 1) := by decide +kernel
theorem ef_14 (m : MethodId) (a : Addr) (o : Addr) : entryFrame m #[(.ref a), (.ref o)] 5 = mkF m 0 #[.val (.ref a), .val (.ref o), .unset, .unset, .unset] [] := by first | (simp [entryFrame, mkF, argsToLocals, Value.category]; done) | rfl
def R14 : Room := ({ frames := 5, cells := 2, slots := 8, locals := 101 } : Room)
set_option maxRecDepth 65536 in
set_option maxHeartbeats 40000000 in
theorem rm14 (l : Launch) (Z : State) (a0 : Array Value) (hw : ∀ d ∈ tables_1, d.before a0 Z = true) (a : Addr) (o : Addr) (h0 : Heap) (n0 : Nat) (hO : Old Z n0 h0) (k : Nat) (B : Nat → List Int32) (t hs fo : Nat → Int32) (la0 : Int32) (H : TXP Z n0 h0 a k B t hs fo la0) (hk : k ≤ 4) (hk3 : k < 4) (ps : List Nat) (hS : SI k B t ps) (u : Addr) (zs : List Int32) (HS : SS Z h0 o u zs) (hz : ∀ z ∈ zs, BY z) (hl2 : zs.length ≤ 2) (E_u : Exa Z h0 u "[B") (ci : Addr) (OI : Sta Z Z.heap "sun/nio/cs/UTF_8" "INSTANCE" "Lsun/nio/cs/UTF_8;" (.ref ci)) (OC : Sta Z Z.heap "java/nio/charset/StandardCharsets" "UTF_8" "Ljava/nio/charset/Charset;" (.ref ci)) (G1 : Int32) (O2 : Sta Z Z.heap "java/lang/String" "COMPACT_STRINGS" "Z" (.int G1)) (P5 : ¬ G1 = (0 : Int32)) :
    Con l Z (⟨"com/example/indexloom/indexloom/Texts", "number", "(Ljava/lang/String;)I"⟩ : MethodName) prog_100_method_7_code 5 (some .int) [] R14 R14.cells R14.slots #[(.ref a), (.ref o)] h0 (fun r h L => ∃ (i k' : Nat) (B' : Nat → List Int32) (t' hs' fo' : Nat → Int32) (la' : Int32) (ps' : List Nat), r = some (.int (Int32.ofNat i)) ∧ Fr n0 L ∧ Old Z n0 h ∧ KP Z h0 h ∧ TXP Z n0 h a k' B' t' hs' fo' la' ∧ SI k' B' t' ps' ∧ (i < k ∧ B i = U zs ∧ k' = k ∧ B' = B ∨ (∀ i, i < k → ¬ B i = U zs) ∧ i = k ∧ k' = k + 1 ∧ B' = own_set B k (U zs))) := by
  refine Con.intro (n0 := n0) (plainFor_of_name pn_6) (fun m => ef_14 m a o) hO ?_
  intro p e s m below meth cc T hs0 X0
  have E_a := own_txE H
  have hU4 : (U zs).length ≤ 4 := by have := (own_U_len zs).2; omega
  refine g_aloadN X0 d14_0 (pc' := 1) rfl rfl rfl ?_
  refine g_getS X0 (hw _ m86) (OC.ext X0.old.2) d14_1 (pc' := 4) rfl (fun T284 X284 => ?_)
  refine g_callV X284 (y := (⟨"java/lang/String", "getBytes", "(Ljava/nio/charset/Charset;)[B"⟩ : MethodName)) (z := (⟨"java/lang/String", "getBytes", "(Ljava/nio/charset/Charset;)[B"⟩ : MethodName)) (a := o) [(.ref ci)] (hw _ m88) (hw _ m89) (notFace_of_selects (args := #[]) (mvT X284.hZ (hw _ m91))) (hw _ m91) (hw _ m90) HS.1 (hw _ m92) (hw _ m10) (rm15 l Z a0 hw o ci h0 n0 X284.old u zs HS hz hl2 E_u OI OC G1 O2 P5) (by decide) (by decide) (by decide) (by decide) (by decide) rfl pd_20 rfl (rest := []) rfl (W := 0) rfl d14_4 (pc' := 7) rfl ?_
  rintro _ T285 h285 L285 Y285 ⟨b285, rfl, N285, K285, q285, A285x, EA285⟩
  have X285 := Y285 (X284.old.keep K285 all0) N285
  have H1 := own_txk K285 H
  show Go p e below _ (State.setTop _ (mkF m 7 #[.val (.ref a), .val (.ref o), .unset, .unset, .unset] [(.ref b285)]))
  refine g_astoreN X285 d14_7 (pc' := 8) rfl rfl (L' := #[.val (.ref a), .val (.ref o), .val (.ref b285), .unset, .unset]) rfl ?_
  refine g_aloadN X285 d14_8 (pc' := 9) rfl rfl rfl ?_
  refine g_aloadN X285 d14_9 (pc' := 10) rfl rfl rfl ?_
  refine g_iconst X285 d14_10 (pc' := 11) rfl (v := (0 : Int32)) rfl ?_
  refine g_aloadN X285 d14_11 (pc' := 12) rfl rfl rfl ?_
  refine g_arraylength X285 (n := (Int32.ofNat (U zs).length)) A285x (by rw [own_bs_len]) d14_12 (pc' := 13) rfl ?_
  refine g_callV X285 (y := (⟨"com/example/indexloom/indexloom/Texts", "find", "([BII)I"⟩ : MethodName)) (z := (⟨"com/example/indexloom/indexloom/Texts", "find", "([BII)I"⟩ : MethodName)) (a := a) [(.ref b285), (.int (0 : Int32)), (.int (Int32.ofNat (U zs).length))] (hw _ m122) (hw _ m123) (notFace_of_selects (args := #[]) (mvT X285.hZ (hw _ m125))) (hw _ m125) (hw _ m124) (E_a.keep K285) (hw _ m126) (hw _ m59) (rm21 l Z a0 hw a b285 0 (U zs).length h285 n0 X285.old k B t hs fo la0 H1 hk ps hS (U zs) A285x (Nat.zero_le _) (Nat.le_refl _) hU4) (by decide) (by decide) (by decide) (by decide) (by decide) rfl pd_3 rfl (rest := []) rfl (W := 0) rfl d14_13 (pc' := 16) rfl ?_
  rintro _ T286 h286 L286 Y286 ⟨e286, fo286, la286, rfl, N286, z286, KP286, H286, FD286⟩
  have X286 := Y286 z286 N286
  show Go p e below _ (State.setTop _ (mkF m 16 #[.val (.ref a), .val (.ref o), .val (.ref b285), .unset, .unset] [(.int e286)]))
  refine g_istoreN X286 d14_16 (pc' := 17) rfl (L' := #[.val (.ref a), .val (.ref o), .val (.ref b285), .val (.int e286), .unset]) rfl ?_
  rw [own_sl0] at FD286
  rcases FD286 with ⟨i, hi, eB, ez⟩ | ⟨hno, ez⟩ <;> subst ez
  · refine g_iloadN X286 d14_17 (pc' := 18) rfl rfl ?_
    refine g_if_lt_f X286 d14_18 (pc' := 21) rfl (own_nn (by omega)) ?_
    refine g_iloadN X286 d14_21 (pc' := 22) rfl rfl ?_
    exact g_retI X286 rfl d14_22 (by decide) (by decide) ⟨i, k, B, t, hs, fo286, la286, ps, rfl, X286.fr, X286.old, (KP.of0 K285).trans KP286, H286, hS, Or.inl ⟨hi, eB, rfl, rfl⟩⟩
  · obtain ⟨as, ab, ah, at_, af, bd, tx, bA, E_a, F_slots, F_bytes, F_hashes, F_texts, F_following, F_last, F_size, A_as, A_ah, A_af, A_ab, A_at_, htx, E_ab, E_at, O_b, O_t, g_a, g_as, g_ab, g_ah, g_at_, g_af, n_a_as, n_a_ab, n_a_ah, n_a_at_, n_a_af, n_as_ab, n_as_ah, n_as_at_, n_as_af, n_ab_ah, n_ab_at_, n_ab_af, n_ah_at_, n_ah_af, n_at__af, hB, hfo, hla⟩ := id H286
    have hBn : ∀ i, i < k → bA i ≠ a ∧ bA i ≠ as ∧ bA i ≠ ab ∧ bA i ≠ ah ∧ bA i ≠ at_ ∧ bA i ≠ af := fun i hi => ⟨own_neE (hB i hi).2.1 E_a (hw _ m58), own_neT (hB i hi).2.1 A_as (by decide), own_neT (hB i hi).2.1 A_ab (by decide), own_neT (hB i hi).2.1 A_ah (by decide), own_neT (hB i hi).2.1 A_at_ (by decide), own_neT (hB i hi).2.1 A_af (by decide)⟩
    have Ab := KP286.1 _ _ A285x; have Eb := KP286.2.1 _ _ EA285; have Eo := KP286.2.1 _ _ (HS.1.keep K285)
    have nb_as : b285 ≠ as := own_neT Ab A_as (by decide)
    have nb_ab : b285 ≠ ab := own_neT Ab A_ab (by decide)
    have nb_ah : b285 ≠ ah := own_neT Ab A_ah (by decide)
    have nb_at_ : b285 ≠ at_ := own_neT Ab A_at_ (by decide)
    have nb_af : b285 ≠ af := own_neT Ab A_af (by decide)
    have nb_a : b285 ≠ a := own_neE Ab E_a (hw _ m58)
    refine g_iloadN X286 d14_17 (pc' := 18) rfl rfl ?_
    refine g_if_lt_t X286 d14_18 (pt := 23) (by decide) own_m1 ?_
    refine g_aloadN X286 d14_23 (pc' := 24) rfl rfl rfl ?_
    refine g_getF X286 (host := "") (Or.inl (hw _ m134)) Via.refl F_size d14_24 (pc' := 27) rfl (fun T287 X287 => ?_)
    refine g_aloadN X287 d14_27 (pc' := 28) rfl rfl rfl ?_
    refine g_getF X287 (host := "") (Or.inl (hw _ m75)) Via.refl F_texts d14_28 (pc' := 31) rfl (fun T288 X288 => ?_)
    refine g_arraylength X288 (n := (32 : Int32)) A_at_ (by rw [htx] <;> rfl) d14_31 (pc' := 32) rfl ?_
    refine g_icmp_ne_t X288 d14_32 (pt := 109) (by decide) (own_ne32 (by omega)) ?_
    refine g_aloadN X288 d14_109 (pc' := 110) rfl rfl rfl ?_
    refine g_getF X288 (host := "") (Or.inl (hw _ m69)) Via.refl F_bytes d14_110 (pc' := 113) rfl (fun T289 X289 => ?_)
    refine g_aloadN X289 d14_113 (pc' := 114) rfl rfl rfl ?_
    refine g_getF X289 (host := "") (Or.inl (hw _ m134)) Via.refl F_size d14_114 (pc' := 117) rfl (fun T290 X290 => ?_)
    refine g_aloadN X290 d14_117 (pc' := 118) rfl rfl rfl ?_
    refine g_aastore X290 (i := k) A_ab (by decide) E_ab O_b Eb (own_small (by omega)) (by rw [own_lv_len]; omega) g_ab d14_118 (pc' := 119) rfl (fun T291 h291 X291 W291 A291 => ?_)
    rw [own_lv_set] at A291
    refine g_aloadN X291 d14_119 (pc' := 120) rfl rfl rfl ?_
    have f292 := (F_hashes.other W291 (Or.inl n_a_ab))
    refine g_getF X291 (host := "") (Or.inl (hw _ m71)) Via.refl f292 d14_120 (pc' := 123) rfl (fun T293 X293 => ?_)
    refine g_aloadN X293 d14_123 (pc' := 124) rfl rfl rfl ?_
    have f294 := (F_size.other W291 (Or.inl n_a_ab))
    refine g_getF X293 (host := "") (Or.inl (hw _ m134)) Via.refl f294 d14_124 (pc' := 127) rfl (fun T295 X295 => ?_)
    refine g_aloadN X295 d14_127 (pc' := 128) rfl rfl rfl ?_
    refine g_iconst X295 d14_128 (pc' := 129) rfl (v := (0 : Int32)) rfl ?_
    refine g_aloadN X295 d14_129 (pc' := 130) rfl rfl rfl ?_
    have f296 := (Ab.other W291 nb_ab)
    refine g_arraylength X295 (n := (Int32.ofNat (U zs).length)) f296 (by rw [own_bs_len]) d14_130 (pc' := 131) rfl ?_
    refine g_callS X295 (y := (⟨"com/example/indexloom/indexloom/Texts", "hash", "([BII)I"⟩ : MethodName)) [(.ref b285), (.int (0 : Int32)), (.int (Int32.ofNat (U zs).length))] (hw _ m131) (hw _ m132) (hw _ m59) (hw _ m133) (hw _ m59) (rm23 l Z a0 hw b285 0 (U zs).length h291 n0 X295.old (U zs) f296 (Nat.zero_le _) (Nat.le_refl _) hU4) (by decide) (by decide) (by decide) (by decide) (by decide) rfl pd_3 rfl (rest := [(.int (Int32.ofNat k)), (.ref ah)]) rfl (W := 2) rfl d14_131 (pc' := 134) rfl ?_
    rintro _ T297 _ _ Y297 ⟨rfl, rfl, rfl⟩
    have X297 := Y297 X295.old (Fr.nil _)
    show Go p e below _ (State.setTop _ (mkF m 134 #[.val (.ref a), .val (.ref o), .val (.ref b285), .val (.int (-1 : Int32)), .unset] [(.int (HH (sl (U zs) 0 (U zs).length))), (.int (Int32.ofNat k)), (.ref ah)]))
    rw [own_sl0]
    have f298 := (A_ah.other W291 (Ne.symm n_ab_ah))
    refine g_iastore X297 (i := k) f298 (own_small (by omega)) (by rw [own_li_len]; omega) g_ah d14_134 (pc' := 135) rfl (fun T299 h299 X299 W299 A299 => ?_)
    rw [own_li_set] at A299
    refine g_aloadN X299 d14_135 (pc' := 136) rfl rfl rfl ?_
    have f300 := ((F_texts.other W291 (Or.inl n_a_ab)).other W299 (Or.inl n_a_ah))
    refine g_getF X299 (host := "") (Or.inl (hw _ m75)) Via.refl f300 d14_136 (pc' := 139) rfl (fun T301 X301 => ?_)
    refine g_aloadN X301 d14_139 (pc' := 140) rfl rfl rfl ?_
    have f302 := (f294.other W299 (Or.inl n_a_ah))
    refine g_getF X301 (host := "") (Or.inl (hw _ m134)) Via.refl f302 d14_140 (pc' := 143) rfl (fun T303 X303 => ?_)
    refine g_aloadN X303 d14_143 (pc' := 144) rfl rfl rfl ?_
    have f304 := ((A_at_.other W291 (Ne.symm n_ab_at_)).other W299 (Ne.symm n_ah_at_))
    have f305 := ((E_at.wr W291).wr W299)
    have f306 := ((Eo.wr W291).wr W299)
    refine g_aastore X303 (i := k) f304 (by decide) f305 O_t f306 (own_small (by omega)) (by rw [htx]; omega) g_at_ d14_144 (pc' := 145) rfl (fun T307 h307 X307 W307 A307 => ?_)
    refine g_aloadN X307 d14_145 (pc' := 146) rfl rfl rfl ?_
    have f308 := (((F_following.other W291 (Or.inl n_a_ab)).other W299 (Or.inl n_a_ah)).other W307 (Or.inl n_a_at_))
    refine g_getF X307 (host := "") (Or.inl (hw _ m77)) Via.refl f308 d14_146 (pc' := 149) rfl (fun T309 X309 => ?_)
    refine g_aloadN X309 d14_149 (pc' := 150) rfl rfl rfl ?_
    have f310 := (f302.other W307 (Or.inl n_a_at_))
    refine g_getF X309 (host := "") (Or.inl (hw _ m134)) Via.refl f310 d14_150 (pc' := 153) rfl (fun T311 X311 => ?_)
    refine g_iconst X311 d14_153 (pc' := 154) rfl (v := (-1 : Int32)) rfl ?_
    have f312 := (((A_af.other W291 (Ne.symm n_ab_af)).other W299 (Ne.symm n_ah_af)).other W307 (Ne.symm n_at__af))
    refine g_iastore X311 (i := k) f312 (own_small (by omega)) (by rw [own_li_len]; omega) g_af d14_154 (pc' := 155) rfl (fun T313 h313 X313 W313 A313 => ?_)
    rw [own_li_set] at A313
    refine g_aloadN X313 d14_155 (pc' := 156) rfl rfl rfl ?_
    refine g_dup X313 d14_156 (pc' := 157) rfl rfl ?_
    have f314 := (f310.other W313 (Or.inl n_a_af))
    refine g_getF X313 (host := "") (Or.inl (hw _ m134)) Via.refl f314 d14_157 (pc' := 160) rfl (fun T315 X315 => ?_)
    refine g_iconst X315 d14_160 (pc' := 161) rfl (v := (1 : Int32)) rfl ?_
    refine g_iadd X315 d14_161 (pc' := 162) rfl ?_
    rw [own_succ]
    have f316 := ((((E_a.wr W291).wr W299).wr W307).wr W313)
    refine g_putF X315 (host := "") (Or.inl (hw _ m134)) Via.refl f314 f316 (Or.inl (hw _ m135)) (hw _ m58) (ty := .int) (by decide) rfl rfl g_a d14_162 (pc' := 165) rfl (fun T317 h317 X317 W317 => ?_)
    have F317 := f314.same W317
    refine g_iconst X317 d14_165 (pc' := 166) rfl (v := (2 : Int32)) rfl ?_
    refine g_aloadN X317 d14_166 (pc' := 167) rfl rfl rfl ?_
    refine g_getF X317 (host := "") (Or.inl (hw _ m134)) Via.refl F317 d14_167 (pc' := 170) rfl (fun T318 X318 => ?_)
    refine g_imul X318 d14_170 (pc' := 171) rfl ?_
    refine g_aloadN X318 d14_171 (pc' := 172) rfl rfl rfl ?_
    have f319 := (((((F_slots.other W291 (Or.inl n_a_ab)).other W299 (Or.inl n_a_ah)).other W307 (Or.inl n_a_at_)).other W313 (Or.inl n_a_af)).other W317 (Or.inr (slot_ne (Or.inl (hw _ m66)) (Or.inl (hw _ m135)) (by decide) (t := (.array .int)) (t' := .int) (by decide) (by decide))))
    refine g_getF X318 (host := "") (Or.inl (hw _ m65)) Via.refl f319 d14_172 (pc' := 175) rfl (fun T320 X320 => ?_)
    have f321 := (((((A_as.other W291 n_as_ab).other W299 n_as_ah).other W307 n_as_at_).other W313 n_as_af).other W317 (Ne.symm n_a_as))
    refine g_arraylength X320 (n := (64 : Int32)) f321 (by rw [own_li_len] <;> rfl) d14_175 (pc' := 176) rfl ?_
    refine g_icmp_le_t X320 d14_176 (pt := 232) (by decide) (own_le64 (by omega)) ?_
    refine g_aloadN X320 d14_232 (pc' := 233) rfl rfl rfl ?_
    refine g_getF X320 (host := "") (Or.inl (hw _ m65)) Via.refl f319 d14_233 (pc' := 236) rfl (fun T322 X322 => ?_)
    refine g_aloadN X322 d14_236 (pc' := 237) rfl rfl rfl ?_
    refine g_aloadN X322 d14_237 (pc' := 238) rfl rfl rfl ?_
    have f323 := ((((f292.other W299 (Or.inl n_a_ah)).other W307 (Or.inl n_a_at_)).other W313 (Or.inl n_a_af)).other W317 (Or.inr (slot_ne (Or.inl (hw _ m72)) (Or.inl (hw _ m135)) (by decide) (t := (.array .int)) (t' := .int) (by decide) (by decide))))
    refine g_getF X322 (host := "") (Or.inl (hw _ m71)) Via.refl f323 d14_238 (pc' := 241) rfl (fun T324 X324 => ?_)
    refine g_aloadN X324 d14_241 (pc' := 242) rfl rfl rfl ?_
    refine g_getF X324 (host := "") (Or.inl (hw _ m134)) Via.refl F317 d14_242 (pc' := 245) rfl (fun T325 X325 => ?_)
    refine g_iconst X325 d14_245 (pc' := 246) rfl (v := (1 : Int32)) rfl ?_
    refine g_isub X325 d14_246 (pc' := 247) rfl ?_
    rw [own_pred1]
    have f326 := (((A299.other W307 n_ah_at_).other W313 n_ah_af).other W317 (Ne.symm n_a_ah))
    refine g_iaload X325 (i := k) (v := (.int (own_set hs k (HH (U zs)) k))) f326 (own_small (by omega)) (own_li_at _ (by omega)) d14_247 (pc' := 248) rfl ?_
    rw [own_set_at]
    have f327 := ((((f296.other W299 nb_ah).other W307 nb_at_).other W313 nb_af).other W317 nb_a)
    have f328 := (f316.wr W317)
    have f329 := (((((F_bytes.other W291 (Or.inl n_a_ab)).other W299 (Or.inl n_a_ah)).other W307 (Or.inl n_a_at_)).other W313 (Or.inl n_a_af)).other W317 (Or.inr (slot_ne (Or.inl (hw _ m70)) (Or.inl (hw _ m135)) (by decide) (t := (.array (.array .byte))) (t' := .int) (by decide) (by decide))))
    have f330 := (((f300.other W307 (Or.inl n_a_at_)).other W313 (Or.inl n_a_af)).other W317 (Or.inr (slot_ne (Or.inl (hw _ m76)) (Or.inl (hw _ m135)) (by decide) (t := (.array (.object "java/lang/String"))) (t' := .int) (by decide) (by decide))))
    have f331 := ((f308.other W313 (Or.inl n_a_af)).other W317 (Or.inr (slot_ne (Or.inl (hw _ m78)) (Or.inl (hw _ m135)) (by decide) (t := (.array .int)) (t' := .int) (by decide) (by decide))))
    have f332 := (((((F_last.other W291 (Or.inl n_a_ab)).other W299 (Or.inl n_a_ah)).other W307 (Or.inl n_a_at_)).other W313 (Or.inl n_a_af)).other W317 (Or.inr (slot_ne (Or.inl (hw _ m80)) (Or.inl (hw _ m135)) (by decide) (t := .int) (t' := .int) (by decide) (by decide))))
    have f333 := (A313.other W317 (Ne.symm n_a_af))
    have f334 := ((((A291.other W299 n_ab_ah).other W307 n_ab_at_).other W313 n_ab_af).other W317 (Ne.symm n_a_ab))
    have f335 := ((A307.other W313 n_at__af).other W317 (Ne.symm n_a_at_))
    have f336 := (((((E_ab.wr W291).wr W299).wr W307).wr W313).wr W317)
    have f337 := (((f305.wr W307).wr W313).wr W317)
    have HT338 : TXP Z n0 h317 a (k + 1) (own_set B k (U zs)) t (own_set hs k (HH (U zs))) (own_set fo286 k (-1)) la286 := ⟨as, ab, ah, at_, af, own_set bd k (.ref b285), _, own_set bA k b285, f328, f319, f329, f323, f330, f331, f332, F317, f321, f326, f333, f334, f335, (by rw [List.length_set]; exact htx), f336, f337, O_b, O_t, g_a, g_as, g_ab, g_ah, g_at_, g_af, n_a_as, n_a_ab, n_a_ah, n_a_at_, n_a_af, n_as_ab, n_as_ah, n_as_at_, n_as_af, n_ab_ah, n_ab_at_, n_ab_af, n_ah_at_, n_ah_af, n_at__af, (fun i hi' => (Nat.lt_succ_iff_lt_or_eq.mp hi').elim (fun hi => ⟨(by rw [own_set_ne _ _ (Nat.ne_of_lt hi), own_set_ne _ _ (Nat.ne_of_lt hi)]; exact (hB i hi).1), (by rw [own_set_ne _ _ (Nat.ne_of_lt hi), own_set_ne _ _ (Nat.ne_of_lt hi)]; exact ((((((hB i hi).2.1.other W291 (hBn i hi).2.2.1).other W299 (hBn i hi).2.2.2.1).other W307 (hBn i hi).2.2.2.2.1).other W313 (hBn i hi).2.2.2.2.2).other W317 (hBn i hi).1)), (by rw [own_set_ne _ _ (Nat.ne_of_lt hi)]; exact (hB i hi).2.2.1), (by rw [own_set_ne _ _ (Nat.ne_of_lt hi), own_set_ne _ _ (Nat.ne_of_lt hi)]; exact (hB i hi).2.2.2)⟩) (fun ei => by rw [ei]; exact ⟨(by rw [own_set_at, own_set_at]), (by rw [own_set_at, own_set_at]; exact f327), (by rw [own_set_at]; exact hU4), (by rw [own_set_at, own_set_at])⟩)), (own_fo1 hfo), (own_la1 hla)⟩
    refine g_callP X325 (y := (⟨"com/example/indexloom/indexloom/Texts", "free", "(I)I"⟩ : MethodName)) (a := a) [(.int (HH (U zs)))] (hw _ m136) (hw _ m137) (hw _ m138) (hw _ m58) f328 (hw _ m139) (hw _ m59) (rm24 l Z a0 hw a (HH (U zs)) h317 n0 X325.old (k + 1) (own_set B k (U zs)) t (own_set hs k (HH (U zs))) _ _ HT338 k (by omega) ps hS.1 hS.2.2.2) (by decide) (by decide) (by decide) (by decide) (by decide) rfl pd_4 rfl (rest := [(.ref as)]) rfl (W := 1) rfl d14_248 (pc' := 251) rfl ?_
    rintro _ T339 _ _ Y339 ⟨d339, rfl, r339, rfl, rfl⟩
    have X339 := Y339 X325.old (Fr.nil _)
    show Go p e below _ (State.setTop _ (mkF m 251 #[.val (.ref a), .val (.ref o), .val (.ref b285), .val (.int (-1 : Int32)), .unset] [(.int (Int32.ofNat ((ix (HH (U zs)) + d339) % 64))), (.ref as)]))
    refine g_aloadN X339 d14_251 (pc' := 252) rfl rfl rfl ?_
    refine g_getF X339 (host := "") (Or.inl (hw _ m134)) Via.refl F317 d14_252 (pc' := 255) rfl (fun T340 X340 => ?_)
    refine g_iastore X340 (i := ((ix (HH (U zs)) + d339) % 64)) f321 (own_small (by omega)) (by rw [own_li_len]; omega) g_as d14_255 (pc' := 256) rfl (fun T341 h341 X341 W341 A341 => ?_)
    rw [own_li_set] at A341
    refine g_aloadN X341 d14_256 (pc' := 257) rfl rfl rfl ?_
    refine g_aloadN X341 d14_257 (pc' := 258) rfl rfl rfl ?_
    have f342 := (F317.other W341 (Or.inl n_a_as))
    refine g_getF X341 (host := "") (Or.inl (hw _ m134)) Via.refl f342 d14_258 (pc' := 261) rfl (fun T343 X343 => ?_)
    refine g_iconst X343 d14_261 (pc' := 262) rfl (v := (1 : Int32)) rfl ?_
    refine g_isub X343 d14_262 (pc' := 263) rfl ?_
    rw [own_pred1]
    have f344 := (f327.other W341 nb_as)
    have f345 := (f328.wr W341)
    have f346 := (f319.other W341 (Or.inl n_a_as))
    have f347 := (f329.other W341 (Or.inl n_a_as))
    have f348 := (f323.other W341 (Or.inl n_a_as))
    have f349 := (f330.other W341 (Or.inl n_a_as))
    have f350 := (f331.other W341 (Or.inl n_a_as))
    have f351 := (f332.other W341 (Or.inl n_a_as))
    have f352 := (f326.other W341 (Ne.symm n_as_ah))
    have f353 := (f333.other W341 (Ne.symm n_as_af))
    have f354 := (f334.other W341 (Ne.symm n_as_ab))
    have f355 := (f335.other W341 (Ne.symm n_as_at_))
    have f356 := (f336.wr W341)
    have f357 := (f337.wr W341)
    have HT358 : TXP Z n0 h341 a (k + 1) (own_set B k (U zs)) (own_set t ((ix (HH (U zs)) + d339) % 64) (Int32.ofNat (k + 1))) (own_set hs k (HH (U zs))) (own_set fo286 k (-1)) la286 := ⟨as, ab, ah, at_, af, own_set bd k (.ref b285), _, own_set bA k b285, f345, f346, f347, f348, f349, f350, f351, f342, A341, f352, f353, f354, f355, (by rw [List.length_set]; exact htx), f356, f357, O_b, O_t, g_a, g_as, g_ab, g_ah, g_at_, g_af, n_a_as, n_a_ab, n_a_ah, n_a_at_, n_a_af, n_as_ab, n_as_ah, n_as_at_, n_as_af, n_ab_ah, n_ab_at_, n_ab_af, n_ah_at_, n_ah_af, n_at__af, (fun i hi' => (Nat.lt_succ_iff_lt_or_eq.mp hi').elim (fun hi => ⟨(by rw [own_set_ne _ _ (Nat.ne_of_lt hi), own_set_ne _ _ (Nat.ne_of_lt hi)]; exact (hB i hi).1), (by rw [own_set_ne _ _ (Nat.ne_of_lt hi), own_set_ne _ _ (Nat.ne_of_lt hi)]; exact (((((((hB i hi).2.1.other W291 (hBn i hi).2.2.1).other W299 (hBn i hi).2.2.2.1).other W307 (hBn i hi).2.2.2.2.1).other W313 (hBn i hi).2.2.2.2.2).other W317 (hBn i hi).1).other W341 (hBn i hi).2.1)), (by rw [own_set_ne _ _ (Nat.ne_of_lt hi)]; exact (hB i hi).2.2.1), (by rw [own_set_ne _ _ (Nat.ne_of_lt hi), own_set_ne _ _ (Nat.ne_of_lt hi)]; exact (hB i hi).2.2.2)⟩) (fun ei => by rw [ei]; exact ⟨(by rw [own_set_at, own_set_at]), (by rw [own_set_at, own_set_at]; exact f344), (by rw [own_set_at]; exact hU4), (by rw [own_set_at, own_set_at])⟩)), (own_fo1 hfo), (own_la1 hla)⟩
    have k359 := (Keep.refl h286 [a, as, ab, ah, at_, af]).wr W291 (Or.inl (by simp))
    have k360 := k359.wr W299 (Or.inl (by simp))
    have k361 := k360.wr W307 (Or.inl (by simp))
    have k362 := k361.wr W313 (Or.inl (by simp))
    have k363 := k362.wr W317 (Or.inl (by simp))
    have k364 := k363.wr W341 (Or.inl (by simp))
    have KPx := own_KP k364 (hw _ m58) (hw _ m9) E_a A_as A_ab A_ah A_at_ A_af
    refine g_callP X343 (y := (⟨"com/example/indexloom/indexloom/Texts", "follow", "(I)V"⟩ : MethodName)) (a := a) [(.int (Int32.ofNat k))] (hw _ m140) (hw _ m141) (hw _ m142) (hw _ m58) f345 (hw _ m143) (hw _ m59) (rm25 l Z a0 hw a k h341 n0 X343.old (k + 1) (own_set B k (U zs)) (own_set t ((ix (HH (U zs)) + d339) % 64) (Int32.ofNat (k + 1))) (own_set hs k (HH (U zs))) _ _ HT358 (by omega) (Nat.lt_succ_self _)) (by decide) (by decide) (by decide) (by decide) (by decide) rfl pd_19 rfl (rest := []) rfl (W := 0) rfl d14_263 (pc' := 266) rfl ?_
    rintro _ T365 h365 L365 Y365 ⟨fo365, rfl, N365, z365, K365, H365⟩
    have X365 := Y365 z365 N365
    show Go p e below _ (State.setTop _ (mkF m 266 #[.val (.ref a), .val (.ref o), .val (.ref b285), .val (.int (-1 : Int32)), .unset] []))
    refine g_aloadN X365 d14_266 (pc' := 267) rfl rfl rfl ?_
    refine g_getF X365 (host := "") (Or.inl (hw _ m134)) Via.refl (own_txS H365) d14_267 (pc' := 270) rfl (fun T366 X366 => ?_)
    refine g_iconst X366 d14_270 (pc' := 271) rfl (v := (1 : Int32)) rfl ?_
    refine g_isub X366 d14_271 (pc' := 272) rfl ?_
    rw [own_pred1]
    exact g_retI X366 rfl d14_272 (by decide) (by decide) ⟨k, k + 1, _, _, _, _, _, _, rfl, X366.fr, X366.old, ((KP.of0 K285).trans KP286).trans (KPx.trans K365), H365, own_SIS hS hk3 r339.1 r339.2, Or.inr ⟨hno, rfl, rfl, rfl⟩⟩

/-- what number answers -/
def GN (k : Nat) (B : Nat → List Int32) (zs : List Int32) (i k' : Nat) (B' : Nat → List Int32) : Prop := (i < k ∧ B i = U zs ∧ k' = k ∧ B' = B ∨ (∀ i, i < k → ¬ B i = U zs) ∧ i = k ∧ k' = k + 1 ∧ B' = own_set B k (U zs))
section Plain
variable {k k1 k2 k3 k' i i0 i1 i2 : Nat} {B B0 B1 B2 B3 B' : Nat → List Int32} {zs zs0 zs1 zs2 : List Int32}
theorem own_gn (G : GN k B zs i k' B') : (i < k' ∧ B' i = U zs) ∧ (∀ j, j < k → j < k' ∧ B' j = B j) ∧ ((∀ a b, a < k → b < k → B a = B b → a = b) → ∀ a b, a < k' → b < k' → B' a = B' b → a = b) ∧ (∀ j, j < k' → (j < k ∧ B' j = B j) ∨ B' j = U zs) := by
  rcases G with ⟨h1, h2, e2, e3⟩ | ⟨h1, e1, e2, e3⟩
  · rw [e2, e3]; exact ⟨⟨h1, h2⟩, fun j hj => ⟨hj, rfl⟩, fun h => h, fun j hj => Or.inl ⟨hj, rfl⟩⟩
  · rw [e1, e2, e3]
    refine ⟨⟨Nat.lt_succ_self _, own_set_at _ _ _⟩, fun j hj => ⟨by omega, own_set_ne _ _ (by omega)⟩, fun h a b ha hb e => ?_, fun j hj => ?_⟩
    · by_cases qa : a = k <;> by_cases qb : b = k
      · rw [qa, qb]
      · rw [qa, own_set_at, own_set_ne _ _ qb] at e; exact absurd e.symm (h1 b (by omega))
      · rw [qb, own_set_at, own_set_ne _ _ qa] at e; exact absurd e (h1 a (by omega))
      · rw [own_set_ne _ _ qa, own_set_ne _ _ qb] at e; exact h a b (by omega) (by omega) e
    · by_cases q : j = k
      · rw [q]; exact Or.inr (own_set_at _ _ _)
      · exact Or.inl ⟨by omega, own_set_ne _ _ q⟩
theorem own_V0 (G : GN 0 B zs i k' B') : i = 0 ∧ k' = 1 := by
  rcases G with ⟨h, -⟩ | ⟨-, a, b, -⟩
  · exact absurd h (Nat.not_lt_zero _)
  · exact ⟨a, b⟩
theorem own_Ve (G : GN k B zs i k' B') (inj : ∀ a b, a < k → b < k → B a = B b → a = b) {j : Nat} (hj : j < k) (e : B j = U zs) : i = j ∧ k' = k := by
  rcases G with ⟨h1, h2, h3, -⟩ | ⟨h1, -⟩
  · exact ⟨inj i j h1 hj (h2.trans e.symm), h3⟩
  · exact absurd e (h1 j hj)
theorem own_Vn (G : GN k B zs i k' B') (h : ∀ j, j < k → ¬ B j = U zs) : i = k ∧ k' = k + 1 := by
  rcases G with ⟨h1, h2, -⟩ | ⟨-, a, b, -⟩
  · exact absurd h2 (h i h1)
  · exact ⟨a, b⟩
theorem own_i0 : ∀ a b, a < 0 → b < 0 → B a = B b → a = b := fun a b ha => absurd ha (Nat.not_lt_zero a)
theorem own_v1e (G0 : GN 0 B0 zs0 i0 k1 B1) (G1 : GN k1 B1 zs1 i1 k2 B2) (e : zs1 = zs0) : i1 = 0 ∧ k2 = 1 := by
  have v := own_V0 G0
  have q := own_Ve G1 ((own_gn G0).2.2.1 own_i0) (own_gn G0).1.1 (by rw [(own_gn G0).1.2, e])
  omega
theorem own_v1n (G0 : GN 0 B0 zs0 i0 k1 B1) (G1 : GN k1 B1 zs1 i1 k2 B2) (b0 : ∀ z ∈ zs0, BY z) (b1 : ∀ z ∈ zs1, BY z) (n : ¬ zs1 = zs0) : i1 = 1 ∧ k2 = 2 := by
  have v := own_V0 G0
  have q := own_Vn G1 (fun j hj q => by
    rcases (own_gn G0).2.2.2 j hj with ⟨h, -⟩ | h
    · exact absurd h (Nat.not_lt_zero _)
    · exact n (own_Uinj b1 b0 (q.symm.trans h)))
  omega
theorem own_v2a (G0 : GN 0 B0 zs0 i0 k1 B1) (G1 : GN k1 B1 zs1 i1 k2 B2) (G2 : GN k2 B2 zs2 i2 k3 B3) (e : zs2 = zs0) : i2 = 0 ∧ k3 = k2 := by
  have v := own_V0 G0
  have p := (own_gn G1).2.1 i0 (own_gn G0).1.1
  have q := own_Ve G2 ((own_gn G1).2.2.1 ((own_gn G0).2.2.1 own_i0)) p.1 (by rw [p.2, (own_gn G0).1.2, e])
  omega
theorem own_v2b (G0 : GN 0 B0 zs0 i0 k1 B1) (G1 : GN k1 B1 zs1 i1 k2 B2) (G2 : GN k2 B2 zs2 i2 k3 B3) (e : zs2 = zs1) : i2 = i1 ∧ k3 = k2 := own_Ve G2 ((own_gn G1).2.2.1 ((own_gn G0).2.2.1 own_i0)) (own_gn G1).1.1 (by rw [(own_gn G1).1.2, e])
theorem own_v2c (G0 : GN 0 B0 zs0 i0 k1 B1) (G1 : GN k1 B1 zs1 i1 k2 B2) (G2 : GN k2 B2 zs2 i2 k3 B3) (b0 : ∀ z ∈ zs0, BY z) (b1 : ∀ z ∈ zs1, BY z) (b2 : ∀ z ∈ zs2, BY z) (n0 : ¬ zs2 = zs0) (n1 : ¬ zs2 = zs1) : i2 = k2 ∧ k3 = k2 + 1 := own_Vn G2 (fun j hj q => by
  rcases (own_gn G1).2.2.2 j hj with ⟨h, e⟩ | h
  · rcases (own_gn G0).2.2.2 j h with ⟨h', -⟩ | h'
    · exact absurd h' (Nat.not_lt_zero _)
    · exact n0 (own_Uinj b2 b0 (q.symm.trans (e.trans h')))
  · exact n1 (own_Uinj b2 b1 (q.symm.trans h)))
/-- the numbers that the law reckons -/
def NV (zs0 zs1 zs2 : List Int32) (n1 n2 : Int32) : Prop := (zs1 = zs0 ∧ n1 = 0 ∨ ¬ zs1 = zs0 ∧ n1 = 1) ∧ (zs2 = zs0 ∧ n2 = 0 ∨ ¬ zs2 = zs0 ∧ zs2 = zs1 ∧ n2 = n1 ∨ ¬ zs2 = zs0 ∧ ¬ zs2 = zs1 ∧ n2 = n1 + (1 : Int32))
theorem own_c1 {n1 n2 : Int32} (G0 : GN 0 B0 zs0 i0 k1 B1) (G1 : GN k1 B1 zs1 i1 k2 B2) (b0 : ∀ z ∈ zs0, BY z) (b1 : ∀ z ∈ zs1, BY z) (H : NV zs0 zs1 zs2 n1 n2) : Int32.ofNat i1 = n1 ∧ k2 ≤ 2 ∧ Int32.ofNat k2 = n1 + (1 : Int32) := by
  rcases H.1 with ⟨e, h⟩ | ⟨e, h⟩
  · have v := own_v1e G0 G1 e
    rw [v.1, v.2, h]; exact ⟨rfl, by omega, by decide⟩
  · have v := own_v1n G0 G1 b0 b1 e
    rw [v.1, v.2, h]; exact ⟨rfl, by omega, by decide⟩
theorem own_c2 {n1 n2 : Int32} (G0 : GN 0 B0 zs0 i0 k1 B1) (G1 : GN k1 B1 zs1 i1 k2 B2) (G2 : GN k2 B2 zs2 i2 k3 B3) (b0 : ∀ z ∈ zs0, BY z) (b1 : ∀ z ∈ zs1, BY z) (b2 : ∀ z ∈ zs2, BY z) (H : NV zs0 zs1 zs2 n1 n2) : Int32.ofNat i2 = n2 ∧ k3 ≤ 3 := by
  have c := own_c1 G0 G1 b0 b1 H
  rcases H.2 with ⟨e, h⟩ | ⟨-, e, h⟩ | ⟨e, e', h⟩
  · have v := own_v2a G0 G1 G2 e
    rw [v.1, h]; exact ⟨rfl, by omega⟩
  · have v := own_v2b G0 G1 G2 e
    rw [v.1, h]; exact ⟨c.1, by omega⟩
  · have v := own_v2c G0 G1 G2 b0 b1 b2 e e'
    rw [v.1, h]; exact ⟨c.2.2, by omega⟩
/-- the numbers g0, g1, g2 are those of the texts u0, u1, u2 -/
def RP (k : Nat) (B : Nat → List Int32) (u0 u1 u2 : List Int32) (g0 g1 g2 : Int32) : Prop := (∃ i, i < k ∧ B i = u0 ∧ g0 = Int32.ofNat i) ∧ (∃ i, i < k ∧ B i = u1 ∧ g1 = Int32.ofNat i) ∧ (∃ i, i < k ∧ B i = u2 ∧ g2 = Int32.ofNat i) ∧ (∀ a b, a < k → b < k → B a = B b → a = b) ∧ (∀ i, i < k → B i = u0 ∨ B i = u1 ∨ B i = u2)
theorem own_rp (G0 : GN 0 B0 zs0 i0 k1 B1) (G1 : GN k1 B1 zs1 i1 k2 B2) (G2 : GN k2 B2 zs2 i2 k3 B3) {g0 g1 g2 : Int32} (e0 : Int32.ofNat i0 = g0) (e1 : Int32.ofNat i1 = g1) (e2 : Int32.ofNat i2 = g2) : RP k3 B3 (U zs0) (U zs1) (U zs2) g0 g1 g2 := by
  obtain ⟨⟨a1, a2⟩, -, a4, a5⟩ := own_gn G0
  obtain ⟨⟨b1, b2⟩, b3, b4, b5⟩ := own_gn G1
  obtain ⟨⟨c1, c2⟩, c3, c4, c5⟩ := own_gn G2
  refine ⟨⟨i0, (c3 i0 (b3 i0 a1).1).1, by rw [(c3 i0 (b3 i0 a1).1).2, (b3 i0 a1).2, a2], e0.symm⟩, ⟨i1, (c3 i1 b1).1, by rw [(c3 i1 b1).2, b2], e1.symm⟩, ⟨i2, c1, c2, e2.symm⟩, c4 (b4 (a4 own_i0)), fun i hi => ?_⟩
  rcases c5 i hi with ⟨q1, q2⟩ | q
  · rw [q2]; rcases b5 i q1 with ⟨r1, r2⟩ | r
    · rw [r2]; rcases a5 i r1 with ⟨s1, s2⟩ | s
      · exact absurd s1 (Nat.not_lt_zero i)
      · exact Or.inl s
    · exact Or.inr (Or.inl r)
  · exact Or.inr (Or.inr q)
theorem own_fin {z u0 u1 u2 : List Int32} {e e' g0 g1 g2 : Int32} (F : FD k B z e) (R : RP k B u0 u1 u2 g0 g1 g2) (X : z = u0 ∧ e' = g0 ∨ ¬ z = u0 ∧ z = u1 ∧ e' = g1 ∨ ¬ z = u0 ∧ ¬ z = u1 ∧ z = u2 ∧ e' = g2 ∨ ¬ z = u0 ∧ ¬ z = u1 ∧ ¬ z = u2 ∧ e' = -1) : e = e' := by
  obtain ⟨⟨j0, p0, q0, r0⟩, ⟨j1, p1, q1, r1⟩, ⟨j2, p2, q2, r2⟩, inj, cov⟩ := R
  rcases F with ⟨i, hi, eB, ee⟩ | ⟨hno, ee⟩
  · rcases X with ⟨a, x⟩ | ⟨-, a, x⟩ | ⟨-, -, a, x⟩ | ⟨a, b, c, x⟩
    · rw [ee, x, r0, inj i j0 hi p0 (by rw [eB, q0, a])]
    · rw [ee, x, r1, inj i j1 hi p1 (by rw [eB, q1, a])]
    · rw [ee, x, r2, inj i j2 hi p2 (by rw [eB, q2, a])]
    · rcases cov i hi with q | q | q
      · exact absurd (eB.symm.trans q) a
      · exact absurd (eB.symm.trans q) b
      · exact absurd (eB.symm.trans q) c
  · rcases X with ⟨a, x⟩ | ⟨-, a, x⟩ | ⟨-, -, a, x⟩ | ⟨a, b, c, x⟩
    · exact absurd (q0.trans a.symm) (hno j0 p0)
    · exact absurd (q1.trans a.symm) (hno j1 p1)
    · exact absurd (q2.trans a.symm) (hno j2 p2)
    · rw [ee, x]
theorem own_tk (zs : List Int32) : (U zs ++ List.replicate (4 - (U zs).length) 0).take (U zs).length = U zs := List.take_left
theorem own_ul (f : Int32) : (U (zsOf f)).length ≤ 4 := by have h1 := (own_U_len (zsOf f)).2; have h2 := (own_zby f).2; omega
theorem own_wl (f : Int32) : (U (zsOf f) ++ List.replicate (4 - (U (zsOf f)).length) 0).length = 4 := by rw [List.length_append, List.length_replicate]; have := own_ul f; omega
theorem own_SI0 : SI 0 B (fun _ => (0 : Int32)) [] := ⟨fun j _ g => absurd rfl g, fun j _ g => absurd rfl g, fun i hi => absurd hi (Nat.not_lt_zero i), Nat.le_refl 0⟩
end Plain
end Nar
open Nar (own_bs BY own_put SS SBP AQ)
namespace Wid
open Nar (own_three own_m255 own_255 ch0 ch1 zsOf lenOf_ i8 U u8 TXP SI FD KP own_set ix HH sl own_zby own_U_len own_Uinj)
section Own2
variable {p : Program} {l : Launch} {e : Env} {R : Room} {s : State} {m : MethodId} {args : Array Value} {below : List Frame} {meth : Method} {c : Code} {own nm : String} {bytes : ByteArray} {ml : Nat} {ret : Option FieldType} {T : State} {locs : List Loc} {cells slots : Nat} {Z : State} {a0 : Array Value} {h : Heap} {vm0 : Vm} {n0 : Nat} {K : State → Outcome → Prop} {pc pc' pt : Nat} {L L' : Array Slot} {S : List Value}
/-- a contract of a body that may intern, and needs the texts of EL -/
def ConH (EL : List (String × Nat)) (l : Launch) (Z : State) (y : MethodName) (bytes : ByteArray) (ml : Nat) (ret : Option FieldType) (ws : List Jvm.Cond) (rm : Room) (as' : Array Value) (h : Heap) (Q : Option Value → Heap → List Loc → Prop) : Prop :=
  MetFree l y (head1 (Jvm.Cond.code y bytes ml ret :: ws) rm) (fun a U => a = as' ∧ Z.Warmed39 U.vm ∧ U.heap = h ∧ CHv Z EL U.vm h) (fun _ _ _ _ _ => True) (fun _ U o U' => ∃ v L, o = .returned v ∧ Q v U'.heap L ∧ ReturnedEndW U o U' L rm.cells rm.slots)
theorem ConH.intro {EL : List (String × Nat)} {y : MethodName} {ws : List Jvm.Cond} {rm : Room} {as' : Array Value} {Q : Option Value → Heap → List Loc → Prop} (hy : plainFor y = true) (ef : ∀ m, entryFrame m as' ml = mkF m 0 L []) (hz : Old Z n0 h)
    (body : ∀ p e s m below meth c T, s.heap = h → CHv Z EL s.vm h → St Z n0 p l e rm s s.vm m as' below meth c y.cls y.name bytes ml ret T [] 0 0 h → Go p e below (Kq s rm.cells rm.slots Q) (T.setTop (mkF m 0 L []))) : ConH EL l Z y bytes ml ret ws rm as' h Q := by
  refine MetFree.of_bodySF hy hisR ?_
  intro p e s m args below meth c s₁ Bd hml0 hP hK
  obtain ⟨rfl, hZ, hh, hH⟩ := hP
  have e0 : s₁.heap = h := by rw [← hh, Bd.state]; rfl
  obtain ⟨s₂, o, h1, h2, h3, h4⟩ := body p e s m below meth c s₁ hh hH ⟨Stand.of_body Bd, ⟨Bd.exec, Bd.bytes, hml0, findClass_of_methodNamed Bd.named, hZ, Bd.returns, Bd.notSynchronized, (name_of_methodNamed Bd.named Bd.method).1⟩, e0, Fr.nil n0, hz, 0, (State.WarmedH.refl s).since 0, Nat.zero_le _⟩
  exact ⟨s₂, o, castTop (ef m) h1, h2, h3, h4⟩
theorem backH {EL : List (String × Nat)} {y : MethodName} {maxL : Nat} {ret : Option FieldType} {rm : Room} {len W : Nat} {as' : Array Value} {Q : Option Value → Heap → List Loc → Prop} (hM : ConH EL l Z y bytes maxL ret [] rm as' h Q)
    (hZ : Z.Warmed39 vm0) (wc : (Jvm.Cond.code y bytes maxL ret).before a0 Z = true) (wz : (Jvm.Cond.initialized y.cls).before a0 Z = true) (hf : rm.frames + 1 ≤ R.frames) (hl : W + (maxL + 11) + rm.locals ≤ R.locals) (hEL : EW Z a0 EL) (H : CHv Z EL vm0 h) :
    BackS l R p e below (s.setVm vm0) args y len W (fun A a => a = as' ∧ A.U.heap = h ∧ A.cells + rm.cells ≤ R.cells ∧ A.slots + rm.slots ≤ R.slots)
      (fun A _ v B => ∃ L, Q v B.U.heap L ∧ B.locs = A.locs ++ L ∧ B.cells = A.cells + rm.cells ∧ B.slots = A.slots + rm.slots) :=
  BackS.of_freeW (bytes := bytes) (maxL := maxL) (ret := ret) (E := fun _ _ o t L k n => k = rm.cells ∧ n = rm.slots ∧ ∃ v, o = .returned v ∧ Q v t.heap L) hM hf hl
    (fun m meth c A a Y hp => have hU : Z.Warmed39 A.U.vm := wtrans (s := s.setVm vm0) hZ Y.warmed
      ⟨by show (Cond.and _ .tt).before a A.U = true; rw [Cond.before_and, mv hU wc]; rfl, mv hU wc, mv hU wz, hp.2.2.1, hp.2.2.2⟩)
    (fun m meth c A a g mk Y hp => ⟨hp.1, wtrans (s := s.setVm vm0) hZ Y.warmed, hp.2.1, (CHv.at Y hZ hEL H).1⟩) (fun _ _ _ _ _ _ _ _ _ => trivial)
    (fun _ _ _ _ ⟨v, L, h1, h2, h3⟩ => ⟨L, _, _, h3, rfl, rfl, v, h1, h2⟩)
    (fun m meth c A a g mk v t L k n Y hp _ _ ⟨e1, e2, v', e3, e4⟩ => by cases e3; subst e1 e2; exact ⟨L, e4, rfl, rfl, rfl⟩)
/-- a contract of a body that may intern, needs the texts of EL, and says what is booked behind it -/
def ConR (EL : List (String × Nat)) (l : Launch) (Z : State) (y : MethodName) (bytes : ByteArray) (ml : Nat) (ret : Option FieldType) (rm : Room) (as' : Array Value) (h : Heap) (Q : Option Value → Heap → List Loc → Prop) : Prop :=
  MetFree l y (head1 [Jvm.Cond.code y bytes ml ret] rm) (fun a U => a = as' ∧ Z.Warmed39 U.vm ∧ U.heap = h ∧ CHv Z EL U.vm h) (fun _ _ _ _ _ => True) (fun _ U o U' => ∃ v L, o = .returned v ∧ Q v U'.heap L ∧ CHr Z EL U.vm U.heap U'.vm U'.heap ∧ ReturnedEndW U o U' L rm.cells rm.slots)
def KqH (Z : State) (EL : List (String × Nat)) (s : State) (rm : Room) (Q : Option Value → Heap → List Loc → Prop) (t : State) (o : Outcome) : Prop := ∃ v L, o = .returned v ∧ Q v t.heap L ∧ CHr Z EL s.vm s.heap t.vm t.heap ∧ ReturnedEndW s o t L rm.cells rm.slots
theorem ConR.intro {EL : List (String × Nat)} {y : MethodName} {rm : Room} {as' : Array Value} {Q : Option Value → Heap → List Loc → Prop} (hy : plainFor y = true) (ef : ∀ m, entryFrame m as' ml = mkF m 0 L []) (hz : Old Z n0 h)
    (body : ∀ p e s m below meth c T, s.heap = h → CHv Z EL s.vm h → St Z n0 p l e rm s s.vm m as' below meth c y.cls y.name bytes ml ret T [] 0 0 h → Go p e below (KqH Z EL s rm Q) (T.setTop (mkF m 0 L []))) : ConR EL l Z y bytes ml ret rm as' h Q := by
  refine MetFree.of_bodySF hy hisR ?_
  intro p e s m args below meth c s₁ Bd hml0 hP hK
  obtain ⟨rfl, hZ, hh, hH⟩ := hP
  have e0 : s₁.heap = h := by rw [← hh, Bd.state]; rfl
  obtain ⟨s₂, o, h1, h2, h3, h4⟩ := body p e s m below meth c s₁ hh hH ⟨Stand.of_body Bd, ⟨Bd.exec, Bd.bytes, hml0, findClass_of_methodNamed Bd.named, hZ, Bd.returns, Bd.notSynchronized, (name_of_methodNamed Bd.named Bd.method).1⟩, e0, Fr.nil n0, hz, 0, (State.WarmedH.refl s).since 0, Nat.zero_le _⟩
  exact ⟨s₂, o, castTop (ef m) h1, h2, h3, h4⟩
theorem backR {EL : List (String × Nat)} {y : MethodName} {maxL : Nat} {ret : Option FieldType} {rm : Room} {len W : Nat} {as' : Array Value} {Q : Option Value → Heap → List Loc → Prop} (hM : ConR EL l Z y bytes maxL ret rm as' h Q)
    (hZ : Z.Warmed39 vm0) (wc : (Jvm.Cond.code y bytes maxL ret).before a0 Z = true) (wz : (Jvm.Cond.initialized y.cls).before a0 Z = true) (hf : rm.frames + 1 ≤ R.frames) (hl : W + (maxL + 11) + rm.locals ≤ R.locals) (hEL : EW Z a0 EL) (H : CHv Z EL vm0 h) :
    BackS l R p e below (s.setVm vm0) args y len W (fun A a => a = as' ∧ A.U.heap = h ∧ A.cells + rm.cells ≤ R.cells ∧ A.slots + rm.slots ≤ R.slots)
      (fun A _ v B => ∃ L, Q v B.U.heap L ∧ B.locs = A.locs ++ L ∧ B.cells = A.cells + rm.cells ∧ B.slots = A.slots + rm.slots ∧ CHr Z EL vm0 h B.U.vm B.U.heap) := backOfSH hM hZ wc wz hf hl hEL H
open Jvm.Free.SB Jvm.Free.SBG in
/-- a booked String's value array: where it lies, and its class -/
theorem own_slq {W : State} {q : SQ} {u : Array UInt16} (F : SlB W q u) (hal : Z.vm.Alike W.vm) : Fld Z W.heap q.sa "java/lang/String" "value" "[B" (.ref q.sd) ∧ Exa Z W.heap q.sd "[B" := by
  obtain ⟨cS, ⟨⟨s1, s2, s3, ⟨cv, kv, iv, s4, s4'⟩, s5, s6, s7, s8, s9, s10, s11, s12⟩, hfS, hcS⟩, -, hB, -⟩ := F
  obtain ⟨kv', z4⟩ := ff_back (U := W) hal s4
  have hBZ : Z.vm.findClass "[B" = some q.SA.cls := by rw [← hal.findClass]; exact hB
  obtain ⟨kb, hkb, -⟩ := Vm.findClass_spec hBZ
  obtain ⟨kb', hkb', ekb⟩ := hal.2.2 _ _ hkb
  obtain ⟨hst, k9, hk9, comp, hkind9⟩ := s11
  refine ⟨⟨q.sC, cv, kv', iv, q.fSV, s1, z4, s6, s2, s3, by rw [← hal.assignable]; exact s4', s8⟩, ⟨q.SA, kb, s10, hBZ, hkb, ?_, fun ho => ?_⟩⟩
  · cases hv : q.SA.vm <;> first | rfl | exact absurd hv (hst _)
  · have ek9 : k9 = kb' := Option.some.inj (hk9.symm.trans hkb')
    rw [ek9, ekb, ho] at hkind9; cases hkind9
theorem own_nullSafe {EL : List (String × Nat)} {vm : Vm} {x : Addr} (hal : Z.vm.Alike vm) (E : Exa Z h x "java/lang/String") (F : Fld Z h x "java/lang/String" "value" "[B" .null) : Safe Z EL vm h x := fun B => by
  obtain ⟨p, -, u, a, -, q, -, G, e | e⟩ := B
  · subst e; have q1 := (own_slq (W := Wst Z vm h) G hal).1; cases Nar.own_fldu F q1
  · subst e; have q2 := (own_slq (W := Wst Z vm h) G hal).2; exact Exa.ne q2 E (by decide) rfl
theorem own_litE {EL : List (String × Nat)} {vm1 : Vm} {own text : String} {index : Nat} {a b : Addr} {cl : ClassId} (hZ : Z.Warmed39 vm1) (hf : vm1.findClass own = some cl) (w : (Jvm.Cond.stringLink own index text).before a0 Z = true) (H : CHv Z EL vm1 h) (hmem : (own, index) ∈ EL) (hL : Lit (s.setVm vm1) own index a) (Fv : Fld Z h a "java/lang/String" "value" "[B" (.ref b)) : Exa Z h b "[B" := by
  have w2 : (Jvm.Cond.stringLink own index text).before a0 (Wst Z vm1 h) = true := mvS (s := { Z with heap := h }) hZ w
  obtain ⟨k9, cf, i, units, hkx, hcf, hp, hu, -⟩ := Cond.stringLink_spec (s := Wst Z vm1 h) hf w2
  have hk' : vm1.classes[cl]? = some k9 := hkx
  have hres : k9.resolved[index]? = some (some (.string a)) := by
    have q : (s.setVm vm1).resolvedAt? own index = some (.string a) := hL
    simp [State.resolvedAt?, hf, hk'] at q
    cases hr : k9.resolved[index]? with
    | none => rw [hr] at q; cases q
    | some o => rw [hr] at q; cases o with
      | none => cases q
      | some r => simpa using q
  obtain ⟨q, e, F⟩ := SlB.of (H _ hmem units a ⟨cl, k9, cf, i, hf, hk', hcf, hp, hu, Or.inl hres⟩)
  subst e
  have q1 := own_slq (W := Wst Z vm1 h) F hZ.alike
  have e := Value.ref.inj (Nar.own_fldu Fv q1.1)
  subst e; exact q1.2
theorem g_ldcE (X : St Z n0 p l e R s vm0 m args below meth c own nm bytes ml ret T locs cells slots h) {EL : List (String × Nat)} {text : String} {i n : Nat} {zs : List Int32} (w : (Jvm.Cond.stringLink own i text).before a0 Z = true) (wS : ∀ a ∈ Bundle.stringAtoms, a.before a0 Z = true) (hEL : EW Z a0 EL) (hmem : (own, i) ∈ EL) (H : CHv Z EL vm0 h) (ht : (∀ c ∈ text.toList, c.toNat < 256) ∧ text.toList.map (fun c => Value.int (Jvm.Lit.byteI c.toNat.toUInt16)) = Nar.own_bs zs) (hzs : zs.length < 2 ^ 31) (hn : 4 * text.toList.length ≤ n) (hbig : n ≤ 536870912) (hc : cells + 2 ≤ R.cells) (hl : slots + (n + 4) ≤ R.slots) (hd : decode bytes pc = .ok (.ldc i, 2)) (hp : pc + 2 = pc')
    (k : ∀ T' h' a b, St Z n0 p l e R s T'.vm m args below meth c own nm bytes ml ret T' locs (cells + 2) (slots + (n + 4)) h' → Ext h h' → Nar.SS Z h' a b zs → Exa Z h' b "[B" → CHr Z EL vm0 h T'.vm h' → (∀ x, Safe Z EL T'.vm h' x → x ≠ a ∧ x ≠ b) → Go p e below K (T'.setTop (mkF m pc' L (.ref a :: S)))) : Go p e below K (T.setTop (mkF m pc L S)) := by
  obtain ⟨k0, hS, hk⟩ := X.2.2.2.2.2
  have q := own_clampN (Int32.toInt_ofNat_small hzs)
  obtain ⟨a, T', h', k1, b, kb, Y, e', E, Y2, hk1, Y3, Y4, Ea, Fc, Fv, A, la, lb, CR, LT, SF, st'⟩ := ldcCH X.X X.hx X.hZ X.own_ w wS X.eT hS hk hEL hmem H (z := Int32.ofNat zs.length) ht q.1 (by rw [q.2, Nar.own_bs_len]) (g := mkF m pc L S) rfl (X.d hd) hn hbig hc hl
  subst hp; exact (k T' h' a b ⟨Y, ⟨X.hx, X.by_, X.ml_, Y4, Y3, X.ret_, X.lk, X.nm_⟩, e', X.fr, X.old.ext E, k1, Y2, hk1⟩ E ⟨Ea, Fc, Fv, arv_arx A (by rw [Int32.toInt_ofNat_small hzs, Nar.own_bs_len])⟩ (own_litE Y3 Y4 w CR.1 hmem LT Fv) CR SF).of st'

theorem g_callSH (X : St Z n0 p l e R s vm0 m args below meth c own nm bytes ml ret T locs cells slots h) {i : Nat} {y : MethodName} {b' : ByteArray} {ml' : Nat} {ret' : Option FieldType} {cc ss : Nat} {EL : List (String × Nat)} {Q : Option Value → Heap → List Loc → Prop} {ps : List FieldType} {r : Option FieldType} {W : Nat} {S0 rest : List Value} (argsL : List Value) (w1 : (Jvm.Cond.methodLink own i y).before a0 Z = true) (w2 : (Jvm.Cond.static y).before a0 Z = true) (w0 : (Jvm.Cond.initialized y.cls).before a0 Z = true) (w4 : (Jvm.Cond.code y b' ml' ret').before a0 Z = true) (Bk : BackS l R p e below (s.setVm vm0) args y 3 W (fun A a' => a' = argsL.toArray ∧ A.U.heap = h ∧ A.cells + cc ≤ R.cells ∧ A.slots + ss ≤ R.slots) (fun A _ v B => ∃ L, Q v B.U.heap L ∧ B.locs = A.locs ++ L ∧ B.cells = A.cells + cc ∧ B.slots = A.slots + ss ∧ CHr Z EL vm0 h B.U.vm B.U.heap)) (hy : y.cls ≠ "java/lang/invoke/MethodHandle" ∧ y.cls ≠ "java/lang/invoke/VarHandle") (hc : cells + cc ≤ R.cells) (hs : slots + ss ≤ R.slots) (hL : L.size = ml) (hps : parseMethodDescriptor y.desc = some ⟨ps, r⟩) (hlen : argsL.length = ps.length) (hS : S0 = argsL.reverse ++ rest) (hW : (rest.map fun v => v.category).sum = W) (hd : decode bytes pc = .ok (.invokestatic i, 3)) (hp : pc + 3 = pc') (k : ∀ v T' h' L'', (Old Z n0 h' → Fr n0 L'' → St Z n0 p l e R s T'.vm m args below meth c own nm bytes ml ret T' (locs ++ L'') (cells + cc) (slots + ss) h') → Q v h' L'' → CHr Z EL vm0 h T'.vm h' → Go p e below K (T'.setTop (mkF m pc' L (v.toList ++ rest)))) : Go p e below K (T.setTop (mkF m pc L S0)) := by
  subst hS hp
  obtain ⟨v, _, ⟨T', L'', k', n'⟩, -, X', hS2, hgr, ⟨Lc, hQ, l', y', z', cr'⟩, st'⟩ := callSS X.X X.hx (y := y) X.own_ (mvT X.hZ w1) (mvT X.hZ w2) (mvT X.hZ w0) (mvT X.hZ w4) hy Bk (g := mkF m pc L (argsL.reverse ++ rest)) rfl (by rw [X.ml_]; exact hL) (argsL := argsL) (rest := rest) (lenOf hps hlen) rfl (by show 2 * 0 + _ ≤ _; rw [hW, Nat.mul_zero, Nat.zero_add]; exact Nat.le_refl _) (X.d hd) (fun _ _ => ⟨rfl, X.eT, hc, hs⟩)
  dsimp only [Pt.U, Pt.locs, Pt.cells, Pt.slots] at X' hS2 hgr l' y' z' st' hQ cr'
  subst l' y' z'
  exact (k v T' T'.heap Lc (fun hz hF => X.afterS X' hS2 (X.eT ▸ hgr) (X.fr.app hF) hz) hQ cr').of (fun _ q => st'.trans q)
theorem g_callIH (X : St Z n0 p l e R s vm0 m args below meth c own nm bytes ml ret T locs cells slots h) {i : Nat} {y : MethodName} {b' : ByteArray} {ml' : Nat} {ret' : Option FieldType} {cc ss : Nat} {EL : List (String × Nat)} {Q : Option Value → Heap → List Loc → Prop} {ps : List FieldType} {r : Option FieldType} {W : Nat} {S0 rest : List Value} (argsL : List Value) {a : Addr} (hinit : y.name = "<init>") (w1 : (Jvm.Cond.methodLink own i y).before a0 Z = true) (w2 : (Jvm.Cond.instanceMethod y).before a0 Z = true) (hr : ret' = none) (w4 : (Jvm.Cond.code y b' ml' ret').before a0 Z = true) (Bk : BackS l R p e below (s.setVm vm0) args y 3 W (fun A a' => a' = (.ref a :: argsL).toArray ∧ A.U.heap = h ∧ A.cells + cc ≤ R.cells ∧ A.slots + ss ≤ R.slots) (fun A _ v B => ∃ L, Q v B.U.heap L ∧ B.locs = A.locs ++ L ∧ B.cells = A.cells + cc ∧ B.slots = A.slots + ss ∧ CHr Z EL vm0 h B.U.vm B.U.heap)) (hy : y.cls ≠ "java/lang/invoke/MethodHandle" ∧ y.cls ≠ "java/lang/invoke/VarHandle") (hc : cells + cc ≤ R.cells) (hs : slots + ss ≤ R.slots) (hL : L.size = ml) (hps : parseMethodDescriptor y.desc = some ⟨ps, r⟩) (hlen : argsL.length = ps.length) (hS : S0 = argsL.reverse ++ .ref a :: rest) (hW : (rest.map fun v => v.category).sum = W) (hd : decode bytes pc = .ok (.invokespecial i, 3)) (hp : pc + 3 = pc') (k : ∀ v T' h' L'', (Old Z n0 h' → Fr n0 L'' → St Z n0 p l e R s T'.vm m args below meth c own nm bytes ml ret T' (locs ++ L'') (cells + cc) (slots + ss) h') → Q v h' L'' → CHr Z EL vm0 h T'.vm h' → Go p e below K (T'.setTop (mkF m pc' L (v.toList ++ rest)))) : Go p e below K (T.setTop (mkF m pc L S0)) := by
  subst hS hp
  subst hr
  obtain ⟨v, _, ⟨T', L'', k', n'⟩, -, X', hS2, hgr, ⟨Lc, hQ, l', y', z', cr'⟩, st'⟩ := X.X.specialBackS X.hx (y := y) hinit X.own_ (mvT X.hZ w1) (mvT X.hZ w2) (mvT X.hZ w4) hy Bk (g := mkF m pc L (argsL.reverse ++ .ref a :: rest)) rfl (by rw [X.ml_]; exact hL) (Steps.refl _) (a := a) (argsL := argsL) (rest := rest) (lenOf hps hlen) rfl (by show 2 * 0 + _ ≤ _; rw [hW, Nat.mul_zero, Nat.zero_add]; exact Nat.le_refl _) (X.d hd) (fun _ _ => ⟨rfl, X.eT, hc, hs⟩)
  dsimp only [Pt.U, Pt.locs, Pt.cells, Pt.slots] at X' hS2 hgr l' y' z' st' hQ cr'
  subst l' y' z'
  exact (k v T' T'.heap Lc (fun hz hF => X.afterS X' hS2 (X.eT ▸ hgr) (X.fr.app hF) hz) hQ cr').of (fun _ q => st'.trans q)
theorem g_retAH (X : St Z n0 p l e R s vm0 m args below meth c own nm bytes ml ret T locs cells slots h) {rm : Room} {EL : List (String × Nat)} {Q : Option Value → Heap → List Loc → Prop} {z : Value} {t : FieldType} (hz : z.isRef = true) (ht : t.isReference = true) (hr : ret = some t) (hd : decode bytes pc = .ok (.areturn, 1)) (hEL : EW Z a0 EL) {h1 : Heap} (hs1 : s.heap = h1) (CR : CHr Z EL s.vm h1 vm0 h) (hc : cells ≤ rm.cells) (hs : slots ≤ rm.slots) (q : Q (some z) h locs) : Go p e below (KqH Z EL s rm Q) (T.setTop (mkF m pc L (z :: S))) := by
  obtain ⟨k0, hS, hk⟩ := X.2.2.2.2.2
  obtain ⟨fs, hl, hrun, hended, q1, q2, q3, hsame⟩ := X.X.leaveW hS (X.eT.symm ▸ hk) (v := (some z)) (fun h => by rw [X.ret_, hr] at h; cases h) X.lk
  exact ⟨_, _, retOut X.X X.hx (t := t) (X.ret_.trans hr) (by cases z <;> cases t <;> simp [Value.isRef, FieldType.isReference, narrow] at hz ht ⊢) (Or.inr (Or.inr (Or.inr (Or.inr ⟨rfl, ht, hz⟩)))) (X.d hd) hl, hrun, hended, _, _, rfl, (show Q _ T.heap _ by rw [X.eT]; exact q), (show CHr Z EL s.vm s.heap T.vm T.heap by rw [hs1, X.eT]; exact CR.trans (CHv.at X.X X.hZ hEL CR.1)), q1, q2, q3, hsame.mono hc hs⟩
theorem g_retH (X : St Z n0 p l e R s vm0 m args below meth c own nm bytes ml ret T locs cells slots h) {rm : Room} {EL : List (String × Nat)} {Q : Option Value → Heap → List Loc → Prop} (hr : ret = none) (hd : decode bytes pc = .ok (.return_, 1)) (hEL : EW Z a0 EL) {h1 : Heap} (hs1 : s.heap = h1) (CR : CHr Z EL s.vm h1 vm0 h) (hc : cells ≤ rm.cells) (hs : slots ≤ rm.slots) (q : Q none h locs) : Go p e below (KqH Z EL s rm Q) (T.setTop (mkF m pc L [])) := by
  obtain ⟨k0, hS, hk⟩ := X.2.2.2.2.2
  obtain ⟨fs, hl, hrun, hended, q1, q2, q3, hsame⟩ := X.X.leaveW hS (X.eT.symm ▸ hk) (v := none) (fun _ => rfl) X.lk
  exact ⟨_, _, X.X.returnOut X.hx (X.ret_.trans hr) (X.d hd) hl, hrun, hended, _, _, rfl, (show Q _ T.heap _ by rw [X.eT]; exact q), (show CHr Z EL s.vm s.heap T.vm T.heap by rw [hs1, X.eT]; exact CR.trans (CHv.at X.X X.hZ hEL CR.1)), q1, q2, q3, hsame.mono hc hs⟩
theorem own_ew (hw : ∀ d ∈ tables_1, d.before a0 Z = true) : EW Z a0 consts_1 := (EW.cons (hw _ m22) (by decide +kernel) EW.nil)
theorem own_wS (hw : ∀ d ∈ tables_1, d.before a0 Z = true) : ∀ a ∈ Bundle.stringAtoms, a.before a0 Z = true := fun d hd => hw d ((by decide +kernel : ∀ d ∈ Bundle.stringAtoms, d ∈ tables_1) d hd)
theorem own_z0 {f : Int32} (h : lenOf_ f = 0) : zsOf f = [] := by unfold zsOf; rw [if_pos h]
theorem own_z1 {f : Int32} (h : lenOf_ f = 1) : zsOf f = [i8 (ch0 f)] := by unfold zsOf; rw [if_neg (by rw [h]; decide), if_pos h]
theorem own_z2 {f : Int32} (h : lenOf_ f = 2) : zsOf f = [i8 (ch0 f), i8 (ch1 f)] := by unfold zsOf; rw [if_neg (by rw [h]; decide), if_neg (by rw [h]; decide)]
theorem own_nc0 (f : Int32) : nar .char (ch0 f) = ch0 f := i2c_mask _
theorem own_nc1 (f : Int32) : nar .char (ch1 f) = ch1 f := i2c_mask _
end Own2
theorem d4_0 : decode jdk_42_method_149_code 0 = .ok (.aload_n 0, 1) := by decide +kernel
theorem d4_1 : decode jdk_42_method_149_code 1 = .ok (.invokespecial 1, 3) := by decide +kernel
theorem d4_4 : decode jdk_42_method_149_code 4 = .ok (.iload_n 3, 1) := by decide +kernel
theorem d4_5 : decode jdk_42_method_149_code 5 = .ok (.ifCond .ne 22, 3) := by decide +kernel
theorem d4_8 : decode jdk_42_method_149_code 8 = .ok (.aload_n 0, 1) := by decide +kernel
theorem d4_9 : decode jdk_42_method_149_code 9 = .ok (.ldc 7, 2) := by decide +kernel
theorem d4_11 : decode jdk_42_method_149_code 11 = .ok (.getfield 9, 3) := by decide +kernel
theorem d4_14 : decode jdk_42_method_149_code 14 = .ok (.putfield 9, 3) := by decide +kernel
theorem d4_17 : decode jdk_42_method_149_code 17 = .ok (.aload_n 0, 1) := by decide +kernel
theorem d4_18 : decode jdk_42_method_149_code 18 = .ok (.ldc 7, 2) := by decide +kernel
theorem d4_20 : decode jdk_42_method_149_code 20 = .ok (.getfield 15, 3) := by decide +kernel
theorem d4_23 : decode jdk_42_method_149_code 23 = .ok (.putfield 15, 3) := by decide +kernel
theorem d4_26 : decode jdk_42_method_149_code 26 = .ok (.return_, 1) := by decide +kernel
theorem ef_4z (m : MethodId) (a : Addr) (c' : Addr) : entryFrame m #[(.ref a), (.ref c'), (.int (0 : Int32)), (.int (0 : Int32)), .null] 6 = mkF m 0 #[.val (.ref a), .val (.ref c'), .val (.int (0 : Int32)), .val (.int (0 : Int32)), .val .null, .unset] [] := by first | (simp [entryFrame, mkF, argsToLocals, Value.category]; done) | rfl
def R4z : Room := ({ frames := 1, cells := 4, slots := 8, locals := 12 } : Room)
set_option maxRecDepth 65536 in
set_option maxHeartbeats 40000000 in
theorem rm4z (l : Launch) (Z : State) (a0 : Array Value) (hw : ∀ d ∈ tables_1, d.before a0 Z = true) (a : Addr) (c' : Addr) (h0 : Heap) (n0 : Nat) (hO : Old Z n0 h0) (E_a : Exa Z h0 a "java/lang/String") (g_a : n0 ≤ a) (Fv_a : Fld Z h0 a "java/lang/String" "value" "[B" .null) (Fc_a : Fld Z h0 a "java/lang/String" "coder" "B" (.int (0 : Int32))) :
    ConR consts_1 l Z (⟨"java/lang/String", "<init>", "([CIILjava/lang/Void;)V"⟩ : MethodName) jdk_42_method_149_code 6 none R4z #[(.ref a), (.ref c'), (.int (0 : Int32)), (.int (0 : Int32)), .null] h0 (fun r h L => ∃ u : Addr, r = none ∧ Fr n0 L ∧ Keep h0 h [a] ∧ Nar.SS Z h a u [] ∧ Exa Z h u "[B") := by
  refine ConR.intro (n0 := n0) (plainFor_of_name pn_0) (fun m => ef_4z m a c') hO ?_
  intro p e s m below meth cc T hs0 H0 X0
  have CR0 := CHr.refl H0
  have Sa0 : Safe Z consts_1 s.vm h0 a := own_nullSafe X0.hZ.alike E_a Fv_a
  refine g_aloadN X0 d4_0 (pc' := 1) rfl rfl rfl ?_
  refine g_initO X0 (hw _ m19) (hw _ m20) (hw _ m21) rfl d4_1 (pc' := 4) rfl (by decide) (W := 0) rfl (by decide) (fun T367 X367 => ?_)
  refine g_iloadN X367 d4_4 (pc' := 5) rfl rfl ?_
  refine g_if_ne_f X367 d4_5 (pc' := 8) rfl (by decide) ?_
  refine g_aloadN X367 d4_8 (pc' := 9) rfl rfl rfl ?_
  refine g_ldcE X367 (n := 0) (zs := ([] : List Int32)) (hw _ m22) (own_wS hw) (own_ew hw) (by decide) CR0.1 ⟨(by decide +kernel), (by first | rfl | decide +kernel)⟩ (by decide) (by decide +kernel) (by decide) (by decide) (by decide) d4_9 (pc' := 11) rfl (fun T368 h368 a368 u368 X368 E368 HS368 EE368 R368 SF368 => ?_)
  have CR368 := CR0.trans R368
  have Sa368 := R368.safe E_a.lt Sa0
  have na368 := SF368 a Sa368
  refine g_getF X368 (host := "") (Or.inl (hw _ m28)) Via.refl HS368.2.2.1 d4_11 (pc' := 14) rfl (fun T369 X369 => ?_)
  have f370 := (Fv_a.ext E368)
  have f371 := (E_a.ext E368)
  refine g_putF X369 (host := "") (Or.inl (hw _ m28)) Via.refl f370 f371 (Or.inr ⟨(hw _ m24), rfl, rfl⟩) (hw _ m9) (ty := (.array .byte)) (by decide) rfl rfl g_a d4_14 (pc' := 17) rfl (fun T372 h372 X372 W372 => ?_)
  have F372 := f370.same W372
  have CR373 := CR368.trans (CHr.wr W372 Sa368 CR368.1)
  have Sa373 := Safe.wr W372 Sa368 CR368.1 Sa368
  refine g_aloadN X372 d4_17 (pc' := 18) rfl rfl rfl ?_
  have f375 := (f371.wr W372)
  refine g_ldcE X372 (n := 0) (zs := ([] : List Int32)) (hw _ m22) (own_wS hw) (own_ew hw) (by decide) CR373.1 ⟨(by decide +kernel), (by first | rfl | decide +kernel)⟩ (by decide) (by decide +kernel) (by decide) (by decide) (by decide) d4_18 (pc' := 20) rfl (fun T374 h374 a374 u374 X374 E374 HS374 EE374 R374 SF374 => ?_)
  have CR374 := CR373.trans R374
  have Sa374 := R374.safe f375.lt Sa373
  have na374 := SF374 a Sa374
  refine g_getF X374 (host := "") (Or.inl (hw _ m29)) Via.refl HS374.2.1 d4_20 (pc' := 23) rfl (fun T376 X376 => ?_)
  have f377 := (((Fc_a.ext E368).other W372 (Or.inr (slot_ne (Or.inr (hw _ m25)) (Or.inr (hw _ m24)) (by decide) (t := .byte) (t' := (.array .byte)) (by decide) (by decide)))).ext E374)
  have f378 := (f375.ext E374)
  refine g_putFN X376 (hw _ m29) Via.refl f377 f378 (Or.inr ⟨(hw _ m25), rfl, rfl⟩) (hw _ m9) (ty := .byte) (v' := (.int (nar .byte (0 : Int32)))) (by decide) rfl (fits_nar_byte _) g_a d4_23 (pc' := 26) rfl (fun T379 h379 X379 W379 => ?_)
  have F379 := f377.same W379
  have CR380 := CR374.trans (CHr.wr W379 Sa374 CR374.1)
  have Sa380 := Safe.wr W379 Sa374 CR374.1 Sa374
  have k381 := (Keep.refl h0 [a]).ext E368
  have k382 := k381.wr W372 (Or.inl (by simp))
  have k383 := k382.ext E374
  have k384 := k383.wr W379 (Or.inl (by simp))
  rw [Nar.own_nb0] at F379
  have f385 := (f378.wr W379)
  have f386 := ((F372.ext E374).other W379 (Or.inr (slot_ne (Or.inr (hw _ m24)) (Or.inr (hw _ m25)) (by decide) (t := (.array .byte)) (t' := .byte) (by decide) (by decide))))
  have f387 := (((HS368.2.2.2.other W372 (Ne.symm na368.2)).ext E374).other W379 (Ne.symm na368.2))
  have f388 := (((EE368.wr W372).ext E374).wr W379)
  exact g_retH X379 rfl d4_26 (own_ew hw) hs0 CR380 (by decide) (by decide) ⟨u368, rfl, X379.fr, k384, ⟨f385, F379, f386, f387⟩, f388⟩

theorem d3_0 : decode jdk_42_method_3_code 0 = .ok (.aload_n 0, 1) := by decide +kernel
theorem d3_1 : decode jdk_42_method_3_code 1 = .ok (.aload_n 1, 1) := by decide +kernel
theorem d3_2 : decode jdk_42_method_3_code 2 = .ok (.iconst 0, 1) := by decide +kernel
theorem d3_3 : decode jdk_42_method_3_code 3 = .ok (.aload_n 1, 1) := by decide +kernel
theorem d3_4 : decode jdk_42_method_3_code 4 = .ok (.arraylength, 1) := by decide +kernel
theorem d3_5 : decode jdk_42_method_3_code 5 = .ok (.aconst_null, 1) := by decide +kernel
theorem d3_6 : decode jdk_42_method_3_code 6 = .ok (.invokespecial 27, 3) := by decide +kernel
theorem d3_9 : decode jdk_42_method_3_code 9 = .ok (.return_, 1) := by decide +kernel
theorem ef_3z (m : MethodId) (a : Addr) (c' : Addr) : entryFrame m #[(.ref a), (.ref c')] 2 = mkF m 0 #[.val (.ref a), .val (.ref c')] [] := by first | (simp [entryFrame, mkF, argsToLocals, Value.category]; done) | rfl
def R3z : Room := ({ frames := 2, cells := 4, slots := 8, locals := 29 } : Room)
set_option maxRecDepth 65536 in
set_option maxHeartbeats 40000000 in
theorem rm3z (l : Launch) (Z : State) (a0 : Array Value) (hw : ∀ d ∈ tables_1, d.before a0 Z = true) (a : Addr) (c' : Addr) (h0 : Heap) (n0 : Nat) (hO : Old Z n0 h0) (E_a : Exa Z h0 a "java/lang/String") (g_a : n0 ≤ a) (Fv_a : Fld Z h0 a "java/lang/String" "value" "[B" .null) (Fc_a : Fld Z h0 a "java/lang/String" "coder" "B" (.int (0 : Int32))) (A_c : Arx Z h0 c' .char []) :
    ConR consts_1 l Z (⟨"java/lang/String", "<init>", "([C)V"⟩ : MethodName) jdk_42_method_3_code 2 none R3z #[(.ref a), (.ref c')] h0 (fun r h L => ∃ u : Addr, r = none ∧ Fr n0 L ∧ Keep h0 h [a] ∧ Nar.SS Z h a u [] ∧ Exa Z h u "[B") := by
  refine ConR.intro (n0 := n0) (plainFor_of_name pn_0) (fun m => ef_3z m a c') hO ?_
  intro p e s m below meth cc T hs0 H0 X0
  have CR0 := CHr.refl H0
  refine g_aloadN X0 d3_0 (pc' := 1) rfl rfl rfl ?_
  refine g_aloadN X0 d3_1 (pc' := 2) rfl rfl rfl ?_
  refine g_iconst X0 d3_2 (pc' := 3) rfl (v := (0 : Int32)) rfl ?_
  refine g_aloadN X0 d3_3 (pc' := 4) rfl rfl rfl ?_
  refine g_arraylength X0 (n := (0 : Int32)) A_c rfl d3_4 (pc' := 5) rfl ?_
  refine g_aconst_null X0 d3_5 (pc' := 6) rfl ?_
  refine g_callIH X0 (y := (⟨"java/lang/String", "<init>", "([CIILjava/lang/Void;)V"⟩ : MethodName)) (a := a) [(.ref c'), (.int (0 : Int32)), (.int (0 : Int32)), .null] rfl (hw _ m15) (hw _ m16) rfl (hw _ m18) (backR (W := 0) (rm4z l Z a0 hw a c' h0 n0 X0.old E_a g_a Fv_a Fc_a) X0.hZ (hw _ m18) (hw _ m10) (by decide) (by decide) (own_ew hw) CR0.1) (cc := 4) (ss := 8) (Q := (fun r h' L => ∃ u : Addr, r = none ∧ Fr n0 L ∧ Keep h0 h' [a] ∧ Nar.SS Z h' a u [] ∧ Exa Z h' u "[B")) (by decide) (by decide) (by decide) rfl pd_15 rfl (rest := []) rfl (W := 0) rfl d3_6 (pc' := 9) rfl ?_
  rintro _ T389 h389 L389 Y389 ⟨u389, rfl, N389, K389, H389, HE389⟩ CR389
  have X389 := Y389 (X0.old.keep K389 (allS g_a all0)) N389
  show Go p e below _ (State.setTop _ (mkF m 9 #[.val (.ref a), .val (.ref c')] []))
  exact g_retH X389 rfl d3_9 (own_ew hw) hs0 CR389 (by decide) (by decide) ⟨u389, rfl, X389.fr, K389, H389, HE389⟩

theorem d2_0 : decode method_3_code 0 = .ok (.iload_n 0, 1) := by decide +kernel
theorem d2_1 : decode method_3_code 1 = .ok (.iconst 3, 1) := by decide +kernel
theorem d2_2 : decode method_3_code 2 = .ok (.iand, 1) := by decide +kernel
theorem d2_3 : decode method_3_code 3 = .ok (.iconst 3, 1) := by decide +kernel
theorem d2_4 : decode method_3_code 4 = .ok (.irem, 1) := by decide +kernel
theorem d2_5 : decode method_3_code 5 = .ok (.istore_n 1, 1) := by decide +kernel
theorem d2_6 : decode method_3_code 6 = .ok (.iload_n 0, 1) := by decide +kernel
theorem d2_7 : decode method_3_code 7 = .ok (.iconst 2, 1) := by decide +kernel
theorem d2_8 : decode method_3_code 8 = .ok (.iushr, 1) := by decide +kernel
theorem d2_9 : decode method_3_code 9 = .ok (.sipush 255, 3) := by decide +kernel
theorem d2_12 : decode method_3_code 12 = .ok (.iand, 1) := by decide +kernel
theorem d2_13 : decode method_3_code 13 = .ok (.i2c, 1) := by decide +kernel
theorem d2_14 : decode method_3_code 14 = .ok (.istore_n 2, 1) := by decide +kernel
theorem d2_15 : decode method_3_code 15 = .ok (.iload_n 0, 1) := by decide +kernel
theorem d2_16 : decode method_3_code 16 = .ok (.bipush 10, 2) := by decide +kernel
theorem d2_18 : decode method_3_code 18 = .ok (.iushr, 1) := by decide +kernel
theorem d2_19 : decode method_3_code 19 = .ok (.sipush 255, 3) := by decide +kernel
theorem d2_22 : decode method_3_code 22 = .ok (.iand, 1) := by decide +kernel
theorem d2_23 : decode method_3_code 23 = .ok (.i2c, 1) := by decide +kernel
theorem d2_24 : decode method_3_code 24 = .ok (.istore_n 3, 1) := by decide +kernel
theorem d2_25 : decode method_3_code 25 = .ok (.iload_n 1, 1) := by decide +kernel
theorem d2_26 : decode method_3_code 26 = .ok (.ifCond .ne 14, 3) := by decide +kernel
theorem d2_29 : decode method_3_code 29 = .ok (.new 9, 3) := by decide +kernel
theorem d2_32 : decode method_3_code 32 = .ok (.dup, 1) := by decide +kernel
theorem d2_33 : decode method_3_code 33 = .ok (.iconst 0, 1) := by decide +kernel
theorem d2_34 : decode method_3_code 34 = .ok (.newarray .char, 2) := by decide +kernel
theorem d2_36 : decode method_3_code 36 = .ok (.invokespecial 11, 3) := by decide +kernel
theorem d2_39 : decode method_3_code 39 = .ok (.areturn, 1) := by decide +kernel
theorem d2_40 : decode method_3_code 40 = .ok (.iload_n 1, 1) := by decide +kernel
theorem d2_41 : decode method_3_code 41 = .ok (.iconst 1, 1) := by decide +kernel
theorem d2_42 : decode method_3_code 42 = .ok (.if_icmp .ne 8, 3) := by decide +kernel
theorem d2_45 : decode method_3_code 45 = .ok (.iload_n 2, 1) := by decide +kernel
theorem d2_46 : decode method_3_code 46 = .ok (.invokestatic 14, 3) := by decide +kernel
theorem d2_49 : decode method_3_code 49 = .ok (.areturn, 1) := by decide +kernel
theorem d2_50 : decode method_3_code 50 = .ok (.new 9, 3) := by decide +kernel
theorem d2_53 : decode method_3_code 53 = .ok (.dup, 1) := by decide +kernel
theorem d2_54 : decode method_3_code 54 = .ok (.iconst 2, 1) := by decide +kernel
theorem d2_55 : decode method_3_code 55 = .ok (.newarray .char, 2) := by decide +kernel
theorem d2_57 : decode method_3_code 57 = .ok (.dup, 1) := by decide +kernel
theorem d2_58 : decode method_3_code 58 = .ok (.iconst 0, 1) := by decide +kernel
theorem d2_59 : decode method_3_code 59 = .ok (.iload_n 2, 1) := by decide +kernel
theorem d2_60 : decode method_3_code 60 = .ok (.castore, 1) := by decide +kernel
theorem d2_61 : decode method_3_code 61 = .ok (.dup, 1) := by decide +kernel
theorem d2_62 : decode method_3_code 62 = .ok (.iconst 1, 1) := by decide +kernel
theorem d2_63 : decode method_3_code 63 = .ok (.iload_n 3, 1) := by decide +kernel
theorem d2_64 : decode method_3_code 64 = .ok (.castore, 1) := by decide +kernel
theorem d2_65 : decode method_3_code 65 = .ok (.invokespecial 11, 3) := by decide +kernel
theorem d2_68 : decode method_3_code 68 = .ok (.areturn, 1) := by decide +kernel
theorem ef_2 (m : MethodId) (f : Int32) : entryFrame m #[(.int f)] 4 = mkF m 0 #[.val (.int f), .unset, .unset, .unset] [] := by first | (simp [entryFrame, mkF, argsToLocals, Value.category]; done) | rfl
def R2 : Room := ({ frames := 4, cells := 6, slots := 12, locals := 66 } : Room)
set_option maxRecDepth 65536 in
set_option maxHeartbeats 40000000 in
theorem rm2 (l : Launch) (Z : State) (a0 : Array Value) (hw : ∀ d ∈ tables_1, d.before a0 Z = true) (f : Int32) (h0 : Heap) (n0 : Nat) (hO : Old Z n0 h0) (G1 : Int32) (O2 : Sta Z Z.heap "java/lang/String" "COMPACT_STRINGS" "Z" (.int G1)) (P5 : ¬ G1 = (0 : Int32)) :
    ConR consts_1 l Z (⟨"com/example/indexloom/indexloom/TextsFindPinLaw", "str", "(I)Ljava/lang/String;"⟩ : MethodName) method_3_code 4 (some (.object "java/lang/String")) R2 #[(.int f)] h0 (fun r h L => ∃ a' u : Addr, r = some (.ref a') ∧ Fr n0 L ∧ Keep h0 h [] ∧ Nar.SS Z h a' u (zsOf f) ∧ Exa Z h u "[B") := by
  refine ConR.intro (n0 := n0) (plainFor_of_name pn_5) (fun m => ef_2 m f) hO ?_
  intro p e s m below meth cc T hs0 H0 X0
  refine g_iloadN X0 d2_0 (pc' := 1) rfl rfl ?_
  refine g_iconst X0 d2_1 (pc' := 2) rfl (v := (3 : Int32)) rfl ?_
  refine g_iand X0 d2_2 (pc' := 3) rfl ?_
  refine g_iconst X0 d2_3 (pc' := 4) rfl (v := (3 : Int32)) rfl ?_
  refine g_irem X0 d2_4 (pc' := 5) rfl (by decide) ?_
  have h3 := own_three f
  rcases h3 with q | q | q
  · rw [show (f &&& (3 : Int32)) % (3 : Int32) = (0 : Int32) from q]
    refine g_istoreN X0 d2_5 (pc' := 6) rfl (L' := #[.val (.int f), .val (.int (0 : Int32)), .unset, .unset]) rfl ?_
    refine g_iloadN X0 d2_6 (pc' := 7) rfl rfl ?_
    refine g_iconst X0 d2_7 (pc' := 8) rfl (v := (2 : Int32)) rfl ?_
    refine g_iushr X0 d2_8 (pc' := 9) rfl ?_
    refine g_sipush X0 d2_9 (pc' := 12) rfl (v := (255 : Int32)) rfl ?_
    refine g_iand X0 d2_12 (pc' := 13) rfl ?_
    refine g_i2c X0 d2_13 (pc' := 14) rfl ?_
    rw [show ((((f.toUInt32 >>> ((2 : Int32) &&& 31).toUInt32).toInt32) &&& (255 : Int32)).toUInt32.toUInt16.toUInt32.toInt32) = ch0 f from i2c_mask _]
    refine g_istoreN X0 d2_14 (pc' := 15) rfl (L' := #[.val (.int f), .val (.int (0 : Int32)), .val (.int (ch0 f)), .unset]) rfl ?_
    refine g_iloadN X0 d2_15 (pc' := 16) rfl rfl ?_
    refine g_bipush X0 d2_16 (pc' := 18) rfl (v := (10 : Int32)) rfl ?_
    refine g_iushr X0 d2_18 (pc' := 19) rfl ?_
    refine g_sipush X0 d2_19 (pc' := 22) rfl (v := (255 : Int32)) rfl ?_
    refine g_iand X0 d2_22 (pc' := 23) rfl ?_
    refine g_i2c X0 d2_23 (pc' := 24) rfl ?_
    rw [show ((((f.toUInt32 >>> ((10 : Int32) &&& 31).toUInt32).toInt32) &&& (255 : Int32)).toUInt32.toUInt16.toUInt32.toInt32) = ch1 f from i2c_mask _]
    refine g_istoreN X0 d2_24 (pc' := 25) rfl (L' := #[.val (.int f), .val (.int (0 : Int32)), .val (.int (ch0 f)), .val (.int (ch1 f))]) rfl ?_
    refine g_iloadN X0 d2_25 (pc' := 26) rfl rfl ?_
    refine g_if_ne_f X0 d2_26 (pc' := 29) rfl (by decide) ?_
    refine g_new X0 (hw _ m8) (hw _ m9) (hw _ m10) d2_29 (pc' := 32) rfl (by decide) (by decide) (fun T390 h390 b390 X390 g390 E390 A390 D390 l390 => ?_)
    have F390_value : Fld Z h390 b390 "java/lang/String" "value" "[B" .null := D390 (Or.inr (hw _ m24)) (ty := (.array .byte)) (by decide)
    have F390_coder : Fld Z h390 b390 "java/lang/String" "coder" "B" (.int (0 : Int32)) := D390 (Or.inr (hw _ m25)) (ty := .byte) (by decide)
    refine g_dup X390 d2_32 (pc' := 33) rfl rfl ?_
    refine g_iconst X390 d2_33 (pc' := 34) rfl (v := (0 : Int32)) rfl ?_
    refine g_newarray X390 (aty := .char) (cap := 0) (vs := []) (hw _ m11) (by decide) (by decide) rfl (by decide) d2_34 (pc' := 36) rfl (by decide) (by decide) (fun T391 h391 b391 X391 g391 E391 A391 l391 => ?_)
    have ne392 : b390 ≠ b391 := ne_new A390.lt g391
    have k393 := (Keep.refl h0 []).ext E390
    have k394 := k393.ext E391
    have CR395 := CHr.keep k394 (fun x hx => by cases hx) H0
    have f396 := (A390.ext E391)
    have f397 := (F390_value.ext E391)
    have f398 := (F390_coder.ext E391)
    refine g_callIH X391 (y := (⟨"java/lang/String", "<init>", "([C)V"⟩ : MethodName)) (a := b390) [(.ref b391)] rfl (hw _ m12) (hw _ m13) rfl (hw _ m14) (backR (W := 1) (rm3z l Z a0 hw b390 b391 h391 n0 X391.old f396 l390 f397 f398 A391) X391.hZ (hw _ m14) (hw _ m10) (by decide) (by decide) (own_ew hw) CR395.1) (cc := 4) (ss := 8) (Q := (fun r h' L => ∃ u : Addr, r = none ∧ Fr n0 L ∧ Keep h391 h' [b390] ∧ Nar.SS Z h' b390 u [] ∧ Exa Z h' u "[B")) (by decide) (by decide) (by decide) rfl pd_21 rfl (rest := [(.ref b390)]) rfl (W := 1) rfl d2_36 (pc' := 39) rfl ?_
    rintro _ T399 h399 L399 Y399 ⟨u399, rfl, N399, K399, H399, HE399⟩ CR399
    have X399 := Y399 (X391.old.keep K399 (allS l390 all0)) N399
    have CRt399 := CR395.trans CR399
    show Go p e below _ (State.setTop _ (mkF m 39 #[.val (.int f), .val (.int (0 : Int32)), .val (.int (ch0 f)), .val (.int (ch1 f))] [(.ref b390)]))
    have k400 := (Keep.refl h0 []).ext E390
    have k401 := k400.ext E391
    have k402 := k401.trans K399 (allS (Or.inr (Nat.le_trans (Keep.refl h0 []).1 (Nat.le_of_eq g390.symm))) all0)
    exact g_retAH X399 rfl rfl rfl d2_39 (own_ew hw) hs0 CRt399 (by decide) (by decide) ⟨b390, u399, rfl, X399.fr, k402, (by rw [own_z0 q]; exact H399), HE399⟩
  · rw [show (f &&& (3 : Int32)) % (3 : Int32) = (1 : Int32) from q]
    refine g_istoreN X0 d2_5 (pc' := 6) rfl (L' := #[.val (.int f), .val (.int (1 : Int32)), .unset, .unset]) rfl ?_
    refine g_iloadN X0 d2_6 (pc' := 7) rfl rfl ?_
    refine g_iconst X0 d2_7 (pc' := 8) rfl (v := (2 : Int32)) rfl ?_
    refine g_iushr X0 d2_8 (pc' := 9) rfl ?_
    refine g_sipush X0 d2_9 (pc' := 12) rfl (v := (255 : Int32)) rfl ?_
    refine g_iand X0 d2_12 (pc' := 13) rfl ?_
    refine g_i2c X0 d2_13 (pc' := 14) rfl ?_
    rw [show ((((f.toUInt32 >>> ((2 : Int32) &&& 31).toUInt32).toInt32) &&& (255 : Int32)).toUInt32.toUInt16.toUInt32.toInt32) = ch0 f from i2c_mask _]
    refine g_istoreN X0 d2_14 (pc' := 15) rfl (L' := #[.val (.int f), .val (.int (1 : Int32)), .val (.int (ch0 f)), .unset]) rfl ?_
    refine g_iloadN X0 d2_15 (pc' := 16) rfl rfl ?_
    refine g_bipush X0 d2_16 (pc' := 18) rfl (v := (10 : Int32)) rfl ?_
    refine g_iushr X0 d2_18 (pc' := 19) rfl ?_
    refine g_sipush X0 d2_19 (pc' := 22) rfl (v := (255 : Int32)) rfl ?_
    refine g_iand X0 d2_22 (pc' := 23) rfl ?_
    refine g_i2c X0 d2_23 (pc' := 24) rfl ?_
    rw [show ((((f.toUInt32 >>> ((10 : Int32) &&& 31).toUInt32).toInt32) &&& (255 : Int32)).toUInt32.toUInt16.toUInt32.toInt32) = ch1 f from i2c_mask _]
    refine g_istoreN X0 d2_24 (pc' := 25) rfl (L' := #[.val (.int f), .val (.int (1 : Int32)), .val (.int (ch0 f)), .val (.int (ch1 f))]) rfl ?_
    refine g_iloadN X0 d2_25 (pc' := 26) rfl rfl ?_
    refine g_if_ne_t X0 d2_26 (pt := 40) (by decide) (by decide) ?_
    refine g_iloadN X0 d2_40 (pc' := 41) rfl rfl ?_
    refine g_iconst X0 d2_41 (pc' := 42) rfl (v := (1 : Int32)) rfl ?_
    refine g_icmp_ne_f X0 d2_42 (pc' := 45) rfl (by decide) ?_
    refine g_iloadN X0 d2_45 (pc' := 46) rfl rfl ?_
    refine g_ncallS X0 (y := (⟨"java/lang/String", "valueOf", "(C)Ljava/lang/String;"⟩ : MethodName)) [(.int (ch0 f))] (hw _ m161) (hw _ m162) (hw _ m10) (hw _ m163) (hw _ m10) (Nar.rm31 l Z a0 hw (ch0 f) h0 n0 X0.old (own_255 _) G1 O2 P5) (by decide) (by decide) (by decide) (by decide) (by decide) rfl pd_22 rfl (rest := []) rfl (W := 0) rfl d2_46 (pc' := 49) rfl ?_
    rintro _ T403 h403 L403 Y403 ⟨a403, u403, rfl, N403, K403, H403, HE403⟩
    have X403 := Y403 (X0.old.keep K403 all0) N403 K403.1
    show Go p e below _ (State.setTop _ (mkF m 49 #[.val (.int f), .val (.int (1 : Int32)), .val (.int (ch0 f)), .val (.int (ch1 f))] [(.ref a403)]))
    have k404 := (Keep.refl h0 []).trans K403 (fun x hx => by simp at hx)
    have CR405 := CHr.keep k404 (fun x hx => by cases hx) H0
    exact g_retAH X403 rfl rfl rfl d2_49 (own_ew hw) hs0 CR405 (by decide) (by decide) ⟨a403, u403, rfl, X403.fr, k404, (by rw [own_z1 q]; exact H403), HE403⟩
  · rw [show (f &&& (3 : Int32)) % (3 : Int32) = (2 : Int32) from q]
    refine g_istoreN X0 d2_5 (pc' := 6) rfl (L' := #[.val (.int f), .val (.int (2 : Int32)), .unset, .unset]) rfl ?_
    refine g_iloadN X0 d2_6 (pc' := 7) rfl rfl ?_
    refine g_iconst X0 d2_7 (pc' := 8) rfl (v := (2 : Int32)) rfl ?_
    refine g_iushr X0 d2_8 (pc' := 9) rfl ?_
    refine g_sipush X0 d2_9 (pc' := 12) rfl (v := (255 : Int32)) rfl ?_
    refine g_iand X0 d2_12 (pc' := 13) rfl ?_
    refine g_i2c X0 d2_13 (pc' := 14) rfl ?_
    rw [show ((((f.toUInt32 >>> ((2 : Int32) &&& 31).toUInt32).toInt32) &&& (255 : Int32)).toUInt32.toUInt16.toUInt32.toInt32) = ch0 f from i2c_mask _]
    refine g_istoreN X0 d2_14 (pc' := 15) rfl (L' := #[.val (.int f), .val (.int (2 : Int32)), .val (.int (ch0 f)), .unset]) rfl ?_
    refine g_iloadN X0 d2_15 (pc' := 16) rfl rfl ?_
    refine g_bipush X0 d2_16 (pc' := 18) rfl (v := (10 : Int32)) rfl ?_
    refine g_iushr X0 d2_18 (pc' := 19) rfl ?_
    refine g_sipush X0 d2_19 (pc' := 22) rfl (v := (255 : Int32)) rfl ?_
    refine g_iand X0 d2_22 (pc' := 23) rfl ?_
    refine g_i2c X0 d2_23 (pc' := 24) rfl ?_
    rw [show ((((f.toUInt32 >>> ((10 : Int32) &&& 31).toUInt32).toInt32) &&& (255 : Int32)).toUInt32.toUInt16.toUInt32.toInt32) = ch1 f from i2c_mask _]
    refine g_istoreN X0 d2_24 (pc' := 25) rfl (L' := #[.val (.int f), .val (.int (2 : Int32)), .val (.int (ch0 f)), .val (.int (ch1 f))]) rfl ?_
    refine g_iloadN X0 d2_25 (pc' := 26) rfl rfl ?_
    refine g_if_ne_t X0 d2_26 (pt := 40) (by decide) (by decide) ?_
    refine g_iloadN X0 d2_40 (pc' := 41) rfl rfl ?_
    refine g_iconst X0 d2_41 (pc' := 42) rfl (v := (1 : Int32)) rfl ?_
    refine g_icmp_ne_t X0 d2_42 (pt := 50) (by decide) (by decide) ?_
    refine g_new X0 (hw _ m8) (hw _ m9) (hw _ m10) d2_50 (pc' := 53) rfl (by decide) (by decide) (fun T406 h406 b406 X406 g406 E406 A406 D406 l406 => ?_)
    have F406_value : Fld Z h406 b406 "java/lang/String" "value" "[B" .null := D406 (Or.inr (hw _ m24)) (ty := (.array .byte)) (by decide)
    have F406_coder : Fld Z h406 b406 "java/lang/String" "coder" "B" (.int (0 : Int32)) := D406 (Or.inr (hw _ m25)) (ty := .byte) (by decide)
    refine g_dup X406 d2_53 (pc' := 54) rfl rfl ?_
    refine g_iconst X406 d2_54 (pc' := 55) rfl (v := (2 : Int32)) rfl ?_
    refine g_newarray X406 (aty := .char) (cap := 2) (vs := [(.int (0 : Int32)), (.int (0 : Int32))]) (hw _ m11) (by decide) (by decide) rfl (by decide) d2_55 (pc' := 57) rfl (by decide) (by decide) (fun T407 h407 b407 X407 g407 E407 A407 l407 => ?_)
    have ne408 : b406 ≠ b407 := ne_new A406.lt g407
    refine g_dup X407 d2_57 (pc' := 58) rfl rfl ?_
    refine g_iconst X407 d2_58 (pc' := 59) rfl (v := (0 : Int32)) rfl ?_
    refine g_iloadN X407 d2_59 (pc' := 60) rfl rfl ?_
    refine g_castore X407 (i := 0) A407 (by decide) (by simp) l407 d2_60 (pc' := 61) rfl (fun T409 h409 X409 W409 A409 => ?_)
    rw [own_nc0] at A409
    have A409 : Arx Z h409 b407 .char [(.int (ch0 f)), (.int (0 : Int32))] := A409
    refine g_dup X409 d2_61 (pc' := 62) rfl rfl ?_
    refine g_iconst X409 d2_62 (pc' := 63) rfl (v := (1 : Int32)) rfl ?_
    refine g_iloadN X409 d2_63 (pc' := 64) rfl rfl ?_
    refine g_castore X409 (i := 1) A409 (by decide) (by simp) l407 d2_64 (pc' := 65) rfl (fun T410 h410 X410 W410 A410 => ?_)
    rw [own_nc1] at A410
    have A410 : Arx Z h410 b407 .char [(.int (ch0 f)), (.int (ch1 f))] := A410
    have f411 := (((A406.ext E407).wr W409).wr W410)
    have f412 := (((F406_value.ext E407).other W409 (Or.inl ne408)).other W410 (Or.inl ne408))
    have f413 := (((F406_coder.ext E407).other W409 (Or.inl ne408)).other W410 (Or.inl ne408))
    refine g_ncallI X410 (y := (⟨"java/lang/String", "<init>", "([C)V"⟩ : MethodName)) (a := b406) [(.ref b407)] rfl (hw _ m12) (hw _ m13) rfl (hw _ m14) (hw _ m10) (Nar.rm3 l Z a0 hw b406 b407 h410 n0 X410.old (ch0 f) (ch1 f) (own_255 _) (own_255 _) A410 f411 l406 f412 f413 ne408 G1 O2 P5) (by decide) (by decide) (by decide) (by decide) (by decide) rfl pd_21 rfl (rest := [(.ref b406)]) rfl (W := 1) rfl d2_65 (pc' := 68) rfl ?_
    rintro _ T414 h414 L414 Y414 ⟨u414, rfl, N414, K414, H414, HE414⟩
    have X414 := Y414 (X410.old.keep K414 (allS l406 all0)) N414 K414.1
    show Go p e below _ (State.setTop _ (mkF m 68 #[.val (.int f), .val (.int (2 : Int32)), .val (.int (ch0 f)), .val (.int (ch1 f))] [(.ref b406)]))
    have k415 := (Keep.refl h0 []).ext E406
    have k416 := k415.ext E407
    have k417 := k416.wr W409 (Or.inr (Nat.le_trans k415.1 (Nat.le_of_eq g407.symm)))
    have k418 := k417.wr W410 (Or.inr (Nat.le_trans k415.1 (Nat.le_of_eq g407.symm)))
    have k419 := k418.trans K414 (allS (Or.inr (Nat.le_trans (Keep.refl h0 []).1 (Nat.le_of_eq g406.symm))) all0)
    have CR420 := CHr.keep k419 (fun x hx => by cases hx) H0
    exact g_retAH X414 rfl rfl rfl d2_68 (own_ew hw) hs0 CR420 (by decide) (by decide) ⟨b406, u414, rfl, X414.fr, k419, (by rw [own_z2 q]; exact H414), HE414⟩

open Nar (GN RP own_V0 own_v1e own_v1n own_v2a own_v2b own_v2c NV own_c1 own_c2 own_rp own_fin own_tk own_ul own_wl own_SI0)
theorem ef_0 (m : MethodId) (t_ : Int64) (q_ : Int32) (ra : Int32) (rb : Int32) (rc : Int32) : entryFrame m #[(.long t_), (.int q_), (.int ra), (.int rb), (.int rc)] maxLocals = mkF m 0 #[.val (.long t_), .second, .val (.int q_), .val (.int ra), .val (.int rb), .val (.int rc), .unset, .unset, .unset, .unset, .unset, .unset, .unset, .unset, .unset, .unset, .unset, .unset, .unset, .unset, .unset, .unset, .unset, .unset, .unset, .unset, .unset, .unset, .unset, .unset, .unset, .unset, .unset, .unset] [] := by first | (simp [entryFrame, mkF, argsToLocals, Value.category, maxLocals]; done) | rfl
set_option maxRecDepth 65536 in
set_option maxHeartbeats 40000000 in
theorem rm0 (l : Launch) (Z : State) (a0 : Array Value) (hw : ∀ d ∈ tables_1, d.before a0 Z = true) (ws : List Jvm.Cond) (t_ : Int64) (q_ : Int32) (ra : Int32) (rb : Int32) (rc : Int32) (h0 : Heap) (n0 : Nat) (hO : Old Z n0 h0) (ci : Addr) (OI : Sta Z Z.heap "sun/nio/cs/UTF_8" "INSTANCE" "Lsun/nio/cs/UTF_8;" (.ref ci)) (OC : Sta Z Z.heap "java/nio/charset/StandardCharsets" "UTF_8" "Ljava/nio/charset/Charset;" (.ref ci)) (G1 : Int32) (O2 : Sta Z Z.heap "java/lang/String" "COMPACT_STRINGS" "Z" (.int G1)) (P5 : ¬ G1 = (0 : Int32)) :
    ConH consts_1 l Z x code maxLocals ret ws room_1 #[(.long t_), (.int q_), (.int ra), (.int rb), (.int rc)] h0 (fun v h L => v = some (.int 1) ∧ Fr n0 L) := by
  refine ConH.intro (n0 := n0) (plainFor_of_name pn_5) (fun m => ef_0 m t_ q_ ra rb rc) hO ?_
  intro p e s m below meth cc T hs0 H0 X0
  have CR0 := CHr.refl H0
  refine g_lloadN X0 at_0 (pc' := 1) rfl rfl ?_
  refine g_iconst X0 at_1 (pc' := 2) rfl (v := (0 : Int32)) rfl ?_
  refine g_ncallS X0 (y := (⟨"com/example/indexloom/indexloom/TextsFindPinLaw", "field", "(JI)I"⟩ : MethodName)) [(.long t_), (.int (0 : Int32))] (hw _ m0) (hw _ m1) (hw _ m2) (hw _ m3) (hw _ m2) (Nar.rm1 l Z a0 hw t_ (0 : Int32) h0 n0 X0.old) (by decide) (by decide) (by decide) (by decide) (by decide) rfl pd_23 rfl (rest := []) rfl (W := 0) rfl at_2 (pc' := 5) rfl ?_
  rintro _ T421 _ _ Y421 ⟨z421, rfl, rfl, rfl⟩
  have X421 := Y421 X0.old (Fr.nil _) (Nat.le_refl _)
  show Go p e below _ (State.setTop _ (mkF m 5 #[.val (.long t_), .second, .val (.int q_), .val (.int ra), .val (.int rb), .val (.int rc), .unset, .unset, .unset, .unset, .unset, .unset, .unset, .unset, .unset, .unset, .unset, .unset, .unset, .unset, .unset, .unset, .unset, .unset, .unset, .unset, .unset, .unset, .unset, .unset, .unset, .unset, .unset, .unset] [(.int z421)]))
  refine g_istore X421 at_5 (pc' := 7) rfl (L' := #[.val (.long t_), .second, .val (.int q_), .val (.int ra), .val (.int rb), .val (.int rc), .val (.int z421), .unset, .unset, .unset, .unset, .unset, .unset, .unset, .unset, .unset, .unset, .unset, .unset, .unset, .unset, .unset, .unset, .unset, .unset, .unset, .unset, .unset, .unset, .unset, .unset, .unset, .unset, .unset]) rfl ?_
  refine g_lloadN X421 at_7 (pc' := 8) rfl rfl ?_
  refine g_iconst X421 at_8 (pc' := 9) rfl (v := (1 : Int32)) rfl ?_
  refine g_ncallS X421 (y := (⟨"com/example/indexloom/indexloom/TextsFindPinLaw", "field", "(JI)I"⟩ : MethodName)) [(.long t_), (.int (1 : Int32))] (hw _ m0) (hw _ m1) (hw _ m2) (hw _ m3) (hw _ m2) (Nar.rm1 l Z a0 hw t_ (1 : Int32) h0 n0 X421.old) (by decide) (by decide) (by decide) (by decide) (by decide) rfl pd_23 rfl (rest := []) rfl (W := 0) rfl at_9 (pc' := 12) rfl ?_
  rintro _ T422 _ _ Y422 ⟨z422, rfl, rfl, rfl⟩
  have X422 := Y422 X421.old (Fr.nil _) (Nat.le_refl _)
  show Go p e below _ (State.setTop _ (mkF m 12 #[.val (.long t_), .second, .val (.int q_), .val (.int ra), .val (.int rb), .val (.int rc), .val (.int z421), .unset, .unset, .unset, .unset, .unset, .unset, .unset, .unset, .unset, .unset, .unset, .unset, .unset, .unset, .unset, .unset, .unset, .unset, .unset, .unset, .unset, .unset, .unset, .unset, .unset, .unset, .unset] [(.int z422)]))
  refine g_istore X422 at_12 (pc' := 14) rfl (L' := #[.val (.long t_), .second, .val (.int q_), .val (.int ra), .val (.int rb), .val (.int rc), .val (.int z421), .val (.int z422), .unset, .unset, .unset, .unset, .unset, .unset, .unset, .unset, .unset, .unset, .unset, .unset, .unset, .unset, .unset, .unset, .unset, .unset, .unset, .unset, .unset, .unset, .unset, .unset, .unset, .unset]) rfl ?_
  refine g_lloadN X422 at_14 (pc' := 15) rfl rfl ?_
  refine g_iconst X422 at_15 (pc' := 16) rfl (v := (2 : Int32)) rfl ?_
  refine g_ncallS X422 (y := (⟨"com/example/indexloom/indexloom/TextsFindPinLaw", "field", "(JI)I"⟩ : MethodName)) [(.long t_), (.int (2 : Int32))] (hw _ m0) (hw _ m1) (hw _ m2) (hw _ m3) (hw _ m2) (Nar.rm1 l Z a0 hw t_ (2 : Int32) h0 n0 X422.old) (by decide) (by decide) (by decide) (by decide) (by decide) rfl pd_23 rfl (rest := []) rfl (W := 0) rfl at_16 (pc' := 19) rfl ?_
  rintro _ T423 _ _ Y423 ⟨z423, rfl, rfl, rfl⟩
  have X423 := Y423 X422.old (Fr.nil _) (Nat.le_refl _)
  show Go p e below _ (State.setTop _ (mkF m 19 #[.val (.long t_), .second, .val (.int q_), .val (.int ra), .val (.int rb), .val (.int rc), .val (.int z421), .val (.int z422), .unset, .unset, .unset, .unset, .unset, .unset, .unset, .unset, .unset, .unset, .unset, .unset, .unset, .unset, .unset, .unset, .unset, .unset, .unset, .unset, .unset, .unset, .unset, .unset, .unset, .unset] [(.int z423)]))
  refine g_istore X423 at_19 (pc' := 21) rfl (L' := #[.val (.long t_), .second, .val (.int q_), .val (.int ra), .val (.int rb), .val (.int rc), .val (.int z421), .val (.int z422), .val (.int z423), .unset, .unset, .unset, .unset, .unset, .unset, .unset, .unset, .unset, .unset, .unset, .unset, .unset, .unset, .unset, .unset, .unset, .unset, .unset, .unset, .unset, .unset, .unset, .unset, .unset]) rfl ?_
  refine g_iload X423 at_21 (pc' := 23) rfl rfl ?_
  refine g_callSH X423 (y := (⟨"com/example/indexloom/indexloom/TextsFindPinLaw", "str", "(I)Ljava/lang/String;"⟩ : MethodName)) [(.int z421)] (hw _ m5) (hw _ m6) (hw _ m2) (hw _ m7) (backR (W := 0) (rm2 l Z a0 hw z421 h0 n0 X423.old G1 O2 P5) X423.hZ (hw _ m7) (hw _ m2) (by decide) (by decide) (own_ew hw) CR0.1) (cc := 6) (ss := 12) (Q := (fun r h L => ∃ a' u : Addr, r = some (.ref a') ∧ Fr n0 L ∧ Keep h0 h [] ∧ Nar.SS Z h a' u (zsOf z421) ∧ Exa Z h u "[B")) (by decide) (by decide) (by decide) rfl pd_24 rfl (rest := []) rfl (W := 0) rfl at_23 (pc' := 26) rfl ?_
  rintro _ T424 h424 L424 Y424 ⟨a424, u424, rfl, N424, K424, H424, HE424⟩ CR424
  have X424 := Y424 (X423.old.keep K424 all0) N424
  show Go p e below _ (State.setTop _ (mkF m 26 #[.val (.long t_), .second, .val (.int q_), .val (.int ra), .val (.int rb), .val (.int rc), .val (.int z421), .val (.int z422), .val (.int z423), .unset, .unset, .unset, .unset, .unset, .unset, .unset, .unset, .unset, .unset, .unset, .unset, .unset, .unset, .unset, .unset, .unset, .unset, .unset, .unset, .unset, .unset, .unset, .unset, .unset] [(.ref a424)]))
  refine g_astore X424 at_26 (pc' := 28) rfl rfl (L' := #[.val (.long t_), .second, .val (.int q_), .val (.int ra), .val (.int rb), .val (.int rc), .val (.int z421), .val (.int z422), .val (.int z423), .val (.ref a424), .unset, .unset, .unset, .unset, .unset, .unset, .unset, .unset, .unset, .unset, .unset, .unset, .unset, .unset, .unset, .unset, .unset, .unset, .unset, .unset, .unset, .unset, .unset, .unset]) rfl ?_
  refine g_iload X424 at_28 (pc' := 30) rfl rfl ?_
  refine g_callSH X424 (y := (⟨"com/example/indexloom/indexloom/TextsFindPinLaw", "str", "(I)Ljava/lang/String;"⟩ : MethodName)) [(.int z422)] (hw _ m5) (hw _ m6) (hw _ m2) (hw _ m7) (backR (W := 0) (rm2 l Z a0 hw z422 h424 n0 X424.old G1 O2 P5) X424.hZ (hw _ m7) (hw _ m2) (by decide) (by decide) (own_ew hw) CR424.1) (cc := 6) (ss := 12) (Q := (fun r h L => ∃ a' u : Addr, r = some (.ref a') ∧ Fr n0 L ∧ Keep h424 h [] ∧ Nar.SS Z h a' u (zsOf z422) ∧ Exa Z h u "[B")) (by decide) (by decide) (by decide) rfl pd_24 rfl (rest := []) rfl (W := 0) rfl at_30 (pc' := 33) rfl ?_
  rintro _ T425 h425 L425 Y425 ⟨a425, u425, rfl, N425, K425, H425, HE425⟩ CR425
  have X425 := Y425 (X424.old.keep K425 all0) N425
  show Go p e below _ (State.setTop _ (mkF m 33 #[.val (.long t_), .second, .val (.int q_), .val (.int ra), .val (.int rb), .val (.int rc), .val (.int z421), .val (.int z422), .val (.int z423), .val (.ref a424), .unset, .unset, .unset, .unset, .unset, .unset, .unset, .unset, .unset, .unset, .unset, .unset, .unset, .unset, .unset, .unset, .unset, .unset, .unset, .unset, .unset, .unset, .unset, .unset] [(.ref a425)]))
  refine g_astore X425 at_33 (pc' := 35) rfl rfl (L' := #[.val (.long t_), .second, .val (.int q_), .val (.int ra), .val (.int rb), .val (.int rc), .val (.int z421), .val (.int z422), .val (.int z423), .val (.ref a424), .val (.ref a425), .unset, .unset, .unset, .unset, .unset, .unset, .unset, .unset, .unset, .unset, .unset, .unset, .unset, .unset, .unset, .unset, .unset, .unset, .unset, .unset, .unset, .unset, .unset]) rfl ?_
  refine g_iload X425 at_35 (pc' := 37) rfl rfl ?_
  refine g_callSH X425 (y := (⟨"com/example/indexloom/indexloom/TextsFindPinLaw", "str", "(I)Ljava/lang/String;"⟩ : MethodName)) [(.int z423)] (hw _ m5) (hw _ m6) (hw _ m2) (hw _ m7) (backR (W := 0) (rm2 l Z a0 hw z423 h425 n0 X425.old G1 O2 P5) X425.hZ (hw _ m7) (hw _ m2) (by decide) (by decide) (own_ew hw) CR425.1) (cc := 6) (ss := 12) (Q := (fun r h L => ∃ a' u : Addr, r = some (.ref a') ∧ Fr n0 L ∧ Keep h425 h [] ∧ Nar.SS Z h a' u (zsOf z423) ∧ Exa Z h u "[B")) (by decide) (by decide) (by decide) rfl pd_24 rfl (rest := []) rfl (W := 0) rfl at_37 (pc' := 40) rfl ?_
  rintro _ T426 h426 L426 Y426 ⟨a426, u426, rfl, N426, K426, H426, HE426⟩ CR426
  have X426 := Y426 (X425.old.keep K426 all0) N426
  show Go p e below _ (State.setTop _ (mkF m 40 #[.val (.long t_), .second, .val (.int q_), .val (.int ra), .val (.int rb), .val (.int rc), .val (.int z421), .val (.int z422), .val (.int z423), .val (.ref a424), .val (.ref a425), .unset, .unset, .unset, .unset, .unset, .unset, .unset, .unset, .unset, .unset, .unset, .unset, .unset, .unset, .unset, .unset, .unset, .unset, .unset, .unset, .unset, .unset, .unset] [(.ref a426)]))
  refine g_astore X426 at_40 (pc' := 42) rfl rfl (L' := #[.val (.long t_), .second, .val (.int q_), .val (.int ra), .val (.int rb), .val (.int rc), .val (.int z421), .val (.int z422), .val (.int z423), .val (.ref a424), .val (.ref a425), .val (.ref a426), .unset, .unset, .unset, .unset, .unset, .unset, .unset, .unset, .unset, .unset, .unset, .unset, .unset, .unset, .unset, .unset, .unset, .unset, .unset, .unset, .unset, .unset]) rfl ?_
  refine g_iconst X426 at_42 (pc' := 43) rfl (v := (4 : Int32)) rfl ?_
  refine g_newarrayE X426 (ad := "[B") (by decide) (aty := .byte) (cap := 4) (vs := (Nar.own_bs (List.replicate 4 0))) (hw _ m23) (by decide) (by decide) rfl (by decide) at_43 (pc' := 45) rfl (by decide) (by decide) (fun T427 h427 b427 X427 g427 E427 A427 EA427 l427 => ?_)
  have f429 := ((H424.1.keep K425).keep K426)
  have ne428 : a424 ≠ b427 := ne_new f429.lt g427
  have f431 := ((H424.2.2.2.keep K425 nm0).keep K426 nm0)
  have ne430 : u424 ≠ b427 := ne_new f431.lt g427
  have f433 := (H425.1.keep K426)
  have ne432 : a425 ≠ b427 := ne_new f433.lt g427
  have f435 := (H425.2.2.2.keep K426 nm0)
  have ne434 : u425 ≠ b427 := ne_new f435.lt g427
  have ne436 : a426 ≠ b427 := ne_new H426.1.lt g427
  have ne437 : u426 ≠ b427 := ne_new H426.2.2.2.lt g427
  refine g_astore X427 at_45 (pc' := 47) rfl rfl (L' := #[.val (.long t_), .second, .val (.int q_), .val (.int ra), .val (.int rb), .val (.int rc), .val (.int z421), .val (.int z422), .val (.int z423), .val (.ref a424), .val (.ref a425), .val (.ref a426), .val (.ref b427), .unset, .unset, .unset, .unset, .unset, .unset, .unset, .unset, .unset, .unset, .unset, .unset, .unset, .unset, .unset, .unset, .unset, .unset, .unset, .unset, .unset]) rfl ?_
  refine g_iconst X427 at_47 (pc' := 48) rfl (v := (4 : Int32)) rfl ?_
  refine g_newarrayE X427 (ad := "[B") (by decide) (aty := .byte) (cap := 4) (vs := (Nar.own_bs (List.replicate 4 0))) (hw _ m23) (by decide) (by decide) rfl (by decide) at_48 (pc' := 50) rfl (by decide) (by decide) (fun T438 h438 b438 X438 g438 E438 A438 EA438 l438 => ?_)
  have f440 := (f429.ext E427)
  have ne439 : a424 ≠ b438 := ne_new f440.lt g438
  have f442 := (f431.ext E427)
  have ne441 : u424 ≠ b438 := ne_new f442.lt g438
  have f444 := (f433.ext E427)
  have ne443 : a425 ≠ b438 := ne_new f444.lt g438
  have f446 := (f435.ext E427)
  have ne445 : u425 ≠ b438 := ne_new f446.lt g438
  have f448 := (H426.1.ext E427)
  have ne447 : a426 ≠ b438 := ne_new f448.lt g438
  have f450 := (H426.2.2.2.ext E427)
  have ne449 : u426 ≠ b438 := ne_new f450.lt g438
  have ne451 : b427 ≠ b438 := ne_new A427.lt g438
  refine g_astore X438 at_50 (pc' := 52) rfl rfl (L' := #[.val (.long t_), .second, .val (.int q_), .val (.int ra), .val (.int rb), .val (.int rc), .val (.int z421), .val (.int z422), .val (.int z423), .val (.ref a424), .val (.ref a425), .val (.ref a426), .val (.ref b427), .val (.ref b438), .unset, .unset, .unset, .unset, .unset, .unset, .unset, .unset, .unset, .unset, .unset, .unset, .unset, .unset, .unset, .unset, .unset, .unset, .unset, .unset]) rfl ?_
  refine g_iconst X438 at_52 (pc' := 53) rfl (v := (4 : Int32)) rfl ?_
  refine g_newarrayE X438 (ad := "[B") (by decide) (aty := .byte) (cap := 4) (vs := (Nar.own_bs (List.replicate 4 0))) (hw _ m23) (by decide) (by decide) rfl (by decide) at_53 (pc' := 55) rfl (by decide) (by decide) (fun T452 h452 b452 X452 g452 E452 A452 EA452 l452 => ?_)
  have f454 := (f440.ext E438)
  have ne453 : a424 ≠ b452 := ne_new f454.lt g452
  have f456 := (f442.ext E438)
  have ne455 : u424 ≠ b452 := ne_new f456.lt g452
  have f458 := (f444.ext E438)
  have ne457 : a425 ≠ b452 := ne_new f458.lt g452
  have f460 := (f446.ext E438)
  have ne459 : u425 ≠ b452 := ne_new f460.lt g452
  have f462 := (f448.ext E438)
  have ne461 : a426 ≠ b452 := ne_new f462.lt g452
  have f464 := (f450.ext E438)
  have ne463 : u426 ≠ b452 := ne_new f464.lt g452
  have f466 := (A427.ext E438)
  have ne465 : b427 ≠ b452 := ne_new f466.lt g452
  have ne467 : b438 ≠ b452 := ne_new A438.lt g452
  refine g_astore X452 at_55 (pc' := 57) rfl rfl (L' := #[.val (.long t_), .second, .val (.int q_), .val (.int ra), .val (.int rb), .val (.int rc), .val (.int z421), .val (.int z422), .val (.int z423), .val (.ref a424), .val (.ref a425), .val (.ref a426), .val (.ref b427), .val (.ref b438), .val (.ref b452), .unset, .unset, .unset, .unset, .unset, .unset, .unset, .unset, .unset, .unset, .unset, .unset, .unset, .unset, .unset, .unset, .unset, .unset, .unset]) rfl ?_
  refine g_iload X452 at_57 (pc' := 59) rfl rfl ?_
  refine g_aload X452 at_59 (pc' := 61) rfl rfl rfl ?_
  have f468 := (f466.ext E452)
  refine g_ncallS X452 (y := (⟨"com/example/indexloom/indexloom/TextsFindPinLaw", "enc", "(I[B)I"⟩ : MethodName)) [(.int z421), (.ref b427)] (hw _ m30) (hw _ m31) (hw _ m2) (hw _ m32) (hw _ m2) (Nar.rm6 l Z a0 hw z421 b427 h452 n0 X452.old f468 l427) (by decide) (by decide) (by decide) (by decide) (by decide) rfl pd_25 rfl (rest := []) rfl (W := 0) rfl at_61 (pc' := 64) rfl ?_
  rintro _ T469 h469 L469 Y469 ⟨rfl, N469, K469, A469x⟩
  have X469 := Y469 (X452.old.keep K469 (allS l427 all0)) N469 K469.1
  show Go p e below _ (State.setTop _ (mkF m 64 #[.val (.long t_), .second, .val (.int q_), .val (.int ra), .val (.int rb), .val (.int rc), .val (.int z421), .val (.int z422), .val (.int z423), .val (.ref a424), .val (.ref a425), .val (.ref a426), .val (.ref b427), .val (.ref b438), .val (.ref b452), .unset, .unset, .unset, .unset, .unset, .unset, .unset, .unset, .unset, .unset, .unset, .unset, .unset, .unset, .unset, .unset, .unset, .unset, .unset] [(.int (Int32.ofNat (U (zsOf z421)).length))]))
  refine g_istore X469 at_64 (pc' := 66) rfl (L' := #[.val (.long t_), .second, .val (.int q_), .val (.int ra), .val (.int rb), .val (.int rc), .val (.int z421), .val (.int z422), .val (.int z423), .val (.ref a424), .val (.ref a425), .val (.ref a426), .val (.ref b427), .val (.ref b438), .val (.ref b452), .val (.int (Int32.ofNat (U (zsOf z421)).length)), .unset, .unset, .unset, .unset, .unset, .unset, .unset, .unset, .unset, .unset, .unset, .unset, .unset, .unset, .unset, .unset, .unset, .unset]) rfl ?_
  refine g_iload X469 at_66 (pc' := 68) rfl rfl ?_
  refine g_aload X469 at_68 (pc' := 70) rfl rfl rfl ?_
  have f470 := ((A438.ext E452).keep K469 (nm1 (Ne.symm ne451)))
  refine g_ncallS X469 (y := (⟨"com/example/indexloom/indexloom/TextsFindPinLaw", "enc", "(I[B)I"⟩ : MethodName)) [(.int z422), (.ref b438)] (hw _ m30) (hw _ m31) (hw _ m2) (hw _ m32) (hw _ m2) (Nar.rm6 l Z a0 hw z422 b438 h469 n0 X469.old f470 l438) (by decide) (by decide) (by decide) (by decide) (by decide) rfl pd_25 rfl (rest := []) rfl (W := 0) rfl at_70 (pc' := 73) rfl ?_
  rintro _ T471 h471 L471 Y471 ⟨rfl, N471, K471, A471x⟩
  have X471 := Y471 (X469.old.keep K471 (allS l438 all0)) N471 K471.1
  show Go p e below _ (State.setTop _ (mkF m 73 #[.val (.long t_), .second, .val (.int q_), .val (.int ra), .val (.int rb), .val (.int rc), .val (.int z421), .val (.int z422), .val (.int z423), .val (.ref a424), .val (.ref a425), .val (.ref a426), .val (.ref b427), .val (.ref b438), .val (.ref b452), .val (.int (Int32.ofNat (U (zsOf z421)).length)), .unset, .unset, .unset, .unset, .unset, .unset, .unset, .unset, .unset, .unset, .unset, .unset, .unset, .unset, .unset, .unset, .unset, .unset] [(.int (Int32.ofNat (U (zsOf z422)).length))]))
  refine g_istore X471 at_73 (pc' := 75) rfl (L' := #[.val (.long t_), .second, .val (.int q_), .val (.int ra), .val (.int rb), .val (.int rc), .val (.int z421), .val (.int z422), .val (.int z423), .val (.ref a424), .val (.ref a425), .val (.ref a426), .val (.ref b427), .val (.ref b438), .val (.ref b452), .val (.int (Int32.ofNat (U (zsOf z421)).length)), .val (.int (Int32.ofNat (U (zsOf z422)).length)), .unset, .unset, .unset, .unset, .unset, .unset, .unset, .unset, .unset, .unset, .unset, .unset, .unset, .unset, .unset, .unset, .unset]) rfl ?_
  refine g_iload X471 at_75 (pc' := 77) rfl rfl ?_
  refine g_aload X471 at_77 (pc' := 79) rfl rfl rfl ?_
  have f472 := ((A452.keep K469 (nm1 (Ne.symm ne465))).keep K471 (nm1 (Ne.symm ne467)))
  refine g_ncallS X471 (y := (⟨"com/example/indexloom/indexloom/TextsFindPinLaw", "enc", "(I[B)I"⟩ : MethodName)) [(.int z423), (.ref b452)] (hw _ m30) (hw _ m31) (hw _ m2) (hw _ m32) (hw _ m2) (Nar.rm6 l Z a0 hw z423 b452 h471 n0 X471.old f472 l452) (by decide) (by decide) (by decide) (by decide) (by decide) rfl pd_25 rfl (rest := []) rfl (W := 0) rfl at_79 (pc' := 82) rfl ?_
  rintro _ T473 h473 L473 Y473 ⟨rfl, N473, K473, A473x⟩
  have X473 := Y473 (X471.old.keep K473 (allS l452 all0)) N473 K473.1
  show Go p e below _ (State.setTop _ (mkF m 82 #[.val (.long t_), .second, .val (.int q_), .val (.int ra), .val (.int rb), .val (.int rc), .val (.int z421), .val (.int z422), .val (.int z423), .val (.ref a424), .val (.ref a425), .val (.ref a426), .val (.ref b427), .val (.ref b438), .val (.ref b452), .val (.int (Int32.ofNat (U (zsOf z421)).length)), .val (.int (Int32.ofNat (U (zsOf z422)).length)), .unset, .unset, .unset, .unset, .unset, .unset, .unset, .unset, .unset, .unset, .unset, .unset, .unset, .unset, .unset, .unset, .unset] [(.int (Int32.ofNat (U (zsOf z423)).length))]))
  refine g_istore X473 at_82 (pc' := 84) rfl (L' := #[.val (.long t_), .second, .val (.int q_), .val (.int ra), .val (.int rb), .val (.int rc), .val (.int z421), .val (.int z422), .val (.int z423), .val (.ref a424), .val (.ref a425), .val (.ref a426), .val (.ref b427), .val (.ref b438), .val (.ref b452), .val (.int (Int32.ofNat (U (zsOf z421)).length)), .val (.int (Int32.ofNat (U (zsOf z422)).length)), .val (.int (Int32.ofNat (U (zsOf z423)).length)), .unset, .unset, .unset, .unset, .unset, .unset, .unset, .unset, .unset, .unset, .unset, .unset, .unset, .unset, .unset, .unset]) rfl ?_
  refine g_iconst X473 at_84 (pc' := 85) rfl (v := (4 : Int32)) rfl ?_
  refine g_newarrayE X473 (ad := "[B") (by decide) (aty := .byte) (cap := 4) (vs := [(.int (0 : Int32)), (.int (0 : Int32)), (.int (0 : Int32)), (.int (0 : Int32))]) (hw _ m23) (by decide) (by decide) rfl (by decide) at_85 (pc' := 87) rfl (by decide) (by decide) (fun T474 h474 b474 X474 g474 E474 A474 EA474 l474 => ?_)
  have f476 := ((((f454.ext E452).keep K469).keep K471).keep K473)
  have ne475 : a424 ≠ b474 := ne_new f476.lt g474
  have f478 := ((((f456.ext E452).keep K469 (nm1 ne430)).keep K471 (nm1 ne441)).keep K473 (nm1 ne455))
  have ne477 : u424 ≠ b474 := ne_new f478.lt g474
  have f480 := ((((f458.ext E452).keep K469).keep K471).keep K473)
  have ne479 : a425 ≠ b474 := ne_new f480.lt g474
  have f482 := ((((f460.ext E452).keep K469 (nm1 ne434)).keep K471 (nm1 ne445)).keep K473 (nm1 ne459))
  have ne481 : u425 ≠ b474 := ne_new f482.lt g474
  have f484 := ((((f462.ext E452).keep K469).keep K471).keep K473)
  have ne483 : a426 ≠ b474 := ne_new f484.lt g474
  have f486 := ((((f464.ext E452).keep K469 (nm1 ne437)).keep K471 (nm1 ne449)).keep K473 (nm1 ne463))
  have ne485 : u426 ≠ b474 := ne_new f486.lt g474
  have f488 := ((A469x.keep K471 (nm1 ne451)).keep K473 (nm1 ne465))
  have ne487 : b427 ≠ b474 := ne_new f488.lt g474
  have f490 := (A471x.keep K473 (nm1 ne467))
  have ne489 : b438 ≠ b474 := ne_new f490.lt g474
  have ne491 : b452 ≠ b474 := ne_new A473x.lt g474
  refine g_astore X474 at_87 (pc' := 89) rfl rfl (L' := #[.val (.long t_), .second, .val (.int q_), .val (.int ra), .val (.int rb), .val (.int rc), .val (.int z421), .val (.int z422), .val (.int z423), .val (.ref a424), .val (.ref a425), .val (.ref a426), .val (.ref b427), .val (.ref b438), .val (.ref b452), .val (.int (Int32.ofNat (U (zsOf z421)).length)), .val (.int (Int32.ofNat (U (zsOf z422)).length)), .val (.int (Int32.ofNat (U (zsOf z423)).length)), .val (.ref b474), .unset, .unset, .unset, .unset, .unset, .unset, .unset, .unset, .unset, .unset, .unset, .unset, .unset, .unset, .unset]) rfl ?_
  refine g_aload X474 at_89 (pc' := 91) rfl rfl rfl ?_
  refine g_iconst X474 at_91 (pc' := 92) rfl (v := (0 : Int32)) rfl ?_
  refine g_iloadN X474 at_92 (pc' := 93) rfl rfl ?_
  refine g_i2b X474 at_93 (pc' := 94) rfl ?_
  refine g_bastore X474 (i := 0) A474 (by decide) (by simp) l474 at_94 (pc' := 95) rfl (fun T492 h492 X492 W492 A492 => ?_)
  have A492 : Arx Z h492 b474 .byte [(.int (nar .byte (q_.toInt8.toInt32))), (.int (0 : Int32)), (.int (0 : Int32)), (.int (0 : Int32))] := A492
  refine g_aload X492 at_95 (pc' := 97) rfl rfl rfl ?_
  refine g_iconst X492 at_97 (pc' := 98) rfl (v := (1 : Int32)) rfl ?_
  refine g_iloadN X492 at_98 (pc' := 99) rfl rfl ?_
  refine g_bipush X492 at_99 (pc' := 101) rfl (v := (8 : Int32)) rfl ?_
  refine g_iushr X492 at_101 (pc' := 102) rfl ?_
  refine g_i2b X492 at_102 (pc' := 103) rfl ?_
  refine g_bastore X492 (i := 1) A492 (by decide) (by simp) l474 at_103 (pc' := 104) rfl (fun T493 h493 X493 W493 A493 => ?_)
  have A493 : Arx Z h493 b474 .byte [(.int (nar .byte (q_.toInt8.toInt32))), (.int (nar .byte (((q_.toUInt32 >>> ((8 : Int32) &&& 31).toUInt32).toInt32).toInt8.toInt32))), (.int (0 : Int32)), (.int (0 : Int32))] := A493
  refine g_aload X493 at_104 (pc' := 106) rfl rfl rfl ?_
  refine g_iconst X493 at_106 (pc' := 107) rfl (v := (2 : Int32)) rfl ?_
  refine g_iloadN X493 at_107 (pc' := 108) rfl rfl ?_
  refine g_bipush X493 at_108 (pc' := 110) rfl (v := (16 : Int32)) rfl ?_
  refine g_iushr X493 at_110 (pc' := 111) rfl ?_
  refine g_i2b X493 at_111 (pc' := 112) rfl ?_
  refine g_bastore X493 (i := 2) A493 (by decide) (by simp) l474 at_112 (pc' := 113) rfl (fun T494 h494 X494 W494 A494 => ?_)
  have A494 : Arx Z h494 b474 .byte [(.int (nar .byte (q_.toInt8.toInt32))), (.int (nar .byte (((q_.toUInt32 >>> ((8 : Int32) &&& 31).toUInt32).toInt32).toInt8.toInt32))), (.int (nar .byte (((q_.toUInt32 >>> ((16 : Int32) &&& 31).toUInt32).toInt32).toInt8.toInt32))), (.int (0 : Int32))] := A494
  refine g_aload X494 at_113 (pc' := 115) rfl rfl rfl ?_
  refine g_iconst X494 at_115 (pc' := 116) rfl (v := (3 : Int32)) rfl ?_
  refine g_iloadN X494 at_116 (pc' := 117) rfl rfl ?_
  refine g_bipush X494 at_117 (pc' := 119) rfl (v := (24 : Int32)) rfl ?_
  refine g_iushr X494 at_119 (pc' := 120) rfl ?_
  refine g_i2b X494 at_120 (pc' := 121) rfl ?_
  refine g_bastore X494 (i := 3) A494 (by decide) (by simp) l474 at_121 (pc' := 122) rfl (fun T495 h495 X495 W495 A495 => ?_)
  have A495 : Arx Z h495 b474 .byte [(.int (nar .byte (q_.toInt8.toInt32))), (.int (nar .byte (((q_.toUInt32 >>> ((8 : Int32) &&& 31).toUInt32).toInt32).toInt8.toInt32))), (.int (nar .byte (((q_.toUInt32 >>> ((16 : Int32) &&& 31).toUInt32).toInt32).toInt8.toInt32))), (.int (nar .byte (((q_.toUInt32 >>> ((24 : Int32) &&& 31).toUInt32).toInt32).toInt8.toInt32)))] := A495
  obtain ⟨qs, hqs, Aq⟩ : ∃ qs : List Int32, qs.length = 4 ∧ Arx Z h495 b474 .byte (Nar.own_bs qs) := ⟨[(nar .byte (q_.toInt8.toInt32)), (nar .byte (((q_.toUInt32 >>> ((8 : Int32) &&& 31).toUInt32).toInt32).toInt8.toInt32)), (nar .byte (((q_.toUInt32 >>> ((16 : Int32) &&& 31).toUInt32).toInt32).toInt8.toInt32)), (nar .byte (((q_.toUInt32 >>> ((24 : Int32) &&& 31).toUInt32).toInt32).toInt8.toInt32))], rfl, A495⟩
  refine g_iconst X495 at_122 (pc' := 123) rfl (v := (0 : Int32)) rfl ?_
  refine g_istore X495 at_123 (pc' := 125) rfl (L' := #[.val (.long t_), .second, .val (.int q_), .val (.int ra), .val (.int rb), .val (.int rc), .val (.int z421), .val (.int z422), .val (.int z423), .val (.ref a424), .val (.ref a425), .val (.ref a426), .val (.ref b427), .val (.ref b438), .val (.ref b452), .val (.int (Int32.ofNat (U (zsOf z421)).length)), .val (.int (Int32.ofNat (U (zsOf z422)).length)), .val (.int (Int32.ofNat (U (zsOf z423)).length)), .val (.ref b474), .val (.int (0 : Int32)), .unset, .unset, .unset, .unset, .unset, .unset, .unset, .unset, .unset, .unset, .unset, .unset, .unset, .unset]) rfl ?_
  have J181 : ∀ (n1 n2 : Int32) (T : State) (locs : List Loc), NV (zsOf z421) (zsOf z422) (zsOf z423) n1 n2 → St Z n0 p l e room_1 s T426.vm m #[(.long t_), (.int q_), (.int ra), (.int rb), (.int rc)] below meth cc x.cls x.name code maxLocals ret T locs 22 52 h495 → Go p e below (Kq s room_1.cells room_1.slots (fun v h L => v = some (.int 1) ∧ Fr n0 L)) (T.setTop (mkF m 181 #[.val (.long t_), .second, .val (.int q_), .val (.int ra), .val (.int rb), .val (.int rc), .val (.int z421), .val (.int z422), .val (.int z423), .val (.ref a424), .val (.ref a425), .val (.ref a426), .val (.ref b427), .val (.ref b438), .val (.ref b452), .val (.int (Int32.ofNat (U (zsOf z421)).length)), .val (.int (Int32.ofNat (U (zsOf z422)).length)), .val (.int (Int32.ofNat (U (zsOf z423)).length)), .val (.ref b474), .val (.int (0 : Int32)), .val (.int n1), .val (.int (n1 + (1 : Int32))), .val (.int n2), .unset, .unset, .unset, .unset, .unset, .unset, .unset, .unset, .unset, .unset, .unset] [])) := by
    intro n1 n2 T locs hNV X
    refine g_iloadN X at_181 (pc' := 182) rfl rfl ?_
    refine g_ncallS X (y := (⟨"com/example/indexloom/indexloom/TextsFindPinLaw", "start", "(I)I"⟩ : MethodName)) [(.int ra)] (hw _ m44) (hw _ m45) (hw _ m2) (hw _ m46) (hw _ m2) (Nar.rm9 l Z a0 hw ra h495 n0 X.old) (by decide) (by decide) (by decide) (by decide) (by decide) rfl pd_4 rfl (rest := []) rfl (W := 0) rfl at_182 (pc' := 185) rfl ?_
    rintro _ T496 _ _ Y496 ⟨x496, rfl, hx496, rfl, rfl⟩
    have X496 := Y496 X.old (Fr.nil _) (Nat.le_refl _)
    show Go p e below _ (State.setTop _ (mkF m 185 #[.val (.long t_), .second, .val (.int q_), .val (.int ra), .val (.int rb), .val (.int rc), .val (.int z421), .val (.int z422), .val (.int z423), .val (.ref a424), .val (.ref a425), .val (.ref a426), .val (.ref b427), .val (.ref b438), .val (.ref b452), .val (.int (Int32.ofNat (U (zsOf z421)).length)), .val (.int (Int32.ofNat (U (zsOf z422)).length)), .val (.int (Int32.ofNat (U (zsOf z423)).length)), .val (.ref b474), .val (.int (0 : Int32)), .val (.int n1), .val (.int (n1 + (1 : Int32))), .val (.int n2), .unset, .unset, .unset, .unset, .unset, .unset, .unset, .unset, .unset, .unset, .unset] [(.int (Int32.ofNat x496))]))
    refine g_istore X496 at_185 (pc' := 187) rfl (L' := #[.val (.long t_), .second, .val (.int q_), .val (.int ra), .val (.int rb), .val (.int rc), .val (.int z421), .val (.int z422), .val (.int z423), .val (.ref a424), .val (.ref a425), .val (.ref a426), .val (.ref b427), .val (.ref b438), .val (.ref b452), .val (.int (Int32.ofNat (U (zsOf z421)).length)), .val (.int (Int32.ofNat (U (zsOf z422)).length)), .val (.int (Int32.ofNat (U (zsOf z423)).length)), .val (.ref b474), .val (.int (0 : Int32)), .val (.int n1), .val (.int (n1 + (1 : Int32))), .val (.int n2), .val (.int (Int32.ofNat x496)), .unset, .unset, .unset, .unset, .unset, .unset, .unset, .unset, .unset, .unset]) rfl ?_
    refine g_iloadN X496 at_187 (pc' := 188) rfl rfl ?_
    refine g_iload X496 at_188 (pc' := 190) rfl rfl ?_
    refine g_ncallS X496 (y := (⟨"com/example/indexloom/indexloom/TextsFindPinLaw", "end", "(II)I"⟩ : MethodName)) [(.int ra), (.int (Int32.ofNat x496))] (hw _ m47) (hw _ m48) (hw _ m2) (hw _ m49) (hw _ m2) (Nar.rm10 l Z a0 hw ra x496 h495 n0 X496.old hx496) (by decide) (by decide) (by decide) (by decide) (by decide) rfl pd_5 rfl (rest := []) rfl (W := 0) rfl at_190 (pc' := 193) rfl ?_
    rintro _ T497 _ _ Y497 ⟨y497, rfl, hy497, rfl, rfl⟩
    have X497 := Y497 X496.old (Fr.nil _) (Nat.le_refl _)
    show Go p e below _ (State.setTop _ (mkF m 193 #[.val (.long t_), .second, .val (.int q_), .val (.int ra), .val (.int rb), .val (.int rc), .val (.int z421), .val (.int z422), .val (.int z423), .val (.ref a424), .val (.ref a425), .val (.ref a426), .val (.ref b427), .val (.ref b438), .val (.ref b452), .val (.int (Int32.ofNat (U (zsOf z421)).length)), .val (.int (Int32.ofNat (U (zsOf z422)).length)), .val (.int (Int32.ofNat (U (zsOf z423)).length)), .val (.ref b474), .val (.int (0 : Int32)), .val (.int n1), .val (.int (n1 + (1 : Int32))), .val (.int n2), .val (.int (Int32.ofNat x496)), .unset, .unset, .unset, .unset, .unset, .unset, .unset, .unset, .unset, .unset] [(.int (Int32.ofNat y497))]))
    refine g_istore X497 at_193 (pc' := 195) rfl (L' := #[.val (.long t_), .second, .val (.int q_), .val (.int ra), .val (.int rb), .val (.int rc), .val (.int z421), .val (.int z422), .val (.int z423), .val (.ref a424), .val (.ref a425), .val (.ref a426), .val (.ref b427), .val (.ref b438), .val (.ref b452), .val (.int (Int32.ofNat (U (zsOf z421)).length)), .val (.int (Int32.ofNat (U (zsOf z422)).length)), .val (.int (Int32.ofNat (U (zsOf z423)).length)), .val (.ref b474), .val (.int (0 : Int32)), .val (.int n1), .val (.int (n1 + (1 : Int32))), .val (.int n2), .val (.int (Int32.ofNat x496)), .val (.int (Int32.ofNat y497)), .unset, .unset, .unset, .unset, .unset, .unset, .unset, .unset, .unset]) rfl ?_
    refine g_iload X497 at_195 (pc' := 197) rfl rfl ?_
    refine g_ncallS X497 (y := (⟨"com/example/indexloom/indexloom/TextsFindPinLaw", "start", "(I)I"⟩ : MethodName)) [(.int rb)] (hw _ m44) (hw _ m45) (hw _ m2) (hw _ m46) (hw _ m2) (Nar.rm9 l Z a0 hw rb h495 n0 X497.old) (by decide) (by decide) (by decide) (by decide) (by decide) rfl pd_4 rfl (rest := []) rfl (W := 0) rfl at_197 (pc' := 200) rfl ?_
    rintro _ T498 _ _ Y498 ⟨x498, rfl, hx498, rfl, rfl⟩
    have X498 := Y498 X497.old (Fr.nil _) (Nat.le_refl _)
    show Go p e below _ (State.setTop _ (mkF m 200 #[.val (.long t_), .second, .val (.int q_), .val (.int ra), .val (.int rb), .val (.int rc), .val (.int z421), .val (.int z422), .val (.int z423), .val (.ref a424), .val (.ref a425), .val (.ref a426), .val (.ref b427), .val (.ref b438), .val (.ref b452), .val (.int (Int32.ofNat (U (zsOf z421)).length)), .val (.int (Int32.ofNat (U (zsOf z422)).length)), .val (.int (Int32.ofNat (U (zsOf z423)).length)), .val (.ref b474), .val (.int (0 : Int32)), .val (.int n1), .val (.int (n1 + (1 : Int32))), .val (.int n2), .val (.int (Int32.ofNat x496)), .val (.int (Int32.ofNat y497)), .unset, .unset, .unset, .unset, .unset, .unset, .unset, .unset, .unset] [(.int (Int32.ofNat x498))]))
    refine g_istore X498 at_200 (pc' := 202) rfl (L' := #[.val (.long t_), .second, .val (.int q_), .val (.int ra), .val (.int rb), .val (.int rc), .val (.int z421), .val (.int z422), .val (.int z423), .val (.ref a424), .val (.ref a425), .val (.ref a426), .val (.ref b427), .val (.ref b438), .val (.ref b452), .val (.int (Int32.ofNat (U (zsOf z421)).length)), .val (.int (Int32.ofNat (U (zsOf z422)).length)), .val (.int (Int32.ofNat (U (zsOf z423)).length)), .val (.ref b474), .val (.int (0 : Int32)), .val (.int n1), .val (.int (n1 + (1 : Int32))), .val (.int n2), .val (.int (Int32.ofNat x496)), .val (.int (Int32.ofNat y497)), .val (.int (Int32.ofNat x498)), .unset, .unset, .unset, .unset, .unset, .unset, .unset, .unset]) rfl ?_
    refine g_iload X498 at_202 (pc' := 204) rfl rfl ?_
    refine g_iload X498 at_204 (pc' := 206) rfl rfl ?_
    refine g_ncallS X498 (y := (⟨"com/example/indexloom/indexloom/TextsFindPinLaw", "end", "(II)I"⟩ : MethodName)) [(.int rb), (.int (Int32.ofNat x498))] (hw _ m47) (hw _ m48) (hw _ m2) (hw _ m49) (hw _ m2) (Nar.rm10 l Z a0 hw rb x498 h495 n0 X498.old hx498) (by decide) (by decide) (by decide) (by decide) (by decide) rfl pd_5 rfl (rest := []) rfl (W := 0) rfl at_206 (pc' := 209) rfl ?_
    rintro _ T499 _ _ Y499 ⟨y499, rfl, hy499, rfl, rfl⟩
    have X499 := Y499 X498.old (Fr.nil _) (Nat.le_refl _)
    show Go p e below _ (State.setTop _ (mkF m 209 #[.val (.long t_), .second, .val (.int q_), .val (.int ra), .val (.int rb), .val (.int rc), .val (.int z421), .val (.int z422), .val (.int z423), .val (.ref a424), .val (.ref a425), .val (.ref a426), .val (.ref b427), .val (.ref b438), .val (.ref b452), .val (.int (Int32.ofNat (U (zsOf z421)).length)), .val (.int (Int32.ofNat (U (zsOf z422)).length)), .val (.int (Int32.ofNat (U (zsOf z423)).length)), .val (.ref b474), .val (.int (0 : Int32)), .val (.int n1), .val (.int (n1 + (1 : Int32))), .val (.int n2), .val (.int (Int32.ofNat x496)), .val (.int (Int32.ofNat y497)), .val (.int (Int32.ofNat x498)), .unset, .unset, .unset, .unset, .unset, .unset, .unset, .unset] [(.int (Int32.ofNat y499))]))
    refine g_istore X499 at_209 (pc' := 211) rfl (L' := #[.val (.long t_), .second, .val (.int q_), .val (.int ra), .val (.int rb), .val (.int rc), .val (.int z421), .val (.int z422), .val (.int z423), .val (.ref a424), .val (.ref a425), .val (.ref a426), .val (.ref b427), .val (.ref b438), .val (.ref b452), .val (.int (Int32.ofNat (U (zsOf z421)).length)), .val (.int (Int32.ofNat (U (zsOf z422)).length)), .val (.int (Int32.ofNat (U (zsOf z423)).length)), .val (.ref b474), .val (.int (0 : Int32)), .val (.int n1), .val (.int (n1 + (1 : Int32))), .val (.int n2), .val (.int (Int32.ofNat x496)), .val (.int (Int32.ofNat y497)), .val (.int (Int32.ofNat x498)), .val (.int (Int32.ofNat y499)), .unset, .unset, .unset, .unset, .unset, .unset, .unset]) rfl ?_
    refine g_iload X499 at_211 (pc' := 213) rfl rfl ?_
    refine g_ncallS X499 (y := (⟨"com/example/indexloom/indexloom/TextsFindPinLaw", "start", "(I)I"⟩ : MethodName)) [(.int rc)] (hw _ m44) (hw _ m45) (hw _ m2) (hw _ m46) (hw _ m2) (Nar.rm9 l Z a0 hw rc h495 n0 X499.old) (by decide) (by decide) (by decide) (by decide) (by decide) rfl pd_4 rfl (rest := []) rfl (W := 0) rfl at_213 (pc' := 216) rfl ?_
    rintro _ T500 _ _ Y500 ⟨x500, rfl, hx500, rfl, rfl⟩
    have X500 := Y500 X499.old (Fr.nil _) (Nat.le_refl _)
    show Go p e below _ (State.setTop _ (mkF m 216 #[.val (.long t_), .second, .val (.int q_), .val (.int ra), .val (.int rb), .val (.int rc), .val (.int z421), .val (.int z422), .val (.int z423), .val (.ref a424), .val (.ref a425), .val (.ref a426), .val (.ref b427), .val (.ref b438), .val (.ref b452), .val (.int (Int32.ofNat (U (zsOf z421)).length)), .val (.int (Int32.ofNat (U (zsOf z422)).length)), .val (.int (Int32.ofNat (U (zsOf z423)).length)), .val (.ref b474), .val (.int (0 : Int32)), .val (.int n1), .val (.int (n1 + (1 : Int32))), .val (.int n2), .val (.int (Int32.ofNat x496)), .val (.int (Int32.ofNat y497)), .val (.int (Int32.ofNat x498)), .val (.int (Int32.ofNat y499)), .unset, .unset, .unset, .unset, .unset, .unset, .unset] [(.int (Int32.ofNat x500))]))
    refine g_istore X500 at_216 (pc' := 218) rfl (L' := #[.val (.long t_), .second, .val (.int q_), .val (.int ra), .val (.int rb), .val (.int rc), .val (.int z421), .val (.int z422), .val (.int z423), .val (.ref a424), .val (.ref a425), .val (.ref a426), .val (.ref b427), .val (.ref b438), .val (.ref b452), .val (.int (Int32.ofNat (U (zsOf z421)).length)), .val (.int (Int32.ofNat (U (zsOf z422)).length)), .val (.int (Int32.ofNat (U (zsOf z423)).length)), .val (.ref b474), .val (.int (0 : Int32)), .val (.int n1), .val (.int (n1 + (1 : Int32))), .val (.int n2), .val (.int (Int32.ofNat x496)), .val (.int (Int32.ofNat y497)), .val (.int (Int32.ofNat x498)), .val (.int (Int32.ofNat y499)), .val (.int (Int32.ofNat x500)), .unset, .unset, .unset, .unset, .unset, .unset]) rfl ?_
    refine g_iload X500 at_218 (pc' := 220) rfl rfl ?_
    refine g_iload X500 at_220 (pc' := 222) rfl rfl ?_
    refine g_ncallS X500 (y := (⟨"com/example/indexloom/indexloom/TextsFindPinLaw", "end", "(II)I"⟩ : MethodName)) [(.int rc), (.int (Int32.ofNat x500))] (hw _ m47) (hw _ m48) (hw _ m2) (hw _ m49) (hw _ m2) (Nar.rm10 l Z a0 hw rc x500 h495 n0 X500.old hx500) (by decide) (by decide) (by decide) (by decide) (by decide) rfl pd_5 rfl (rest := []) rfl (W := 0) rfl at_222 (pc' := 225) rfl ?_
    rintro _ T501 _ _ Y501 ⟨y501, rfl, hy501, rfl, rfl⟩
    have X501 := Y501 X500.old (Fr.nil _) (Nat.le_refl _)
    show Go p e below _ (State.setTop _ (mkF m 225 #[.val (.long t_), .second, .val (.int q_), .val (.int ra), .val (.int rb), .val (.int rc), .val (.int z421), .val (.int z422), .val (.int z423), .val (.ref a424), .val (.ref a425), .val (.ref a426), .val (.ref b427), .val (.ref b438), .val (.ref b452), .val (.int (Int32.ofNat (U (zsOf z421)).length)), .val (.int (Int32.ofNat (U (zsOf z422)).length)), .val (.int (Int32.ofNat (U (zsOf z423)).length)), .val (.ref b474), .val (.int (0 : Int32)), .val (.int n1), .val (.int (n1 + (1 : Int32))), .val (.int n2), .val (.int (Int32.ofNat x496)), .val (.int (Int32.ofNat y497)), .val (.int (Int32.ofNat x498)), .val (.int (Int32.ofNat y499)), .val (.int (Int32.ofNat x500)), .unset, .unset, .unset, .unset, .unset, .unset] [(.int (Int32.ofNat y501))]))
    refine g_istore X501 at_225 (pc' := 227) rfl (L' := #[.val (.long t_), .second, .val (.int q_), .val (.int ra), .val (.int rb), .val (.int rc), .val (.int z421), .val (.int z422), .val (.int z423), .val (.ref a424), .val (.ref a425), .val (.ref a426), .val (.ref b427), .val (.ref b438), .val (.ref b452), .val (.int (Int32.ofNat (U (zsOf z421)).length)), .val (.int (Int32.ofNat (U (zsOf z422)).length)), .val (.int (Int32.ofNat (U (zsOf z423)).length)), .val (.ref b474), .val (.int (0 : Int32)), .val (.int n1), .val (.int (n1 + (1 : Int32))), .val (.int n2), .val (.int (Int32.ofNat x496)), .val (.int (Int32.ofNat y497)), .val (.int (Int32.ofNat x498)), .val (.int (Int32.ofNat y499)), .val (.int (Int32.ofNat x500)), .val (.int (Int32.ofNat y501)), .unset, .unset, .unset, .unset, .unset]) rfl ?_
    refine g_aload X501 at_227 (pc' := 229) rfl rfl rfl ?_
    refine g_iload X501 at_229 (pc' := 231) rfl rfl ?_
    refine g_iload X501 at_231 (pc' := 233) rfl rfl ?_
    refine g_aload X501 at_233 (pc' := 235) rfl rfl rfl ?_
    refine g_iload X501 at_235 (pc' := 237) rfl rfl ?_
    refine g_iload X501 at_237 (pc' := 239) rfl rfl ?_
    refine g_aload X501 at_239 (pc' := 241) rfl rfl rfl ?_
    refine g_iload X501 at_241 (pc' := 243) rfl rfl ?_
    refine g_iload X501 at_243 (pc' := 245) rfl rfl ?_
    refine g_aload X501 at_245 (pc' := 247) rfl rfl rfl ?_
    refine g_iload X501 at_247 (pc' := 249) rfl rfl ?_
    refine g_iload X501 at_249 (pc' := 251) rfl rfl ?_
    have f502 := (((((f488.ext E474).other W492 ne487).other W493 ne487).other W494 ne487).other W495 ne487)
    have f503 := (((((f490.ext E474).other W492 ne489).other W493 ne489).other W494 ne489).other W495 ne489)
    have f504 := (((((A473x.ext E474).other W492 ne491).other W493 ne491).other W494 ne491).other W495 ne491)
    refine g_ncallS X501 (y := (⟨"com/example/indexloom/indexloom/TextsFindPinLaw", "expected", "([BII[BII[BII[BII)I"⟩ : MethodName)) [(.ref b474), (.int (Int32.ofNat x496)), (.int (Int32.ofNat y497)), (.ref b427), (.int (Int32.ofNat (U (zsOf z421)).length)), (.int (0 : Int32)), (.ref b438), (.int (Int32.ofNat (U (zsOf z422)).length)), (.int n1), (.ref b452), (.int (Int32.ofNat (U (zsOf z423)).length)), (.int n2)] (hw _ m51) (hw _ m52) (hw _ m2) (hw _ m53) (hw _ m2) (Nar.rm11 l Z a0 hw b474 x496 y497 b427 (U (zsOf z421)).length (0 : Int32) b438 (U (zsOf z422)).length n1 b452 (U (zsOf z423)).length n2 h495 n0 X501.old qs ((U (zsOf z421)) ++ List.replicate (4 - (U (zsOf z421)).length) 0) ((U (zsOf z422)) ++ List.replicate (4 - (U (zsOf z422)).length) 0) ((U (zsOf z423)) ++ List.replicate (4 - (U (zsOf z423)).length) 0) Aq hqs hy497.1 hy497.2 f502 (own_wl z421) (own_ul z421) f503 (own_wl z422) (own_ul z422) f504 (own_wl z423) (own_ul z423)) (by decide) (by decide) (by decide) (by decide) (by decide) rfl pd_26 rfl (rest := []) rfl (W := 0) rfl at_251 (pc' := 254) rfl ?_
    rintro _ T505 _ _ Y505 ⟨e505, rfl, r505, rfl, rfl⟩
    have X505 := Y505 X501.old (Fr.nil _) (Nat.le_refl _)
    simp only [own_tk] at r505
    show Go p e below _ (State.setTop _ (mkF m 254 #[.val (.long t_), .second, .val (.int q_), .val (.int ra), .val (.int rb), .val (.int rc), .val (.int z421), .val (.int z422), .val (.int z423), .val (.ref a424), .val (.ref a425), .val (.ref a426), .val (.ref b427), .val (.ref b438), .val (.ref b452), .val (.int (Int32.ofNat (U (zsOf z421)).length)), .val (.int (Int32.ofNat (U (zsOf z422)).length)), .val (.int (Int32.ofNat (U (zsOf z423)).length)), .val (.ref b474), .val (.int (0 : Int32)), .val (.int n1), .val (.int (n1 + (1 : Int32))), .val (.int n2), .val (.int (Int32.ofNat x496)), .val (.int (Int32.ofNat y497)), .val (.int (Int32.ofNat x498)), .val (.int (Int32.ofNat y499)), .val (.int (Int32.ofNat x500)), .val (.int (Int32.ofNat y501)), .unset, .unset, .unset, .unset, .unset] [(.int e505)]))
    refine g_istore X505 at_254 (pc' := 256) rfl (L' := #[.val (.long t_), .second, .val (.int q_), .val (.int ra), .val (.int rb), .val (.int rc), .val (.int z421), .val (.int z422), .val (.int z423), .val (.ref a424), .val (.ref a425), .val (.ref a426), .val (.ref b427), .val (.ref b438), .val (.ref b452), .val (.int (Int32.ofNat (U (zsOf z421)).length)), .val (.int (Int32.ofNat (U (zsOf z422)).length)), .val (.int (Int32.ofNat (U (zsOf z423)).length)), .val (.ref b474), .val (.int (0 : Int32)), .val (.int n1), .val (.int (n1 + (1 : Int32))), .val (.int n2), .val (.int (Int32.ofNat x496)), .val (.int (Int32.ofNat y497)), .val (.int (Int32.ofNat x498)), .val (.int (Int32.ofNat y499)), .val (.int (Int32.ofNat x500)), .val (.int (Int32.ofNat y501)), .val (.int e505), .unset, .unset, .unset, .unset]) rfl ?_
    refine g_aload X505 at_256 (pc' := 258) rfl rfl rfl ?_
    refine g_iload X505 at_258 (pc' := 260) rfl rfl ?_
    refine g_iload X505 at_260 (pc' := 262) rfl rfl ?_
    refine g_aload X505 at_262 (pc' := 264) rfl rfl rfl ?_
    refine g_iload X505 at_264 (pc' := 266) rfl rfl ?_
    refine g_iload X505 at_266 (pc' := 268) rfl rfl ?_
    refine g_aload X505 at_268 (pc' := 270) rfl rfl rfl ?_
    refine g_iload X505 at_270 (pc' := 272) rfl rfl ?_
    refine g_iload X505 at_272 (pc' := 274) rfl rfl ?_
    refine g_aload X505 at_274 (pc' := 276) rfl rfl rfl ?_
    refine g_iload X505 at_276 (pc' := 278) rfl rfl ?_
    refine g_iload X505 at_278 (pc' := 280) rfl rfl ?_
    refine g_ncallS X505 (y := (⟨"com/example/indexloom/indexloom/TextsFindPinLaw", "expected", "([BII[BII[BII[BII)I"⟩ : MethodName)) [(.ref b474), (.int (Int32.ofNat x498)), (.int (Int32.ofNat y499)), (.ref b427), (.int (Int32.ofNat (U (zsOf z421)).length)), (.int (0 : Int32)), (.ref b438), (.int (Int32.ofNat (U (zsOf z422)).length)), (.int n1), (.ref b452), (.int (Int32.ofNat (U (zsOf z423)).length)), (.int n2)] (hw _ m51) (hw _ m52) (hw _ m2) (hw _ m53) (hw _ m2) (Nar.rm11 l Z a0 hw b474 x498 y499 b427 (U (zsOf z421)).length (0 : Int32) b438 (U (zsOf z422)).length n1 b452 (U (zsOf z423)).length n2 h495 n0 X505.old qs ((U (zsOf z421)) ++ List.replicate (4 - (U (zsOf z421)).length) 0) ((U (zsOf z422)) ++ List.replicate (4 - (U (zsOf z422)).length) 0) ((U (zsOf z423)) ++ List.replicate (4 - (U (zsOf z423)).length) 0) Aq hqs hy499.1 hy499.2 f502 (own_wl z421) (own_ul z421) f503 (own_wl z422) (own_ul z422) f504 (own_wl z423) (own_ul z423)) (by decide) (by decide) (by decide) (by decide) (by decide) rfl pd_26 rfl (rest := []) rfl (W := 0) rfl at_280 (pc' := 283) rfl ?_
    rintro _ T506 _ _ Y506 ⟨e506, rfl, r506, rfl, rfl⟩
    have X506 := Y506 X505.old (Fr.nil _) (Nat.le_refl _)
    simp only [own_tk] at r506
    show Go p e below _ (State.setTop _ (mkF m 283 #[.val (.long t_), .second, .val (.int q_), .val (.int ra), .val (.int rb), .val (.int rc), .val (.int z421), .val (.int z422), .val (.int z423), .val (.ref a424), .val (.ref a425), .val (.ref a426), .val (.ref b427), .val (.ref b438), .val (.ref b452), .val (.int (Int32.ofNat (U (zsOf z421)).length)), .val (.int (Int32.ofNat (U (zsOf z422)).length)), .val (.int (Int32.ofNat (U (zsOf z423)).length)), .val (.ref b474), .val (.int (0 : Int32)), .val (.int n1), .val (.int (n1 + (1 : Int32))), .val (.int n2), .val (.int (Int32.ofNat x496)), .val (.int (Int32.ofNat y497)), .val (.int (Int32.ofNat x498)), .val (.int (Int32.ofNat y499)), .val (.int (Int32.ofNat x500)), .val (.int (Int32.ofNat y501)), .val (.int e505), .unset, .unset, .unset, .unset] [(.int e506)]))
    refine g_istore X506 at_283 (pc' := 285) rfl (L' := #[.val (.long t_), .second, .val (.int q_), .val (.int ra), .val (.int rb), .val (.int rc), .val (.int z421), .val (.int z422), .val (.int z423), .val (.ref a424), .val (.ref a425), .val (.ref a426), .val (.ref b427), .val (.ref b438), .val (.ref b452), .val (.int (Int32.ofNat (U (zsOf z421)).length)), .val (.int (Int32.ofNat (U (zsOf z422)).length)), .val (.int (Int32.ofNat (U (zsOf z423)).length)), .val (.ref b474), .val (.int (0 : Int32)), .val (.int n1), .val (.int (n1 + (1 : Int32))), .val (.int n2), .val (.int (Int32.ofNat x496)), .val (.int (Int32.ofNat y497)), .val (.int (Int32.ofNat x498)), .val (.int (Int32.ofNat y499)), .val (.int (Int32.ofNat x500)), .val (.int (Int32.ofNat y501)), .val (.int e505), .val (.int e506), .unset, .unset, .unset]) rfl ?_
    refine g_aload X506 at_285 (pc' := 287) rfl rfl rfl ?_
    refine g_iload X506 at_287 (pc' := 289) rfl rfl ?_
    refine g_iload X506 at_289 (pc' := 291) rfl rfl ?_
    refine g_aload X506 at_291 (pc' := 293) rfl rfl rfl ?_
    refine g_iload X506 at_293 (pc' := 295) rfl rfl ?_
    refine g_iload X506 at_295 (pc' := 297) rfl rfl ?_
    refine g_aload X506 at_297 (pc' := 299) rfl rfl rfl ?_
    refine g_iload X506 at_299 (pc' := 301) rfl rfl ?_
    refine g_iload X506 at_301 (pc' := 303) rfl rfl ?_
    refine g_aload X506 at_303 (pc' := 305) rfl rfl rfl ?_
    refine g_iload X506 at_305 (pc' := 307) rfl rfl ?_
    refine g_iload X506 at_307 (pc' := 309) rfl rfl ?_
    refine g_ncallS X506 (y := (⟨"com/example/indexloom/indexloom/TextsFindPinLaw", "expected", "([BII[BII[BII[BII)I"⟩ : MethodName)) [(.ref b474), (.int (Int32.ofNat x500)), (.int (Int32.ofNat y501)), (.ref b427), (.int (Int32.ofNat (U (zsOf z421)).length)), (.int (0 : Int32)), (.ref b438), (.int (Int32.ofNat (U (zsOf z422)).length)), (.int n1), (.ref b452), (.int (Int32.ofNat (U (zsOf z423)).length)), (.int n2)] (hw _ m51) (hw _ m52) (hw _ m2) (hw _ m53) (hw _ m2) (Nar.rm11 l Z a0 hw b474 x500 y501 b427 (U (zsOf z421)).length (0 : Int32) b438 (U (zsOf z422)).length n1 b452 (U (zsOf z423)).length n2 h495 n0 X506.old qs ((U (zsOf z421)) ++ List.replicate (4 - (U (zsOf z421)).length) 0) ((U (zsOf z422)) ++ List.replicate (4 - (U (zsOf z422)).length) 0) ((U (zsOf z423)) ++ List.replicate (4 - (U (zsOf z423)).length) 0) Aq hqs hy501.1 hy501.2 f502 (own_wl z421) (own_ul z421) f503 (own_wl z422) (own_ul z422) f504 (own_wl z423) (own_ul z423)) (by decide) (by decide) (by decide) (by decide) (by decide) rfl pd_26 rfl (rest := []) rfl (W := 0) rfl at_309 (pc' := 312) rfl ?_
    rintro _ T507 _ _ Y507 ⟨e507, rfl, r507, rfl, rfl⟩
    have X507 := Y507 X506.old (Fr.nil _) (Nat.le_refl _)
    simp only [own_tk] at r507
    show Go p e below _ (State.setTop _ (mkF m 312 #[.val (.long t_), .second, .val (.int q_), .val (.int ra), .val (.int rb), .val (.int rc), .val (.int z421), .val (.int z422), .val (.int z423), .val (.ref a424), .val (.ref a425), .val (.ref a426), .val (.ref b427), .val (.ref b438), .val (.ref b452), .val (.int (Int32.ofNat (U (zsOf z421)).length)), .val (.int (Int32.ofNat (U (zsOf z422)).length)), .val (.int (Int32.ofNat (U (zsOf z423)).length)), .val (.ref b474), .val (.int (0 : Int32)), .val (.int n1), .val (.int (n1 + (1 : Int32))), .val (.int n2), .val (.int (Int32.ofNat x496)), .val (.int (Int32.ofNat y497)), .val (.int (Int32.ofNat x498)), .val (.int (Int32.ofNat y499)), .val (.int (Int32.ofNat x500)), .val (.int (Int32.ofNat y501)), .val (.int e505), .val (.int e506), .unset, .unset, .unset] [(.int e507)]))
    refine g_istore X507 at_312 (pc' := 314) rfl (L' := #[.val (.long t_), .second, .val (.int q_), .val (.int ra), .val (.int rb), .val (.int rc), .val (.int z421), .val (.int z422), .val (.int z423), .val (.ref a424), .val (.ref a425), .val (.ref a426), .val (.ref b427), .val (.ref b438), .val (.ref b452), .val (.int (Int32.ofNat (U (zsOf z421)).length)), .val (.int (Int32.ofNat (U (zsOf z422)).length)), .val (.int (Int32.ofNat (U (zsOf z423)).length)), .val (.ref b474), .val (.int (0 : Int32)), .val (.int n1), .val (.int (n1 + (1 : Int32))), .val (.int n2), .val (.int (Int32.ofNat x496)), .val (.int (Int32.ofNat y497)), .val (.int (Int32.ofNat x498)), .val (.int (Int32.ofNat y499)), .val (.int (Int32.ofNat x500)), .val (.int (Int32.ofNat y501)), .val (.int e505), .val (.int e506), .val (.int e507), .unset, .unset]) rfl ?_
    refine g_new X507 (hw _ m57) (hw _ m58) (hw _ m59) at_314 (pc' := 317) rfl (by decide) (by decide) (fun T508 h508 b508 X508 g508 E508 A508 D508 l508 => ?_)
    have f510 := (((((f476.ext E474).wr W492).wr W493).wr W494).wr W495)
    have ne509 : a424 ≠ b508 := ne_new f510.lt g508
    have f512 := (((((f478.ext E474).other W492 ne477).other W493 ne477).other W494 ne477).other W495 ne477)
    have ne511 : u424 ≠ b508 := ne_new f512.lt g508
    have f514 := (((((f480.ext E474).wr W492).wr W493).wr W494).wr W495)
    have ne513 : a425 ≠ b508 := ne_new f514.lt g508
    have f516 := (((((f482.ext E474).other W492 ne481).other W493 ne481).other W494 ne481).other W495 ne481)
    have ne515 : u425 ≠ b508 := ne_new f516.lt g508
    have f518 := (((((f484.ext E474).wr W492).wr W493).wr W494).wr W495)
    have ne517 : a426 ≠ b508 := ne_new f518.lt g508
    have f520 := (((((f486.ext E474).other W492 ne485).other W493 ne485).other W494 ne485).other W495 ne485)
    have ne519 : u426 ≠ b508 := ne_new f520.lt g508
    have ne521 : b427 ≠ b508 := ne_new f502.lt g508
    have ne522 : b438 ≠ b508 := ne_new f503.lt g508
    have ne523 : b452 ≠ b508 := ne_new f504.lt g508
    have ne524 : b474 ≠ b508 := ne_new Aq.lt g508
    have F508_slots : Fld Z h508 b508 "com/example/indexloom/indexloom/Texts" "slots" "[I" .null := D508 (Or.inl (hw _ m66)) (ty := (.array .int)) (by decide)
    have F508_bytes : Fld Z h508 b508 "com/example/indexloom/indexloom/Texts" "bytes" "[[B" .null := D508 (Or.inl (hw _ m70)) (ty := (.array (.array .byte))) (by decide)
    have F508_hashes : Fld Z h508 b508 "com/example/indexloom/indexloom/Texts" "hashes" "[I" .null := D508 (Or.inl (hw _ m72)) (ty := (.array .int)) (by decide)
    have F508_texts : Fld Z h508 b508 "com/example/indexloom/indexloom/Texts" "texts" "[Ljava/lang/String;" .null := D508 (Or.inl (hw _ m76)) (ty := (.array (.object "java/lang/String"))) (by decide)
    have F508_following : Fld Z h508 b508 "com/example/indexloom/indexloom/Texts" "following" "[I" .null := D508 (Or.inl (hw _ m78)) (ty := (.array .int)) (by decide)
    have F508_last : Fld Z h508 b508 "com/example/indexloom/indexloom/Texts" "last" "I" (.int (0 : Int32)) := D508 (Or.inl (hw _ m80)) (ty := .int) (by decide)
    have F508_size : Fld Z h508 b508 "com/example/indexloom/indexloom/Texts" "size" "I" (.int (0 : Int32)) := D508 (Or.inl (hw _ m135)) (ty := .int) (by decide)
    refine g_dup X508 at_317 (pc' := 318) rfl rfl ?_
    refine g_ncallI X508 (y := (⟨"com/example/indexloom/indexloom/Texts", "<init>", "()V"⟩ : MethodName)) (a := b508) [] rfl (hw _ m60) (hw _ m61) rfl (hw _ m62) (hw _ m59) (Nar.rm13 l Z a0 hw b508 h508 n0 X508.old A508 l508 F508_slots F508_bytes F508_hashes F508_texts F508_following F508_last F508_size) (by decide) (by decide) (by decide) (by decide) (by decide) rfl pd_27 rfl (rest := [(.ref b508)]) rfl (W := 1) rfl at_318 (pc' := 321) rfl ?_
    rintro _ T525 h525 L525 Y525 ⟨rfl, N525, z525, K525, H525⟩
    have X525 := Y525 z525 N525 K525.1
    show Go p e below _ (State.setTop _ (mkF m 321 #[.val (.long t_), .second, .val (.int q_), .val (.int ra), .val (.int rb), .val (.int rc), .val (.int z421), .val (.int z422), .val (.int z423), .val (.ref a424), .val (.ref a425), .val (.ref a426), .val (.ref b427), .val (.ref b438), .val (.ref b452), .val (.int (Int32.ofNat (U (zsOf z421)).length)), .val (.int (Int32.ofNat (U (zsOf z422)).length)), .val (.int (Int32.ofNat (U (zsOf z423)).length)), .val (.ref b474), .val (.int (0 : Int32)), .val (.int n1), .val (.int (n1 + (1 : Int32))), .val (.int n2), .val (.int (Int32.ofNat x496)), .val (.int (Int32.ofNat y497)), .val (.int (Int32.ofNat x498)), .val (.int (Int32.ofNat y499)), .val (.int (Int32.ofNat x500)), .val (.int (Int32.ofNat y501)), .val (.int e505), .val (.int e506), .val (.int e507), .unset, .unset] [(.ref b508)]))
    refine g_astore X525 at_321 (pc' := 323) rfl rfl (L' := #[.val (.long t_), .second, .val (.int q_), .val (.int ra), .val (.int rb), .val (.int rc), .val (.int z421), .val (.int z422), .val (.int z423), .val (.ref a424), .val (.ref a425), .val (.ref a426), .val (.ref b427), .val (.ref b438), .val (.ref b452), .val (.int (Int32.ofNat (U (zsOf z421)).length)), .val (.int (Int32.ofNat (U (zsOf z422)).length)), .val (.int (Int32.ofNat (U (zsOf z423)).length)), .val (.ref b474), .val (.int (0 : Int32)), .val (.int n1), .val (.int (n1 + (1 : Int32))), .val (.int n2), .val (.int (Int32.ofNat x496)), .val (.int (Int32.ofNat y497)), .val (.int (Int32.ofNat x498)), .val (.int (Int32.ofNat y499)), .val (.int (Int32.ofNat x500)), .val (.int (Int32.ofNat y501)), .val (.int e505), .val (.int e506), .val (.int e507), .val (.ref b508), .unset]) rfl ?_
    refine g_aload X525 at_323 (pc' := 325) rfl rfl rfl ?_
    refine g_aload X525 at_325 (pc' := 327) rfl rfl rfl ?_
    have f526 := ((f510.ext E508).keep K525)
    have f527 := (((((((((((((((H424.2.1.keep K425 nm0).keep K426 nm0).ext E427).ext E438).ext E452).keep K469 (nm1 ne428)).keep K471 (nm1 ne439)).keep K473 (nm1 ne453)).ext E474).other W492 (Or.inl ne475)).other W493 (Or.inl ne475)).other W494 (Or.inl ne475)).other W495 (Or.inl ne475)).ext E508).keep K525 (nm1 ne509))
    have f528 := (((((((((((((((H424.2.2.1.keep K425 nm0).keep K426 nm0).ext E427).ext E438).ext E452).keep K469 (nm1 ne428)).keep K471 (nm1 ne439)).keep K473 (nm1 ne453)).ext E474).other W492 (Or.inl ne475)).other W493 (Or.inl ne475)).other W494 (Or.inl ne475)).other W495 (Or.inl ne475)).ext E508).keep K525 (nm1 ne509))
    have f529 := ((f512.ext E508).keep K525 (nm1 ne511))
    have f530 := (((((((((((((((HE424.keep K425).keep K426).ext E427).ext E438).ext E452).keep K469).keep K471).keep K473).ext E474).wr W492).wr W493).wr W494).wr W495).ext E508).keep K525)
    have f531 := ((f514.ext E508).keep K525)
    have f532 := ((((((((((((((H425.2.1.keep K426 nm0).ext E427).ext E438).ext E452).keep K469 (nm1 ne432)).keep K471 (nm1 ne443)).keep K473 (nm1 ne457)).ext E474).other W492 (Or.inl ne479)).other W493 (Or.inl ne479)).other W494 (Or.inl ne479)).other W495 (Or.inl ne479)).ext E508).keep K525 (nm1 ne513))
    have f533 := ((((((((((((((H425.2.2.1.keep K426 nm0).ext E427).ext E438).ext E452).keep K469 (nm1 ne432)).keep K471 (nm1 ne443)).keep K473 (nm1 ne457)).ext E474).other W492 (Or.inl ne479)).other W493 (Or.inl ne479)).other W494 (Or.inl ne479)).other W495 (Or.inl ne479)).ext E508).keep K525 (nm1 ne513))
    have f534 := ((f516.ext E508).keep K525 (nm1 ne515))
    have f535 := ((((((((((((((HE425.keep K426).ext E427).ext E438).ext E452).keep K469).keep K471).keep K473).ext E474).wr W492).wr W493).wr W494).wr W495).ext E508).keep K525)
    have f536 := ((f518.ext E508).keep K525)
    have f537 := (((((((((((((H426.2.1.ext E427).ext E438).ext E452).keep K469 (nm1 ne436)).keep K471 (nm1 ne447)).keep K473 (nm1 ne461)).ext E474).other W492 (Or.inl ne483)).other W493 (Or.inl ne483)).other W494 (Or.inl ne483)).other W495 (Or.inl ne483)).ext E508).keep K525 (nm1 ne517))
    have f538 := (((((((((((((H426.2.2.1.ext E427).ext E438).ext E452).keep K469 (nm1 ne436)).keep K471 (nm1 ne447)).keep K473 (nm1 ne461)).ext E474).other W492 (Or.inl ne483)).other W493 (Or.inl ne483)).other W494 (Or.inl ne483)).other W495 (Or.inl ne483)).ext E508).keep K525 (nm1 ne517))
    have f539 := ((f520.ext E508).keep K525 (nm1 ne519))
    have f540 := (((((((((((((HE426.ext E427).ext E438).ext E452).keep K469).keep K471).keep K473).ext E474).wr W492).wr W493).wr W494).wr W495).ext E508).keep K525)
    have f541 := ((Aq.ext E508).keep K525 (nm1 ne524))
    have f543 := (A508.keep K525)
    refine g_ncallV X525 (y := (⟨"com/example/indexloom/indexloom/Texts", "number", "(Ljava/lang/String;)I"⟩ : MethodName)) (z := (⟨"com/example/indexloom/indexloom/Texts", "number", "(Ljava/lang/String;)I"⟩ : MethodName)) (a := b508) [(.ref a424)] (hw _ m81) (hw _ m82) (notFace_of_selects (args := #[]) (mvT X525.hZ (hw _ m84))) (hw _ m84) (hw _ m83) f543 (hw _ m85) (hw _ m59) (Nar.rm14 l Z a0 hw b508 a424 h525 n0 X525.old 0 (fun _ => []) (fun _ => (0 : Int32)) (fun _ => (0 : Int32)) (fun _ => (0 : Int32)) (-1 : Int32) H525 (by omega) (by omega) [] own_SI0 u424 (zsOf z421) ⟨f526, f527, f528, f529⟩ (own_zby z421).1 (own_zby z421).2 f530 ci OI OC G1 O2 P5) (by decide) (by decide) (by decide) (by decide) (by decide) rfl pd_28 rfl (rest := []) rfl (W := 0) rfl at_327 (pc' := 330) rfl ?_
    rintro _ T542 h542 L542 Y542 ⟨i542, k542, B542, t542, hs542, fo542, la542, ps542, rfl, N542, z542, KP542, H542, S542, G542⟩
    have X542 := Y542 z542 N542 KP542.2.2.2
    have HS542_a424 := KP542.ss ⟨f526, f527, f528, f529⟩; have EU542_a424 := KP542.2.1 _ _ f530
    have HS542_a425 := KP542.ss ⟨f531, f532, f533, f534⟩; have EU542_a425 := KP542.2.1 _ _ f535
    have HS542_a426 := KP542.ss ⟨f536, f537, f538, f539⟩; have EU542_a426 := KP542.2.1 _ _ f540
    have Aq542 := KP542.1 _ _ f541
    have G542 : GN 0 (fun _ => []) (zsOf z421) i542 k542 B542 := G542
    have v0 := own_V0 G542
    have c0 : Int32.ofNat i542 = (0 : Int32) := by rw [v0.1]; rfl
    show Go p e below _ (State.setTop _ (mkF m 330 #[.val (.long t_), .second, .val (.int q_), .val (.int ra), .val (.int rb), .val (.int rc), .val (.int z421), .val (.int z422), .val (.int z423), .val (.ref a424), .val (.ref a425), .val (.ref a426), .val (.ref b427), .val (.ref b438), .val (.ref b452), .val (.int (Int32.ofNat (U (zsOf z421)).length)), .val (.int (Int32.ofNat (U (zsOf z422)).length)), .val (.int (Int32.ofNat (U (zsOf z423)).length)), .val (.ref b474), .val (.int (0 : Int32)), .val (.int n1), .val (.int (n1 + (1 : Int32))), .val (.int n2), .val (.int (Int32.ofNat x496)), .val (.int (Int32.ofNat y497)), .val (.int (Int32.ofNat x498)), .val (.int (Int32.ofNat y499)), .val (.int (Int32.ofNat x500)), .val (.int (Int32.ofNat y501)), .val (.int e505), .val (.int e506), .val (.int e507), .val (.ref b508), .unset] [(.int (Int32.ofNat i542))]))
    refine g_iload X542 at_330 (pc' := 332) rfl rfl ?_
    refine g_icmp_ne_f X542 at_332 (pc' := 335) rfl c0 ?_
    refine g_iconst X542 at_335 (pc' := 336) rfl (v := (1 : Int32)) rfl ?_
    refine g_goto X542 at_336 (pt := 340) (by decide) ?_
    refine g_istore X542 at_340 (pc' := 342) rfl (L' := #[.val (.long t_), .second, .val (.int q_), .val (.int ra), .val (.int rb), .val (.int rc), .val (.int z421), .val (.int z422), .val (.int z423), .val (.ref a424), .val (.ref a425), .val (.ref a426), .val (.ref b427), .val (.ref b438), .val (.ref b452), .val (.int (Int32.ofNat (U (zsOf z421)).length)), .val (.int (Int32.ofNat (U (zsOf z422)).length)), .val (.int (Int32.ofNat (U (zsOf z423)).length)), .val (.ref b474), .val (.int (0 : Int32)), .val (.int n1), .val (.int (n1 + (1 : Int32))), .val (.int n2), .val (.int (Int32.ofNat x496)), .val (.int (Int32.ofNat y497)), .val (.int (Int32.ofNat x498)), .val (.int (Int32.ofNat y499)), .val (.int (Int32.ofNat x500)), .val (.int (Int32.ofNat y501)), .val (.int e505), .val (.int e506), .val (.int e507), .val (.ref b508), .val (.int (1 : Int32))]) rfl ?_
    refine g_iload X542 at_342 (pc' := 344) rfl rfl ?_
    refine g_if_eq_f X542 at_344 (pc' := 347) rfl (by decide) ?_
    refine g_aload X542 at_347 (pc' := 349) rfl rfl rfl ?_
    refine g_aload X542 at_349 (pc' := 351) rfl rfl rfl ?_
    refine g_ncallV X542 (y := (⟨"com/example/indexloom/indexloom/Texts", "number", "(Ljava/lang/String;)I"⟩ : MethodName)) (z := (⟨"com/example/indexloom/indexloom/Texts", "number", "(Ljava/lang/String;)I"⟩ : MethodName)) (a := b508) [(.ref a425)] (hw _ m81) (hw _ m82) (notFace_of_selects (args := #[]) (mvT X542.hZ (hw _ m84))) (hw _ m84) (hw _ m83) (Nar.own_txE H542) (hw _ m85) (hw _ m59) (Nar.rm14 l Z a0 hw b508 a425 h542 n0 X542.old k542 B542 t542 hs542 fo542 la542 H542 (by omega) (by omega) ps542 S542 u425 (zsOf z422) ⟨HS542_a425.1, HS542_a425.2.1, HS542_a425.2.2.1, HS542_a425.2.2.2⟩ (own_zby z422).1 (own_zby z422).2 EU542_a425 ci OI OC G1 O2 P5) (by decide) (by decide) (by decide) (by decide) (by decide) rfl pd_28 rfl (rest := []) rfl (W := 0) rfl at_351 (pc' := 354) rfl ?_
    rintro _ T544 h544 L544 Y544 ⟨i544, k544, B544, t544, hs544, fo544, la544, ps544, rfl, N544, z544, KP544, H544, S544, G544⟩
    have X544 := Y544 z544 N544 KP544.2.2.2
    have HS544_a424 := KP544.ss ⟨HS542_a424.1, HS542_a424.2.1, HS542_a424.2.2.1, HS542_a424.2.2.2⟩; have EU544_a424 := KP544.2.1 _ _ EU542_a424
    have HS544_a425 := KP544.ss ⟨HS542_a425.1, HS542_a425.2.1, HS542_a425.2.2.1, HS542_a425.2.2.2⟩; have EU544_a425 := KP544.2.1 _ _ EU542_a425
    have HS544_a426 := KP544.ss ⟨HS542_a426.1, HS542_a426.2.1, HS542_a426.2.2.1, HS542_a426.2.2.2⟩; have EU544_a426 := KP544.2.1 _ _ EU542_a426
    have Aq544 := KP544.1 _ _ Aq542
    have G544 : GN k542 B542 (zsOf z422) i544 k544 B544 := G544
    have v1 := own_c1 G542 G544 (own_zby z421).1 (own_zby z422).1 hNV
    have c1 : Int32.ofNat i544 = n1 := by exact v1.1
    show Go p e below _ (State.setTop _ (mkF m 354 #[.val (.long t_), .second, .val (.int q_), .val (.int ra), .val (.int rb), .val (.int rc), .val (.int z421), .val (.int z422), .val (.int z423), .val (.ref a424), .val (.ref a425), .val (.ref a426), .val (.ref b427), .val (.ref b438), .val (.ref b452), .val (.int (Int32.ofNat (U (zsOf z421)).length)), .val (.int (Int32.ofNat (U (zsOf z422)).length)), .val (.int (Int32.ofNat (U (zsOf z423)).length)), .val (.ref b474), .val (.int (0 : Int32)), .val (.int n1), .val (.int (n1 + (1 : Int32))), .val (.int n2), .val (.int (Int32.ofNat x496)), .val (.int (Int32.ofNat y497)), .val (.int (Int32.ofNat x498)), .val (.int (Int32.ofNat y499)), .val (.int (Int32.ofNat x500)), .val (.int (Int32.ofNat y501)), .val (.int e505), .val (.int e506), .val (.int e507), .val (.ref b508), .val (.int (1 : Int32))] [(.int (Int32.ofNat i544))]))
    refine g_iload X544 at_354 (pc' := 356) rfl rfl ?_
    refine g_icmp_ne_f X544 at_356 (pc' := 359) rfl c1 ?_
    refine g_iconst X544 at_359 (pc' := 360) rfl (v := (1 : Int32)) rfl ?_
    refine g_goto X544 at_360 (pt := 364) (by decide) ?_
    refine g_istore X544 at_364 (pc' := 366) rfl (L' := #[.val (.long t_), .second, .val (.int q_), .val (.int ra), .val (.int rb), .val (.int rc), .val (.int z421), .val (.int z422), .val (.int z423), .val (.ref a424), .val (.ref a425), .val (.ref a426), .val (.ref b427), .val (.ref b438), .val (.ref b452), .val (.int (Int32.ofNat (U (zsOf z421)).length)), .val (.int (Int32.ofNat (U (zsOf z422)).length)), .val (.int (Int32.ofNat (U (zsOf z423)).length)), .val (.ref b474), .val (.int (0 : Int32)), .val (.int n1), .val (.int (n1 + (1 : Int32))), .val (.int n2), .val (.int (Int32.ofNat x496)), .val (.int (Int32.ofNat y497)), .val (.int (Int32.ofNat x498)), .val (.int (Int32.ofNat y499)), .val (.int (Int32.ofNat x500)), .val (.int (Int32.ofNat y501)), .val (.int e505), .val (.int e506), .val (.int e507), .val (.ref b508), .val (.int (1 : Int32))]) rfl ?_
    refine g_iload X544 at_366 (pc' := 368) rfl rfl ?_
    refine g_if_eq_f X544 at_368 (pc' := 371) rfl (by decide) ?_
    refine g_aload X544 at_371 (pc' := 373) rfl rfl rfl ?_
    refine g_aload X544 at_373 (pc' := 375) rfl rfl rfl ?_
    refine g_ncallV X544 (y := (⟨"com/example/indexloom/indexloom/Texts", "number", "(Ljava/lang/String;)I"⟩ : MethodName)) (z := (⟨"com/example/indexloom/indexloom/Texts", "number", "(Ljava/lang/String;)I"⟩ : MethodName)) (a := b508) [(.ref a426)] (hw _ m81) (hw _ m82) (notFace_of_selects (args := #[]) (mvT X544.hZ (hw _ m84))) (hw _ m84) (hw _ m83) (Nar.own_txE H544) (hw _ m85) (hw _ m59) (Nar.rm14 l Z a0 hw b508 a426 h544 n0 X544.old k544 B544 t544 hs544 fo544 la544 H544 (by omega) (by omega) ps544 S544 u426 (zsOf z423) ⟨HS544_a426.1, HS544_a426.2.1, HS544_a426.2.2.1, HS544_a426.2.2.2⟩ (own_zby z423).1 (own_zby z423).2 EU544_a426 ci OI OC G1 O2 P5) (by decide) (by decide) (by decide) (by decide) (by decide) rfl pd_28 rfl (rest := []) rfl (W := 0) rfl at_375 (pc' := 378) rfl ?_
    rintro _ T545 h545 L545 Y545 ⟨i545, k545, B545, t545, hs545, fo545, la545, ps545, rfl, N545, z545, KP545, H545, S545, G545⟩
    have X545 := Y545 z545 N545 KP545.2.2.2
    have HS545_a424 := KP545.ss ⟨HS544_a424.1, HS544_a424.2.1, HS544_a424.2.2.1, HS544_a424.2.2.2⟩; have EU545_a424 := KP545.2.1 _ _ EU544_a424
    have HS545_a425 := KP545.ss ⟨HS544_a425.1, HS544_a425.2.1, HS544_a425.2.2.1, HS544_a425.2.2.2⟩; have EU545_a425 := KP545.2.1 _ _ EU544_a425
    have HS545_a426 := KP545.ss ⟨HS544_a426.1, HS544_a426.2.1, HS544_a426.2.2.1, HS544_a426.2.2.2⟩; have EU545_a426 := KP545.2.1 _ _ EU544_a426
    have Aq545 := KP545.1 _ _ Aq544
    have G545 : GN k544 B544 (zsOf z423) i545 k545 B545 := G545
    have v2 := own_c2 G542 G544 G545 (own_zby z421).1 (own_zby z422).1 (own_zby z423).1 hNV
    have c2 : Int32.ofNat i545 = n2 := by exact v2.1
    have RPx := own_rp G542 G544 G545 c0 c1 c2
    show Go p e below _ (State.setTop _ (mkF m 378 #[.val (.long t_), .second, .val (.int q_), .val (.int ra), .val (.int rb), .val (.int rc), .val (.int z421), .val (.int z422), .val (.int z423), .val (.ref a424), .val (.ref a425), .val (.ref a426), .val (.ref b427), .val (.ref b438), .val (.ref b452), .val (.int (Int32.ofNat (U (zsOf z421)).length)), .val (.int (Int32.ofNat (U (zsOf z422)).length)), .val (.int (Int32.ofNat (U (zsOf z423)).length)), .val (.ref b474), .val (.int (0 : Int32)), .val (.int n1), .val (.int (n1 + (1 : Int32))), .val (.int n2), .val (.int (Int32.ofNat x496)), .val (.int (Int32.ofNat y497)), .val (.int (Int32.ofNat x498)), .val (.int (Int32.ofNat y499)), .val (.int (Int32.ofNat x500)), .val (.int (Int32.ofNat y501)), .val (.int e505), .val (.int e506), .val (.int e507), .val (.ref b508), .val (.int (1 : Int32))] [(.int (Int32.ofNat i545))]))
    refine g_iload X545 at_378 (pc' := 380) rfl rfl ?_
    refine g_icmp_ne_f X545 at_380 (pc' := 383) rfl c2 ?_
    refine g_iconst X545 at_383 (pc' := 384) rfl (v := (1 : Int32)) rfl ?_
    refine g_goto X545 at_384 (pt := 388) (by decide) ?_
    refine g_istore X545 at_388 (pc' := 390) rfl (L' := #[.val (.long t_), .second, .val (.int q_), .val (.int ra), .val (.int rb), .val (.int rc), .val (.int z421), .val (.int z422), .val (.int z423), .val (.ref a424), .val (.ref a425), .val (.ref a426), .val (.ref b427), .val (.ref b438), .val (.ref b452), .val (.int (Int32.ofNat (U (zsOf z421)).length)), .val (.int (Int32.ofNat (U (zsOf z422)).length)), .val (.int (Int32.ofNat (U (zsOf z423)).length)), .val (.ref b474), .val (.int (0 : Int32)), .val (.int n1), .val (.int (n1 + (1 : Int32))), .val (.int n2), .val (.int (Int32.ofNat x496)), .val (.int (Int32.ofNat y497)), .val (.int (Int32.ofNat x498)), .val (.int (Int32.ofNat y499)), .val (.int (Int32.ofNat x500)), .val (.int (Int32.ofNat y501)), .val (.int e505), .val (.int e506), .val (.int e507), .val (.ref b508), .val (.int (1 : Int32))]) rfl ?_
    refine g_iload X545 at_390 (pc' := 392) rfl rfl ?_
    refine g_if_eq_f X545 at_392 (pc' := 395) rfl (by decide) ?_
    refine g_aload X545 at_395 (pc' := 397) rfl rfl rfl ?_
    refine g_aload X545 at_397 (pc' := 399) rfl rfl rfl ?_
    refine g_iload X545 at_399 (pc' := 401) rfl rfl ?_
    refine g_iload X545 at_401 (pc' := 403) rfl rfl ?_
    refine g_ncallV X545 (y := (⟨"com/example/indexloom/indexloom/Texts", "find", "([BII)I"⟩ : MethodName)) (z := (⟨"com/example/indexloom/indexloom/Texts", "find", "([BII)I"⟩ : MethodName)) (a := b508) [(.ref b474), (.int (Int32.ofNat x496)), (.int (Int32.ofNat y497))] (hw _ m147) (hw _ m123) (notFace_of_selects (args := #[]) (mvT X545.hZ (hw _ m125))) (hw _ m125) (hw _ m124) (Nar.own_txE H545) (hw _ m126) (hw _ m59) (Nar.rm21 l Z a0 hw b508 b474 x496 y497 h545 n0 X545.old k545 B545 t545 hs545 fo545 la545 H545 (by omega) ps545 S545 qs Aq545 hy497.1 (by rw [hqs]; exact hy497.2) (by rw [hqs]; exact Nat.le_refl 4)) (by decide) (by decide) (by decide) (by decide) (by decide) rfl pd_3 rfl (rest := []) rfl (W := 0) rfl at_403 (pc' := 406) rfl ?_
    rintro _ T546 h546 L546 Y546 ⟨w546, fo546, la546, rfl, N546, z546, KP546, H546, FD546⟩
    have X546 := Y546 z546 N546 KP546.2.2.2
    have HS546_a424 := KP546.ss ⟨HS545_a424.1, HS545_a424.2.1, HS545_a424.2.2.1, HS545_a424.2.2.2⟩; have EU546_a424 := KP546.2.1 _ _ EU545_a424
    have HS546_a425 := KP546.ss ⟨HS545_a425.1, HS545_a425.2.1, HS545_a425.2.2.1, HS545_a425.2.2.2⟩; have EU546_a425 := KP546.2.1 _ _ EU545_a425
    have HS546_a426 := KP546.ss ⟨HS545_a426.1, HS545_a426.2.1, HS545_a426.2.2.1, HS545_a426.2.2.2⟩; have EU546_a426 := KP546.2.1 _ _ EU545_a426
    have Aq546 := KP546.1 _ _ Aq545
    show Go p e below _ (State.setTop _ (mkF m 406 #[.val (.long t_), .second, .val (.int q_), .val (.int ra), .val (.int rb), .val (.int rc), .val (.int z421), .val (.int z422), .val (.int z423), .val (.ref a424), .val (.ref a425), .val (.ref a426), .val (.ref b427), .val (.ref b438), .val (.ref b452), .val (.int (Int32.ofNat (U (zsOf z421)).length)), .val (.int (Int32.ofNat (U (zsOf z422)).length)), .val (.int (Int32.ofNat (U (zsOf z423)).length)), .val (.ref b474), .val (.int (0 : Int32)), .val (.int n1), .val (.int (n1 + (1 : Int32))), .val (.int n2), .val (.int (Int32.ofNat x496)), .val (.int (Int32.ofNat y497)), .val (.int (Int32.ofNat x498)), .val (.int (Int32.ofNat y499)), .val (.int (Int32.ofNat x500)), .val (.int (Int32.ofNat y501)), .val (.int e505), .val (.int e506), .val (.int e507), .val (.ref b508), .val (.int (1 : Int32))] [(.int w546)]))
    refine g_iload X546 at_406 (pc' := 408) rfl rfl ?_
    refine g_icmp_ne_f X546 at_408 (pc' := 411) rfl (own_fin FD546 RPx r505) ?_
    refine g_iconst X546 at_411 (pc' := 412) rfl (v := (1 : Int32)) rfl ?_
    refine g_goto X546 at_412 (pt := 416) (by decide) ?_
    refine g_istore X546 at_416 (pc' := 418) rfl (L' := #[.val (.long t_), .second, .val (.int q_), .val (.int ra), .val (.int rb), .val (.int rc), .val (.int z421), .val (.int z422), .val (.int z423), .val (.ref a424), .val (.ref a425), .val (.ref a426), .val (.ref b427), .val (.ref b438), .val (.ref b452), .val (.int (Int32.ofNat (U (zsOf z421)).length)), .val (.int (Int32.ofNat (U (zsOf z422)).length)), .val (.int (Int32.ofNat (U (zsOf z423)).length)), .val (.ref b474), .val (.int (0 : Int32)), .val (.int n1), .val (.int (n1 + (1 : Int32))), .val (.int n2), .val (.int (Int32.ofNat x496)), .val (.int (Int32.ofNat y497)), .val (.int (Int32.ofNat x498)), .val (.int (Int32.ofNat y499)), .val (.int (Int32.ofNat x500)), .val (.int (Int32.ofNat y501)), .val (.int e505), .val (.int e506), .val (.int e507), .val (.ref b508), .val (.int (1 : Int32))]) rfl ?_
    refine g_iload X546 at_418 (pc' := 420) rfl rfl ?_
    refine g_if_eq_f X546 at_420 (pc' := 423) rfl (by decide) ?_
    refine g_aload X546 at_423 (pc' := 425) rfl rfl rfl ?_
    refine g_aload X546 at_425 (pc' := 427) rfl rfl rfl ?_
    refine g_iload X546 at_427 (pc' := 429) rfl rfl ?_
    refine g_iload X546 at_429 (pc' := 431) rfl rfl ?_
    refine g_ncallV X546 (y := (⟨"com/example/indexloom/indexloom/Texts", "find", "([BII)I"⟩ : MethodName)) (z := (⟨"com/example/indexloom/indexloom/Texts", "find", "([BII)I"⟩ : MethodName)) (a := b508) [(.ref b474), (.int (Int32.ofNat x498)), (.int (Int32.ofNat y499))] (hw _ m147) (hw _ m123) (notFace_of_selects (args := #[]) (mvT X546.hZ (hw _ m125))) (hw _ m125) (hw _ m124) (Nar.own_txE H546) (hw _ m126) (hw _ m59) (Nar.rm21 l Z a0 hw b508 b474 x498 y499 h546 n0 X546.old k545 B545 t545 hs545 fo546 la546 H546 (by omega) ps545 S545 qs Aq546 hy499.1 (by rw [hqs]; exact hy499.2) (by rw [hqs]; exact Nat.le_refl 4)) (by decide) (by decide) (by decide) (by decide) (by decide) rfl pd_3 rfl (rest := []) rfl (W := 0) rfl at_431 (pc' := 434) rfl ?_
    rintro _ T547 h547 L547 Y547 ⟨w547, fo547, la547, rfl, N547, z547, KP547, H547, FD547⟩
    have X547 := Y547 z547 N547 KP547.2.2.2
    have HS547_a424 := KP547.ss ⟨HS546_a424.1, HS546_a424.2.1, HS546_a424.2.2.1, HS546_a424.2.2.2⟩; have EU547_a424 := KP547.2.1 _ _ EU546_a424
    have HS547_a425 := KP547.ss ⟨HS546_a425.1, HS546_a425.2.1, HS546_a425.2.2.1, HS546_a425.2.2.2⟩; have EU547_a425 := KP547.2.1 _ _ EU546_a425
    have HS547_a426 := KP547.ss ⟨HS546_a426.1, HS546_a426.2.1, HS546_a426.2.2.1, HS546_a426.2.2.2⟩; have EU547_a426 := KP547.2.1 _ _ EU546_a426
    have Aq547 := KP547.1 _ _ Aq546
    show Go p e below _ (State.setTop _ (mkF m 434 #[.val (.long t_), .second, .val (.int q_), .val (.int ra), .val (.int rb), .val (.int rc), .val (.int z421), .val (.int z422), .val (.int z423), .val (.ref a424), .val (.ref a425), .val (.ref a426), .val (.ref b427), .val (.ref b438), .val (.ref b452), .val (.int (Int32.ofNat (U (zsOf z421)).length)), .val (.int (Int32.ofNat (U (zsOf z422)).length)), .val (.int (Int32.ofNat (U (zsOf z423)).length)), .val (.ref b474), .val (.int (0 : Int32)), .val (.int n1), .val (.int (n1 + (1 : Int32))), .val (.int n2), .val (.int (Int32.ofNat x496)), .val (.int (Int32.ofNat y497)), .val (.int (Int32.ofNat x498)), .val (.int (Int32.ofNat y499)), .val (.int (Int32.ofNat x500)), .val (.int (Int32.ofNat y501)), .val (.int e505), .val (.int e506), .val (.int e507), .val (.ref b508), .val (.int (1 : Int32))] [(.int w547)]))
    refine g_iload X547 at_434 (pc' := 436) rfl rfl ?_
    refine g_icmp_ne_f X547 at_436 (pc' := 439) rfl (own_fin FD547 RPx r506) ?_
    refine g_iconst X547 at_439 (pc' := 440) rfl (v := (1 : Int32)) rfl ?_
    refine g_goto X547 at_440 (pt := 444) (by decide) ?_
    refine g_istore X547 at_444 (pc' := 446) rfl (L' := #[.val (.long t_), .second, .val (.int q_), .val (.int ra), .val (.int rb), .val (.int rc), .val (.int z421), .val (.int z422), .val (.int z423), .val (.ref a424), .val (.ref a425), .val (.ref a426), .val (.ref b427), .val (.ref b438), .val (.ref b452), .val (.int (Int32.ofNat (U (zsOf z421)).length)), .val (.int (Int32.ofNat (U (zsOf z422)).length)), .val (.int (Int32.ofNat (U (zsOf z423)).length)), .val (.ref b474), .val (.int (0 : Int32)), .val (.int n1), .val (.int (n1 + (1 : Int32))), .val (.int n2), .val (.int (Int32.ofNat x496)), .val (.int (Int32.ofNat y497)), .val (.int (Int32.ofNat x498)), .val (.int (Int32.ofNat y499)), .val (.int (Int32.ofNat x500)), .val (.int (Int32.ofNat y501)), .val (.int e505), .val (.int e506), .val (.int e507), .val (.ref b508), .val (.int (1 : Int32))]) rfl ?_
    refine g_iload X547 at_446 (pc' := 448) rfl rfl ?_
    refine g_if_eq_f X547 at_448 (pc' := 451) rfl (by decide) ?_
    refine g_aload X547 at_451 (pc' := 453) rfl rfl rfl ?_
    refine g_aload X547 at_453 (pc' := 455) rfl rfl rfl ?_
    refine g_iload X547 at_455 (pc' := 457) rfl rfl ?_
    refine g_iload X547 at_457 (pc' := 459) rfl rfl ?_
    refine g_ncallV X547 (y := (⟨"com/example/indexloom/indexloom/Texts", "find", "([BII)I"⟩ : MethodName)) (z := (⟨"com/example/indexloom/indexloom/Texts", "find", "([BII)I"⟩ : MethodName)) (a := b508) [(.ref b474), (.int (Int32.ofNat x500)), (.int (Int32.ofNat y501))] (hw _ m147) (hw _ m123) (notFace_of_selects (args := #[]) (mvT X547.hZ (hw _ m125))) (hw _ m125) (hw _ m124) (Nar.own_txE H547) (hw _ m126) (hw _ m59) (Nar.rm21 l Z a0 hw b508 b474 x500 y501 h547 n0 X547.old k545 B545 t545 hs545 fo547 la547 H547 (by omega) ps545 S545 qs Aq547 hy501.1 (by rw [hqs]; exact hy501.2) (by rw [hqs]; exact Nat.le_refl 4)) (by decide) (by decide) (by decide) (by decide) (by decide) rfl pd_3 rfl (rest := []) rfl (W := 0) rfl at_459 (pc' := 462) rfl ?_
    rintro _ T548 h548 L548 Y548 ⟨w548, fo548, la548, rfl, N548, z548, KP548, H548, FD548⟩
    have X548 := Y548 z548 N548 KP548.2.2.2
    have HS548_a424 := KP548.ss ⟨HS547_a424.1, HS547_a424.2.1, HS547_a424.2.2.1, HS547_a424.2.2.2⟩; have EU548_a424 := KP548.2.1 _ _ EU547_a424
    have HS548_a425 := KP548.ss ⟨HS547_a425.1, HS547_a425.2.1, HS547_a425.2.2.1, HS547_a425.2.2.2⟩; have EU548_a425 := KP548.2.1 _ _ EU547_a425
    have HS548_a426 := KP548.ss ⟨HS547_a426.1, HS547_a426.2.1, HS547_a426.2.2.1, HS547_a426.2.2.2⟩; have EU548_a426 := KP548.2.1 _ _ EU547_a426
    have Aq548 := KP548.1 _ _ Aq547
    show Go p e below _ (State.setTop _ (mkF m 462 #[.val (.long t_), .second, .val (.int q_), .val (.int ra), .val (.int rb), .val (.int rc), .val (.int z421), .val (.int z422), .val (.int z423), .val (.ref a424), .val (.ref a425), .val (.ref a426), .val (.ref b427), .val (.ref b438), .val (.ref b452), .val (.int (Int32.ofNat (U (zsOf z421)).length)), .val (.int (Int32.ofNat (U (zsOf z422)).length)), .val (.int (Int32.ofNat (U (zsOf z423)).length)), .val (.ref b474), .val (.int (0 : Int32)), .val (.int n1), .val (.int (n1 + (1 : Int32))), .val (.int n2), .val (.int (Int32.ofNat x496)), .val (.int (Int32.ofNat y497)), .val (.int (Int32.ofNat x498)), .val (.int (Int32.ofNat y499)), .val (.int (Int32.ofNat x500)), .val (.int (Int32.ofNat y501)), .val (.int e505), .val (.int e506), .val (.int e507), .val (.ref b508), .val (.int (1 : Int32))] [(.int w548)]))
    refine g_iload X548 at_462 (pc' := 464) rfl rfl ?_
    refine g_icmp_ne_f X548 at_464 (pc' := 467) rfl (own_fin FD548 RPx r507) ?_
    refine g_iconst X548 at_467 (pc' := 468) rfl (v := (1 : Int32)) rfl ?_
    refine g_goto X548 at_468 (pt := 472) (by decide) ?_
    refine g_istore X548 at_472 (pc' := 474) rfl (L' := #[.val (.long t_), .second, .val (.int q_), .val (.int ra), .val (.int rb), .val (.int rc), .val (.int z421), .val (.int z422), .val (.int z423), .val (.ref a424), .val (.ref a425), .val (.ref a426), .val (.ref b427), .val (.ref b438), .val (.ref b452), .val (.int (Int32.ofNat (U (zsOf z421)).length)), .val (.int (Int32.ofNat (U (zsOf z422)).length)), .val (.int (Int32.ofNat (U (zsOf z423)).length)), .val (.ref b474), .val (.int (0 : Int32)), .val (.int n1), .val (.int (n1 + (1 : Int32))), .val (.int n2), .val (.int (Int32.ofNat x496)), .val (.int (Int32.ofNat y497)), .val (.int (Int32.ofNat x498)), .val (.int (Int32.ofNat y499)), .val (.int (Int32.ofNat x500)), .val (.int (Int32.ofNat y501)), .val (.int e505), .val (.int e506), .val (.int e507), .val (.ref b508), .val (.int (1 : Int32))]) rfl ?_
    refine g_iload X548 at_474 (pc' := 476) rfl rfl ?_
    exact g_retN X548 (Or.inl rfl) rfl at_476 (by decide) (by decide) ⟨rfl, X548.fr⟩
  refine g_aload X495 at_125 (pc' := 127) rfl rfl rfl ?_
  refine g_aload X495 at_127 (pc' := 129) rfl rfl rfl ?_
  have f549 := (((((f480.ext E474).wr W492).wr W493).wr W494).wr W495)
  have f550 := ((((((((((((H425.2.1.keep K426 nm0).ext E427).ext E438).ext E452).keep K469 (nm1 ne432)).keep K471 (nm1 ne443)).keep K473 (nm1 ne457)).ext E474).other W492 (Or.inl ne479)).other W493 (Or.inl ne479)).other W494 (Or.inl ne479)).other W495 (Or.inl ne479))
  have f551 := ((((((((((((H425.2.2.1.keep K426 nm0).ext E427).ext E438).ext E452).keep K469 (nm1 ne432)).keep K471 (nm1 ne443)).keep K473 (nm1 ne457)).ext E474).other W492 (Or.inl ne479)).other W493 (Or.inl ne479)).other W494 (Or.inl ne479)).other W495 (Or.inl ne479))
  have f552 := (((((f482.ext E474).other W492 ne481).other W493 ne481).other W494 ne481).other W495 ne481)
  have f553 := ((((((((((((HE425.keep K426).ext E427).ext E438).ext E452).keep K469).keep K471).keep K473).ext E474).wr W492).wr W493).wr W494).wr W495)
  have f554 := (((((f476.ext E474).wr W492).wr W493).wr W494).wr W495)
  have f555 := (((((((((((((H424.2.1.keep K425 nm0).keep K426 nm0).ext E427).ext E438).ext E452).keep K469 (nm1 ne428)).keep K471 (nm1 ne439)).keep K473 (nm1 ne453)).ext E474).other W492 (Or.inl ne475)).other W493 (Or.inl ne475)).other W494 (Or.inl ne475)).other W495 (Or.inl ne475))
  have f556 := (((((((((((((H424.2.2.1.keep K425 nm0).keep K426 nm0).ext E427).ext E438).ext E452).keep K469 (nm1 ne428)).keep K471 (nm1 ne439)).keep K473 (nm1 ne453)).ext E474).other W492 (Or.inl ne475)).other W493 (Or.inl ne475)).other W494 (Or.inl ne475)).other W495 (Or.inl ne475))
  have f557 := (((((f478.ext E474).other W492 ne477).other W493 ne477).other W494 ne477).other W495 ne477)
  have f558 := (((((((((((((HE424.keep K425).keep K426).ext E427).ext E438).ext E452).keep K469).keep K471).keep K473).ext E474).wr W492).wr W493).wr W494).wr W495)
  refine g_ncallV X495 (y := (⟨"java/lang/String", "equals", "(Ljava/lang/Object;)Z"⟩ : MethodName)) (z := (⟨"java/lang/String", "equals", "(Ljava/lang/Object;)Z"⟩ : MethodName)) (a := a425) [(.ref a424)] (hw _ m33) (hw _ m34) (notFace_of_selects (args := #[]) (mvT X495.hZ (hw _ m36))) (hw _ m36) (hw _ m35) f549 (hw _ m37) (hw _ m10) (Nar.rm7 l Z a0 hw a425 a424 h495 n0 X495.old u425 u424 (zsOf z422) (zsOf z421) ⟨f549, f550, f551, f552⟩ ⟨f554, f555, f556, f557⟩ (own_zby z422).2 (own_zby z421).2 G1 O2 P5) (by decide) (by decide) (by decide) (by decide) (by decide) rfl pd_29 rfl (rest := []) rfl (W := 0) rfl at_129 (pc' := 132) rfl ?_
  rintro _ T559 _ _ Y559 ⟨z559, rfl, r559, rfl, rfl⟩
  have X559 := Y559 X495.old (Fr.nil _) (Nat.le_refl _)
  show Go p e below _ (State.setTop _ (mkF m 132 #[.val (.long t_), .second, .val (.int q_), .val (.int ra), .val (.int rb), .val (.int rc), .val (.int z421), .val (.int z422), .val (.int z423), .val (.ref a424), .val (.ref a425), .val (.ref a426), .val (.ref b427), .val (.ref b438), .val (.ref b452), .val (.int (Int32.ofNat (U (zsOf z421)).length)), .val (.int (Int32.ofNat (U (zsOf z422)).length)), .val (.int (Int32.ofNat (U (zsOf z423)).length)), .val (.ref b474), .val (.int (0 : Int32)), .unset, .unset, .unset, .unset, .unset, .unset, .unset, .unset, .unset, .unset, .unset, .unset, .unset, .unset] [(.int z559)]))
  refine g_if_eq X559 at_132 (pt := 139) (by decide) (pc' := 135) rfl (fun hc132 => ?_) (fun hc132 => ?_)
  · have e10 : ¬ zsOf z422 = zsOf z421 := r559.elim (fun q => absurd (hc132.symm.trans q.1) (by decide)) (fun q => q.2)
    refine g_iconst X559 at_139 (pc' := 140) rfl (v := (1 : Int32)) rfl ?_
    refine g_istore X559 at_140 (pc' := 142) rfl (L' := #[.val (.long t_), .second, .val (.int q_), .val (.int ra), .val (.int rb), .val (.int rc), .val (.int z421), .val (.int z422), .val (.int z423), .val (.ref a424), .val (.ref a425), .val (.ref a426), .val (.ref b427), .val (.ref b438), .val (.ref b452), .val (.int (Int32.ofNat (U (zsOf z421)).length)), .val (.int (Int32.ofNat (U (zsOf z422)).length)), .val (.int (Int32.ofNat (U (zsOf z423)).length)), .val (.ref b474), .val (.int (0 : Int32)), .val (.int (1 : Int32)), .unset, .unset, .unset, .unset, .unset, .unset, .unset, .unset, .unset, .unset, .unset, .unset, .unset]) rfl ?_
    refine g_iload X559 at_142 (pc' := 144) rfl rfl ?_
    refine g_iconst X559 at_144 (pc' := 145) rfl (v := (1 : Int32)) rfl ?_
    refine g_iadd X559 at_145 (pc' := 146) rfl ?_
    refine g_istore X559 at_146 (pc' := 148) rfl (L' := #[.val (.long t_), .second, .val (.int q_), .val (.int ra), .val (.int rb), .val (.int rc), .val (.int z421), .val (.int z422), .val (.int z423), .val (.ref a424), .val (.ref a425), .val (.ref a426), .val (.ref b427), .val (.ref b438), .val (.ref b452), .val (.int (Int32.ofNat (U (zsOf z421)).length)), .val (.int (Int32.ofNat (U (zsOf z422)).length)), .val (.int (Int32.ofNat (U (zsOf z423)).length)), .val (.ref b474), .val (.int (0 : Int32)), .val (.int (1 : Int32)), .val (.int ((1 : Int32) + (1 : Int32))), .unset, .unset, .unset, .unset, .unset, .unset, .unset, .unset, .unset, .unset, .unset, .unset]) rfl ?_
    refine g_aload X559 at_148 (pc' := 150) rfl rfl rfl ?_
    refine g_aload X559 at_150 (pc' := 152) rfl rfl rfl ?_
    have f560 := (((((f484.ext E474).wr W492).wr W493).wr W494).wr W495)
    have f561 := (((((((((((H426.2.1.ext E427).ext E438).ext E452).keep K469 (nm1 ne436)).keep K471 (nm1 ne447)).keep K473 (nm1 ne461)).ext E474).other W492 (Or.inl ne483)).other W493 (Or.inl ne483)).other W494 (Or.inl ne483)).other W495 (Or.inl ne483))
    have f562 := (((((((((((H426.2.2.1.ext E427).ext E438).ext E452).keep K469 (nm1 ne436)).keep K471 (nm1 ne447)).keep K473 (nm1 ne461)).ext E474).other W492 (Or.inl ne483)).other W493 (Or.inl ne483)).other W494 (Or.inl ne483)).other W495 (Or.inl ne483))
    have f563 := (((((f486.ext E474).other W492 ne485).other W493 ne485).other W494 ne485).other W495 ne485)
    have f564 := (((((((((((HE426.ext E427).ext E438).ext E452).keep K469).keep K471).keep K473).ext E474).wr W492).wr W493).wr W494).wr W495)
    refine g_ncallV X559 (y := (⟨"java/lang/String", "equals", "(Ljava/lang/Object;)Z"⟩ : MethodName)) (z := (⟨"java/lang/String", "equals", "(Ljava/lang/Object;)Z"⟩ : MethodName)) (a := a426) [(.ref a424)] (hw _ m33) (hw _ m34) (notFace_of_selects (args := #[]) (mvT X559.hZ (hw _ m36))) (hw _ m36) (hw _ m35) f560 (hw _ m37) (hw _ m10) (Nar.rm7 l Z a0 hw a426 a424 h495 n0 X559.old u426 u424 (zsOf z423) (zsOf z421) ⟨f560, f561, f562, f563⟩ ⟨f554, f555, f556, f557⟩ (own_zby z423).2 (own_zby z421).2 G1 O2 P5) (by decide) (by decide) (by decide) (by decide) (by decide) rfl pd_29 rfl (rest := []) rfl (W := 0) rfl at_152 (pc' := 155) rfl ?_
    rintro _ T565 _ _ Y565 ⟨z565, rfl, r565, rfl, rfl⟩
    have X565 := Y565 X559.old (Fr.nil _) (Nat.le_refl _)
    show Go p e below _ (State.setTop _ (mkF m 155 #[.val (.long t_), .second, .val (.int q_), .val (.int ra), .val (.int rb), .val (.int rc), .val (.int z421), .val (.int z422), .val (.int z423), .val (.ref a424), .val (.ref a425), .val (.ref a426), .val (.ref b427), .val (.ref b438), .val (.ref b452), .val (.int (Int32.ofNat (U (zsOf z421)).length)), .val (.int (Int32.ofNat (U (zsOf z422)).length)), .val (.int (Int32.ofNat (U (zsOf z423)).length)), .val (.ref b474), .val (.int (0 : Int32)), .val (.int (1 : Int32)), .val (.int ((1 : Int32) + (1 : Int32))), .unset, .unset, .unset, .unset, .unset, .unset, .unset, .unset, .unset, .unset, .unset, .unset] [(.int z565)]))
    refine g_if_eq X565 at_155 (pt := 162) (by decide) (pc' := 158) rfl (fun hc155 => ?_) (fun hc155 => ?_)
    · have e20 : ¬ zsOf z423 = zsOf z421 := r565.elim (fun q => absurd (hc155.symm.trans q.1) (by decide)) (fun q => q.2)
      refine g_aload X565 at_162 (pc' := 164) rfl rfl rfl ?_
      refine g_aload X565 at_164 (pc' := 166) rfl rfl rfl ?_
      refine g_ncallV X565 (y := (⟨"java/lang/String", "equals", "(Ljava/lang/Object;)Z"⟩ : MethodName)) (z := (⟨"java/lang/String", "equals", "(Ljava/lang/Object;)Z"⟩ : MethodName)) (a := a426) [(.ref a425)] (hw _ m33) (hw _ m34) (notFace_of_selects (args := #[]) (mvT X565.hZ (hw _ m36))) (hw _ m36) (hw _ m35) f560 (hw _ m37) (hw _ m10) (Nar.rm7 l Z a0 hw a426 a425 h495 n0 X565.old u426 u425 (zsOf z423) (zsOf z422) ⟨f560, f561, f562, f563⟩ ⟨f549, f550, f551, f552⟩ (own_zby z423).2 (own_zby z422).2 G1 O2 P5) (by decide) (by decide) (by decide) (by decide) (by decide) rfl pd_29 rfl (rest := []) rfl (W := 0) rfl at_166 (pc' := 169) rfl ?_
      rintro _ T566 _ _ Y566 ⟨z566, rfl, r566, rfl, rfl⟩
      have X566 := Y566 X565.old (Fr.nil _) (Nat.le_refl _)
      show Go p e below _ (State.setTop _ (mkF m 169 #[.val (.long t_), .second, .val (.int q_), .val (.int ra), .val (.int rb), .val (.int rc), .val (.int z421), .val (.int z422), .val (.int z423), .val (.ref a424), .val (.ref a425), .val (.ref a426), .val (.ref b427), .val (.ref b438), .val (.ref b452), .val (.int (Int32.ofNat (U (zsOf z421)).length)), .val (.int (Int32.ofNat (U (zsOf z422)).length)), .val (.int (Int32.ofNat (U (zsOf z423)).length)), .val (.ref b474), .val (.int (0 : Int32)), .val (.int (1 : Int32)), .val (.int ((1 : Int32) + (1 : Int32))), .unset, .unset, .unset, .unset, .unset, .unset, .unset, .unset, .unset, .unset, .unset, .unset] [(.int z566)]))
      refine g_if_eq X566 at_169 (pt := 177) (by decide) (pc' := 172) rfl (fun hc169 => ?_) (fun hc169 => ?_)
      · have e21 : ¬ zsOf z423 = zsOf z422 := r566.elim (fun q => absurd (hc169.symm.trans q.1) (by decide)) (fun q => q.2)
        refine g_iload X566 at_177 (pc' := 179) rfl rfl ?_
        refine g_istore X566 at_179 (pc' := 181) rfl (L' := #[.val (.long t_), .second, .val (.int q_), .val (.int ra), .val (.int rb), .val (.int rc), .val (.int z421), .val (.int z422), .val (.int z423), .val (.ref a424), .val (.ref a425), .val (.ref a426), .val (.ref b427), .val (.ref b438), .val (.ref b452), .val (.int (Int32.ofNat (U (zsOf z421)).length)), .val (.int (Int32.ofNat (U (zsOf z422)).length)), .val (.int (Int32.ofNat (U (zsOf z423)).length)), .val (.ref b474), .val (.int (0 : Int32)), .val (.int (1 : Int32)), .val (.int ((1 : Int32) + (1 : Int32))), .val (.int ((1 : Int32) + (1 : Int32))), .unset, .unset, .unset, .unset, .unset, .unset, .unset, .unset, .unset, .unset, .unset]) rfl ?_
        exact J181 _ _ _ _ ⟨Or.inr ⟨e10, rfl⟩, Or.inr (Or.inr ⟨e20, e21, rfl⟩)⟩ X566
      · have e21 : zsOf z423 = zsOf z422 := r566.elim (fun q => q.2) (fun q => absurd q.1 hc169)
        refine g_iload X566 at_172 (pc' := 174) rfl rfl ?_
        refine g_goto X566 at_174 (pt := 179) (by decide) ?_
        refine g_istore X566 at_179 (pc' := 181) rfl (L' := #[.val (.long t_), .second, .val (.int q_), .val (.int ra), .val (.int rb), .val (.int rc), .val (.int z421), .val (.int z422), .val (.int z423), .val (.ref a424), .val (.ref a425), .val (.ref a426), .val (.ref b427), .val (.ref b438), .val (.ref b452), .val (.int (Int32.ofNat (U (zsOf z421)).length)), .val (.int (Int32.ofNat (U (zsOf z422)).length)), .val (.int (Int32.ofNat (U (zsOf z423)).length)), .val (.ref b474), .val (.int (0 : Int32)), .val (.int (1 : Int32)), .val (.int ((1 : Int32) + (1 : Int32))), .val (.int (1 : Int32)), .unset, .unset, .unset, .unset, .unset, .unset, .unset, .unset, .unset, .unset, .unset]) rfl ?_
        exact J181 _ _ _ _ ⟨Or.inr ⟨e10, rfl⟩, Or.inr (Or.inl ⟨e20, e21, rfl⟩)⟩ X566
    · have e20 : zsOf z423 = zsOf z421 := r565.elim (fun q => q.2) (fun q => absurd q.1 hc155)
      refine g_iconst X565 at_158 (pc' := 159) rfl (v := (0 : Int32)) rfl ?_
      refine g_goto X565 at_159 (pt := 179) (by decide) ?_
      refine g_istore X565 at_179 (pc' := 181) rfl (L' := #[.val (.long t_), .second, .val (.int q_), .val (.int ra), .val (.int rb), .val (.int rc), .val (.int z421), .val (.int z422), .val (.int z423), .val (.ref a424), .val (.ref a425), .val (.ref a426), .val (.ref b427), .val (.ref b438), .val (.ref b452), .val (.int (Int32.ofNat (U (zsOf z421)).length)), .val (.int (Int32.ofNat (U (zsOf z422)).length)), .val (.int (Int32.ofNat (U (zsOf z423)).length)), .val (.ref b474), .val (.int (0 : Int32)), .val (.int (1 : Int32)), .val (.int ((1 : Int32) + (1 : Int32))), .val (.int (0 : Int32)), .unset, .unset, .unset, .unset, .unset, .unset, .unset, .unset, .unset, .unset, .unset]) rfl ?_
      exact J181 _ _ _ _ ⟨Or.inr ⟨e10, rfl⟩, Or.inl ⟨e20, rfl⟩⟩ X565
  · have e10 : zsOf z422 = zsOf z421 := r559.elim (fun q => q.2) (fun q => absurd q.1 hc132)
    refine g_iconst X559 at_135 (pc' := 136) rfl (v := (0 : Int32)) rfl ?_
    refine g_goto X559 at_136 (pt := 140) (by decide) ?_
    refine g_istore X559 at_140 (pc' := 142) rfl (L' := #[.val (.long t_), .second, .val (.int q_), .val (.int ra), .val (.int rb), .val (.int rc), .val (.int z421), .val (.int z422), .val (.int z423), .val (.ref a424), .val (.ref a425), .val (.ref a426), .val (.ref b427), .val (.ref b438), .val (.ref b452), .val (.int (Int32.ofNat (U (zsOf z421)).length)), .val (.int (Int32.ofNat (U (zsOf z422)).length)), .val (.int (Int32.ofNat (U (zsOf z423)).length)), .val (.ref b474), .val (.int (0 : Int32)), .val (.int (0 : Int32)), .unset, .unset, .unset, .unset, .unset, .unset, .unset, .unset, .unset, .unset, .unset, .unset, .unset]) rfl ?_
    refine g_iload X559 at_142 (pc' := 144) rfl rfl ?_
    refine g_iconst X559 at_144 (pc' := 145) rfl (v := (1 : Int32)) rfl ?_
    refine g_iadd X559 at_145 (pc' := 146) rfl ?_
    refine g_istore X559 at_146 (pc' := 148) rfl (L' := #[.val (.long t_), .second, .val (.int q_), .val (.int ra), .val (.int rb), .val (.int rc), .val (.int z421), .val (.int z422), .val (.int z423), .val (.ref a424), .val (.ref a425), .val (.ref a426), .val (.ref b427), .val (.ref b438), .val (.ref b452), .val (.int (Int32.ofNat (U (zsOf z421)).length)), .val (.int (Int32.ofNat (U (zsOf z422)).length)), .val (.int (Int32.ofNat (U (zsOf z423)).length)), .val (.ref b474), .val (.int (0 : Int32)), .val (.int (0 : Int32)), .val (.int ((0 : Int32) + (1 : Int32))), .unset, .unset, .unset, .unset, .unset, .unset, .unset, .unset, .unset, .unset, .unset, .unset]) rfl ?_
    refine g_aload X559 at_148 (pc' := 150) rfl rfl rfl ?_
    refine g_aload X559 at_150 (pc' := 152) rfl rfl rfl ?_
    have f567 := (((((f484.ext E474).wr W492).wr W493).wr W494).wr W495)
    have f568 := (((((((((((H426.2.1.ext E427).ext E438).ext E452).keep K469 (nm1 ne436)).keep K471 (nm1 ne447)).keep K473 (nm1 ne461)).ext E474).other W492 (Or.inl ne483)).other W493 (Or.inl ne483)).other W494 (Or.inl ne483)).other W495 (Or.inl ne483))
    have f569 := (((((((((((H426.2.2.1.ext E427).ext E438).ext E452).keep K469 (nm1 ne436)).keep K471 (nm1 ne447)).keep K473 (nm1 ne461)).ext E474).other W492 (Or.inl ne483)).other W493 (Or.inl ne483)).other W494 (Or.inl ne483)).other W495 (Or.inl ne483))
    have f570 := (((((f486.ext E474).other W492 ne485).other W493 ne485).other W494 ne485).other W495 ne485)
    have f571 := (((((((((((HE426.ext E427).ext E438).ext E452).keep K469).keep K471).keep K473).ext E474).wr W492).wr W493).wr W494).wr W495)
    refine g_ncallV X559 (y := (⟨"java/lang/String", "equals", "(Ljava/lang/Object;)Z"⟩ : MethodName)) (z := (⟨"java/lang/String", "equals", "(Ljava/lang/Object;)Z"⟩ : MethodName)) (a := a426) [(.ref a424)] (hw _ m33) (hw _ m34) (notFace_of_selects (args := #[]) (mvT X559.hZ (hw _ m36))) (hw _ m36) (hw _ m35) f567 (hw _ m37) (hw _ m10) (Nar.rm7 l Z a0 hw a426 a424 h495 n0 X559.old u426 u424 (zsOf z423) (zsOf z421) ⟨f567, f568, f569, f570⟩ ⟨f554, f555, f556, f557⟩ (own_zby z423).2 (own_zby z421).2 G1 O2 P5) (by decide) (by decide) (by decide) (by decide) (by decide) rfl pd_29 rfl (rest := []) rfl (W := 0) rfl at_152 (pc' := 155) rfl ?_
    rintro _ T572 _ _ Y572 ⟨z572, rfl, r572, rfl, rfl⟩
    have X572 := Y572 X559.old (Fr.nil _) (Nat.le_refl _)
    show Go p e below _ (State.setTop _ (mkF m 155 #[.val (.long t_), .second, .val (.int q_), .val (.int ra), .val (.int rb), .val (.int rc), .val (.int z421), .val (.int z422), .val (.int z423), .val (.ref a424), .val (.ref a425), .val (.ref a426), .val (.ref b427), .val (.ref b438), .val (.ref b452), .val (.int (Int32.ofNat (U (zsOf z421)).length)), .val (.int (Int32.ofNat (U (zsOf z422)).length)), .val (.int (Int32.ofNat (U (zsOf z423)).length)), .val (.ref b474), .val (.int (0 : Int32)), .val (.int (0 : Int32)), .val (.int ((0 : Int32) + (1 : Int32))), .unset, .unset, .unset, .unset, .unset, .unset, .unset, .unset, .unset, .unset, .unset, .unset] [(.int z572)]))
    refine g_if_eq X572 at_155 (pt := 162) (by decide) (pc' := 158) rfl (fun hc155 => ?_) (fun hc155 => ?_)
    · have e20 : ¬ zsOf z423 = zsOf z421 := r572.elim (fun q => absurd (hc155.symm.trans q.1) (by decide)) (fun q => q.2)
      refine g_aload X572 at_162 (pc' := 164) rfl rfl rfl ?_
      refine g_aload X572 at_164 (pc' := 166) rfl rfl rfl ?_
      refine g_ncallV X572 (y := (⟨"java/lang/String", "equals", "(Ljava/lang/Object;)Z"⟩ : MethodName)) (z := (⟨"java/lang/String", "equals", "(Ljava/lang/Object;)Z"⟩ : MethodName)) (a := a426) [(.ref a425)] (hw _ m33) (hw _ m34) (notFace_of_selects (args := #[]) (mvT X572.hZ (hw _ m36))) (hw _ m36) (hw _ m35) f567 (hw _ m37) (hw _ m10) (Nar.rm7 l Z a0 hw a426 a425 h495 n0 X572.old u426 u425 (zsOf z423) (zsOf z422) ⟨f567, f568, f569, f570⟩ ⟨f549, f550, f551, f552⟩ (own_zby z423).2 (own_zby z422).2 G1 O2 P5) (by decide) (by decide) (by decide) (by decide) (by decide) rfl pd_29 rfl (rest := []) rfl (W := 0) rfl at_166 (pc' := 169) rfl ?_
      rintro _ T573 _ _ Y573 ⟨z573, rfl, r573, rfl, rfl⟩
      have X573 := Y573 X572.old (Fr.nil _) (Nat.le_refl _)
      show Go p e below _ (State.setTop _ (mkF m 169 #[.val (.long t_), .second, .val (.int q_), .val (.int ra), .val (.int rb), .val (.int rc), .val (.int z421), .val (.int z422), .val (.int z423), .val (.ref a424), .val (.ref a425), .val (.ref a426), .val (.ref b427), .val (.ref b438), .val (.ref b452), .val (.int (Int32.ofNat (U (zsOf z421)).length)), .val (.int (Int32.ofNat (U (zsOf z422)).length)), .val (.int (Int32.ofNat (U (zsOf z423)).length)), .val (.ref b474), .val (.int (0 : Int32)), .val (.int (0 : Int32)), .val (.int ((0 : Int32) + (1 : Int32))), .unset, .unset, .unset, .unset, .unset, .unset, .unset, .unset, .unset, .unset, .unset, .unset] [(.int z573)]))
      refine g_if_eq X573 at_169 (pt := 177) (by decide) (pc' := 172) rfl (fun hc169 => ?_) (fun hc169 => ?_)
      · have e21 : ¬ zsOf z423 = zsOf z422 := r573.elim (fun q => absurd (hc169.symm.trans q.1) (by decide)) (fun q => q.2)
        refine g_iload X573 at_177 (pc' := 179) rfl rfl ?_
        refine g_istore X573 at_179 (pc' := 181) rfl (L' := #[.val (.long t_), .second, .val (.int q_), .val (.int ra), .val (.int rb), .val (.int rc), .val (.int z421), .val (.int z422), .val (.int z423), .val (.ref a424), .val (.ref a425), .val (.ref a426), .val (.ref b427), .val (.ref b438), .val (.ref b452), .val (.int (Int32.ofNat (U (zsOf z421)).length)), .val (.int (Int32.ofNat (U (zsOf z422)).length)), .val (.int (Int32.ofNat (U (zsOf z423)).length)), .val (.ref b474), .val (.int (0 : Int32)), .val (.int (0 : Int32)), .val (.int ((0 : Int32) + (1 : Int32))), .val (.int ((0 : Int32) + (1 : Int32))), .unset, .unset, .unset, .unset, .unset, .unset, .unset, .unset, .unset, .unset, .unset]) rfl ?_
        exact J181 _ _ _ _ ⟨Or.inl ⟨e10, rfl⟩, Or.inr (Or.inr ⟨e20, e21, rfl⟩)⟩ X573
      · have e21 : zsOf z423 = zsOf z422 := r573.elim (fun q => q.2) (fun q => absurd q.1 hc169)
        refine g_iload X573 at_172 (pc' := 174) rfl rfl ?_
        refine g_goto X573 at_174 (pt := 179) (by decide) ?_
        refine g_istore X573 at_179 (pc' := 181) rfl (L' := #[.val (.long t_), .second, .val (.int q_), .val (.int ra), .val (.int rb), .val (.int rc), .val (.int z421), .val (.int z422), .val (.int z423), .val (.ref a424), .val (.ref a425), .val (.ref a426), .val (.ref b427), .val (.ref b438), .val (.ref b452), .val (.int (Int32.ofNat (U (zsOf z421)).length)), .val (.int (Int32.ofNat (U (zsOf z422)).length)), .val (.int (Int32.ofNat (U (zsOf z423)).length)), .val (.ref b474), .val (.int (0 : Int32)), .val (.int (0 : Int32)), .val (.int ((0 : Int32) + (1 : Int32))), .val (.int (0 : Int32)), .unset, .unset, .unset, .unset, .unset, .unset, .unset, .unset, .unset, .unset, .unset]) rfl ?_
        exact J181 _ _ _ _ ⟨Or.inl ⟨e10, rfl⟩, Or.inr (Or.inl ⟨e20, e21, rfl⟩)⟩ X573
    · have e20 : zsOf z423 = zsOf z421 := r572.elim (fun q => q.2) (fun q => absurd q.1 hc155)
      refine g_iconst X572 at_158 (pc' := 159) rfl (v := (0 : Int32)) rfl ?_
      refine g_goto X572 at_159 (pt := 179) (by decide) ?_
      refine g_istore X572 at_179 (pc' := 181) rfl (L' := #[.val (.long t_), .second, .val (.int q_), .val (.int ra), .val (.int rb), .val (.int rc), .val (.int z421), .val (.int z422), .val (.int z423), .val (.ref a424), .val (.ref a425), .val (.ref a426), .val (.ref b427), .val (.ref b438), .val (.ref b452), .val (.int (Int32.ofNat (U (zsOf z421)).length)), .val (.int (Int32.ofNat (U (zsOf z422)).length)), .val (.int (Int32.ofNat (U (zsOf z423)).length)), .val (.ref b474), .val (.int (0 : Int32)), .val (.int (0 : Int32)), .val (.int ((0 : Int32) + (1 : Int32))), .val (.int (0 : Int32)), .unset, .unset, .unset, .unset, .unset, .unset, .unset, .unset, .unset, .unset, .unset]) rfl ?_
      exact J181 _ _ _ _ ⟨Or.inl ⟨e10, rfl⟩, Or.inl ⟨e20, rfl⟩⟩ X572

end Wid
set_option maxRecDepth 65536 in
set_option maxHeartbeats 40000000 in
theorem comes_1 {Post : Tables → Env → Array Value → State → Outcome → State → Prop} (hpost : ∀ tb e args s v u, (limb_1_1.after args s (.returned v) u = true ∧ limb_1_2.after args s (.returned v) u = true ∧ True) → ReturnedEndW s (.returned v) u (Jvm.fieldLocs frame_1_writes args s ++ Jvm.arrayLocs frame_1_arrays args s ++ Jvm.staticLocs frame_1_statics s) 64 1664 → Post tb e args s (.returned v) u) :
    ArmFor flags0 classFile x code maxLocals ret World_1 tables_1 room_1 Calls_1 rest_1 Pre_1 Post := by
  intro l hfl _ _ p e ha hc hk s m args below hf hA hF happ hP
  obtain ⟨hcalls, hrest, hpre⟩ := hP
  obtain ⟨-, -, -, hnamed, -, -, -, hat⟩ := (Spec.applies_iff hf).mp happ
  obtain ⟨hg, hn⟩ := and_e (Cond.before_iff.mp (show (Jvm.Cond.and given_1 narrow_1).before args s = true from hpre))
  obtain ⟨hcount, hg⟩ := and_e hg
  obtain ⟨k0, hg⟩ := and_e hg
  obtain ⟨k1, hg⟩ := and_e hg
  obtain ⟨k2, hg⟩ := and_e hg
  obtain ⟨k3, hg⟩ := and_e hg
  have k4 := hg
  obtain ⟨w0, w1, w2, w3, w4, rfl⟩ : ∃ w0 w1 w2 w3 w4 : Value, args = #[w0, w1, w2, w3, w4] := by
    have hs : args.size = 5 := by simpa [Cond.value, given_1] using hcount
    obtain ⟨L⟩ := args
    match L, hs with
    | [w0, w1, w2, w3, w4], _ => exact ⟨w0, w1, w2, w3, w4, rfl⟩
  have hw := fun d (hd : d ∈ tables_1) => atoms_spec (ws := Jvm.Cond.code x code maxLocals ret :: tables_1) hat d (List.mem_cons_of_mem _ hd)
  obtain ⟨i0, e0⟩ := isL_v k0
  obtain rfl : w0 = (.long i0) := Option.some.inj e0
  obtain ⟨i1, e1⟩ := is_v k1
  obtain rfl : w1 = (.int i1) := Option.some.inj e1
  obtain ⟨i2, e2⟩ := is_v k2
  obtain rfl : w2 = (.int i2) := Option.some.inj e2
  obtain ⟨i3, e3⟩ := is_v k3
  obtain rfl : w3 = (.int i3) := Option.some.inj e3
  obtain ⟨i4, e4⟩ := is_v k4
  obtain rfl : w4 = (.int i4) := Option.some.inj e4
  obtain ⟨hsets, hown0⟩ := atoms_of _ (rest_1_c_eq ▸ (show rest_1_c.before _ s = true from hrest))
  have n5 := not_v (Cond.before_iff.mp (hsets _ (List.mem_of_getElem? (i := 2) rfl)))
  obtain ⟨G1, eG⟩ := is_v (Cond.before_iff.mp (hsets _ (List.mem_of_getElem? (i := 1) rfl)))
  have O2 : Sta s s.heap "java/lang/String" "COMPACT_STRINGS" "Z" (.int G1) := Sta.start eG (Or.inl (hsets _ (List.mem_of_getElem? (i := 0) rfl)))
  have P5 : ¬ (G1 = (0 : Int32)) := gotF (Cond.eq_ints eG (Term.int_eval (0))) n5
  obtain ⟨ci, -, -, -, evI, -⟩ := Cond.exactly_spec (hsets _ (List.mem_of_getElem? (i := 17) rfl))
  have evC := Cond.eq_refs (hsets _ (List.mem_of_getElem? (i := 13) rfl)) evI rfl
  have OI : Sta s s.heap "sun/nio/cs/UTF_8" "INSTANCE" "Lsun/nio/cs/UTF_8;" (.ref ci) := Sta.start evI (Or.inl (hsets _ (List.mem_of_getElem? (i := 12) rfl)))
  have OC : Sta s s.heap "java/nio/charset/StandardCharsets" "UTF_8" "Ljava/nio/charset/Charset;" (.ref ci) := Sta.start evC (Or.inl (hsets _ (List.mem_of_getElem? (i := 10) rfl)))
  have hCH : CHv s consts_1 s.vm s.heap := CHv.start (Wid.own_ew hw) (fun q hq => hcalls.1 q hq) (hsets _ (List.mem_of_getElem? (i := 2) rfl)) (hw _ m23) (hw _ m9)
  obtain ⟨n, o, h1, h2, h3, _, L, rfl, ⟨rfl, N⟩, hq⟩ := Wid.rm0 l s _ hw tables_1 i0 i1 i2 i3 i4 s.heap s.heap.size (Old.start s) ci OI OC G1 O2 P5 p e ha hc hk s m _ below hf ((Spec.applies_iff_loose hf).mp happ).1 ⟨rfl, State.Warmed39.refl s, rfl, hCH⟩ trivial
  refine ⟨n, _, h1, h2, h3, hpost _ _ _ _ _ _ ⟨Cond.after_iff.mpr rfl, Cond.after_iff.mpr (eq_i res_at (Term.int_eval (1)) rfl), trivial⟩ ⟨hq.1, hq.2.1, hq.2.2.1, (hq.2.2.2.sift fun y hy => Or.inr (N y hy)).mono (by decide) (by decide)⟩⟩
theorem main_1_1 : Claimed_1_1 := comes_1 fun _ _ _ _ _ _ h hF => ⟨h.1, hF⟩
theorem main_1_2 : Claimed_1_2 := comes_1 fun _ _ _ _ _ _ h hF => ⟨h.2.1, hF⟩
end Jvm.Pilot.@@N@@
namespace Jvm.Pilot.@@N@@
open Jvm Jvm.ClassFile Sem Op Lib Jvm.Free Jvm.Stand Jvm.Pilot.@@N@@.Jvm.D
/-! MADE BY PROGRAM (witnessworld.py) out of the Statement's table words and the real class files: 31 classes; the members and pool entries that the words name. The judged class is class 1, her method 9. -/
namespace start1
open Jvm.ClassFile
def u (s : String) : CpInfo := .utf8 (stringToUtf16 s)
/-- a pool by its gaps: so many unusable entries, then the entry; so many at the end -/
def gap : Nat → List CpInfo → List CpInfo
  | 0, r => r
  | n + 1, r => .unusable :: gap n r
def poolList (es : List (Nat × CpInfo)) (last : Nat) : List CpInfo := es.foldr (fun e r => gap e.1 (e.2 :: r)) (gap last [])
def pool (es : List (Nat × CpInfo)) (last : Nat) : Array CpInfo := ⟨poolList es last⟩
def fileOf (pool : Array CpInfo) (this : Nat) (attrs : Array Attribute := #[]) (ms : Array MethodInfo := #[]) (fl : Nat := 33) (sup : Nat := 0) (ifs : Array Nat := #[]) (fds : Array FieldInfo := #[]) : ClassFile where
  minorVersion := 0
  majorVersion := 65
  constantPool := pool
  accessFlags := fl
  thisClass := this
  superClass := sup
  interfaces := ifs
  fields := fds
  methods := ms
  attributes := attrs
def plain (name : String) (sup : Option ClassId) : Class where
  name := name
  kind := .ordinary
  loader := none
  accessFlags := 33
  super := sup
  interfaces := #[]
  cf := none
  fields := #[]
  methods := #[]
  instanceTypes := #[]
  staticTypes := #[]
  resolved := #[]
  callSites := []
  init := .initialized
  statics := none
  mirror := none

def pool0 : Array CpInfo := pool [(5, u "<init>"), (0, u "()V"), (1, .class_ 10), (1, u "java/lang/Object"), (85, u "clone"), (0, u "()Ljava/lang/Object;")] 26

def k0c0 : Code := { maxStack := 0, maxLocals := 1, code := object_method_1_code, exceptionTable := #[], attributes := #[] }
def k0m0 : Method := { name := "<init>", desc := "()V", sig := { parameters := [], returnType := none }, accessFlags := 1, code := some k0c0 }
def k0m1 : Method := { name := "clone", desc := "()Ljava/lang/Object;", sig := { parameters := [], returnType := some (.object "java/lang/Object") }, accessFlags := 260, code := none }
/-- java/lang/Object -/
def k0 : Class := { plain "java/lang/Object" none with
  accessFlags := 33
  interfaces := #[]
  cf := some (fileOf pool0 8 #[] #[{ accessFlags := 1, nameIndex := 5, descriptorIndex := 6, attributes := #[] }, { accessFlags := 260, nameIndex := 96, descriptorIndex := 97, attributes := #[] }] 33 0 #[] #[])
  fields := #[]
  methods := #[k0m0, k0m1]
  instanceTypes := #[]
  staticTypes := #[]
  resolved := Array.replicate 124 none
  statics := none }

def pool1 : Array CpInfo := pool [(2, .class_ 4), (0, .nameAndType 5 6), (0, u "java/lang/Object"), (0, u "<init>"), (0, u "()V"), (0, .long 262143), (1, .class_ 10), (0, u "java/lang/String"), (0, .methodref 9 12), (0, .nameAndType 5 13), (0, u "([C)V"), (0, .methodref 9 15), (0, .nameAndType 16 17), (0, u "valueOf"), (0, u "(C)Ljava/lang/String;"), (0, .methodref 19 20), (0, .class_ 21), (0, .nameAndType 22 23), (0, u "com/example/indexloom/indexloom/TextsFindPinLaw"), (0, u "put"), (0, u "([BII)I"), (0, .methodref 19 25), (0, .nameAndType 26 27), (0, u "match"), (0, u "([BII[BI)Z"), (0, .integer 16777215), (0, .methodref 19 30), (0, .nameAndType 31 32), (0, u "field"), (0, u "(JI)I"), (0, .methodref 19 34), (0, .nameAndType 35 36), (0, u "str"), (0, u "(I)Ljava/lang/String;"), (0, .methodref 19 38), (0, .nameAndType 39 40), (0, u "enc"), (0, u "(I[B)I"), (0, .methodref 9 42), (0, .nameAndType 43 44), (0, u "equals"), (0, u "(Ljava/lang/Object;)Z"), (0, .methodref 19 46), (0, .nameAndType 47 48), (0, u "start"), (0, u "(I)I"), (0, .methodref 19 50), (0, .nameAndType 51 52), (0, u "end"), (0, u "(II)I"), (0, .methodref 19 54), (0, .nameAndType 55 56), (0, u "expected"), (0, u "([BII[BII[BII[BII)I"), (0, .class_ 58), (0, u "com/example/indexloom/indexloom/Texts"), (0, .methodref 57 3), (0, .methodref 57 61), (0, .nameAndType 62 63), (0, u "number"), (0, u "(Ljava/lang/String;)I"), (0, .methodref 57 65), (0, .nameAndType 66 23), (0, u "find"), (3, u "law"), (0, u "(JIIII)Z")] 4

def k1m0 : Method := { name := "<init>", desc := "()V", sig := { parameters := [], returnType := none }, accessFlags := 1, code := none }
def k1c1 : Code := { maxStack := 4, maxLocals := 3, code := method_2_code, exceptionTable := #[], attributes := #[] }
def k1m1 : Method := { name := "field", desc := "(JI)I", sig := { parameters := [.long, .int], returnType := some .int }, accessFlags := 10, code := some k1c1 }
def k1c2 : Code := { maxStack := 6, maxLocals := 4, code := method_3_code, exceptionTable := #[], attributes := #[] }
def k1m2 : Method := { name := "str", desc := "(I)Ljava/lang/String;", sig := { parameters := [.int], returnType := some (.object "java/lang/String") }, accessFlags := 10, code := some k1c2 }
def k1c3 : Code := { maxStack := 5, maxLocals := 3, code := method_4_code, exceptionTable := #[], attributes := #[] }
def k1m3 : Method := { name := "put", desc := "([BII)I", sig := { parameters := [(.array .byte), .int, .int], returnType := some .int }, accessFlags := 10, code := some k1c3 }
def k1c4 : Code := { maxStack := 4, maxLocals := 4, code := method_5_code, exceptionTable := #[], attributes := #[] }
def k1m4 : Method := { name := "enc", desc := "(I[B)I", sig := { parameters := [.int, (.array .byte)], returnType := some .int }, accessFlags := 10, code := some k1c4 }
def k1c5 : Code := { maxStack := 3, maxLocals := 5, code := method_6_code, exceptionTable := #[], attributes := #[] }
def k1m5 : Method := { name := "match", desc := "([BII[BI)Z", sig := { parameters := [(.array .byte), .int, .int, (.array .byte), .int], returnType := some .boolean }, accessFlags := 10, code := some k1c5 }
def k1c6 : Code := { maxStack := 5, maxLocals := 12, code := method_7_code, exceptionTable := #[], attributes := #[] }
def k1m6 : Method := { name := "expected", desc := "([BII[BII[BII[BII)I", sig := { parameters := [(.array .byte), .int, .int, (.array .byte), .int, .int, (.array .byte), .int, .int, (.array .byte), .int, .int], returnType := some .int }, accessFlags := 10, code := some k1c6 }
def k1c7 : Code := { maxStack := 2, maxLocals := 1, code := method_8_code, exceptionTable := #[], attributes := #[] }
def k1m7 : Method := { name := "start", desc := "(I)I", sig := { parameters := [.int], returnType := some .int }, accessFlags := 10, code := some k1c7 }
def k1c8 : Code := { maxStack := 4, maxLocals := 2, code := method_9_code, exceptionTable := #[], attributes := #[] }
def k1m8 : Method := { name := "end", desc := "(II)I", sig := { parameters := [.int, .int], returnType := some .int }, accessFlags := 10, code := some k1c8 }
def k1c9 : Code := { maxStack := 12, maxLocals := 34, code := code, exceptionTable := #[], attributes := #[] }
def k1m9 : Method := { name := "law", desc := "(JIIII)Z", sig := { parameters := [.long, .int, .int, .int, .int], returnType := some .boolean }, accessFlags := 9, code := some k1c9 }
/-- com/example/indexloom/indexloom/TextsFindPinLaw -/
def k1 : Class := { plain "com/example/indexloom/indexloom/TextsFindPinLaw" (some 0) with
  accessFlags := 49
  interfaces := #[]
  cf := some (fileOf pool1 19 #[] #[{ accessFlags := 1, nameIndex := 5, descriptorIndex := 6, attributes := #[] }, { accessFlags := 10, nameIndex := 31, descriptorIndex := 32, attributes := #[] }, { accessFlags := 10, nameIndex := 35, descriptorIndex := 36, attributes := #[] }, { accessFlags := 10, nameIndex := 22, descriptorIndex := 23, attributes := #[] }, { accessFlags := 10, nameIndex := 39, descriptorIndex := 40, attributes := #[] }, { accessFlags := 10, nameIndex := 26, descriptorIndex := 27, attributes := #[] }, { accessFlags := 10, nameIndex := 55, descriptorIndex := 56, attributes := #[] }, { accessFlags := 10, nameIndex := 47, descriptorIndex := 48, attributes := #[] }, { accessFlags := 10, nameIndex := 51, descriptorIndex := 52, attributes := #[] }, { accessFlags := 9, nameIndex := 70, descriptorIndex := 71, attributes := #[] }] 49 2 #[] #[])
  fields := #[]
  methods := #[k1m0, k1m1, k1m2, k1m3, k1m4, k1m5, k1m6, k1m7, k1m8, k1m9]
  instanceTypes := #[]
  staticTypes := #[]
  resolved := Array.replicate 76 none
  statics := none }

def pool2 : Array CpInfo := pool [(1, .class_ 2), (0, u "java/io/Serializable"), (0, .class_ 4), (0, u "java/lang/Object")] 2

/-- java/io/Serializable -/
def k2 : Class := { plain "java/io/Serializable" (some 0) with
  accessFlags := 1537
  interfaces := #[]
  cf := some (fileOf pool2 1 #[] #[] 1537 3 #[] #[])
  fields := #[]
  methods := #[]
  instanceTypes := #[]
  staticTypes := #[]
  resolved := Array.replicate 7 none
  statics := none }

def pool3 : Array CpInfo := pool [(1, .class_ 2), (0, u "java/lang/Comparable"), (0, .class_ 4), (0, u "java/lang/Object")] 7

/-- java/lang/Comparable -/
def k3 : Class := { plain "java/lang/Comparable" (some 0) with
  accessFlags := 1537
  interfaces := #[]
  cf := some (fileOf pool3 1 #[] #[] 1537 3 #[] #[])
  fields := #[]
  methods := #[]
  instanceTypes := #[]
  staticTypes := #[]
  resolved := Array.replicate 12 none
  statics := none }

def pool4 : Array CpInfo := pool [(2, .class_ 4), (1, u "java/lang/CharSequence"), (42, .class_ 48), (0, u "java/lang/CharSequence$1CodePointIterator"), (10, .class_ 60), (0, u "java/lang/CharSequence$1CharIterator"), (5, .class_ 67), (0, u "java/lang/Object")] 63

/-- java/lang/CharSequence -/
def k4 : Class := { plain "java/lang/CharSequence" (some 0) with
  accessFlags := 1537
  interfaces := #[]
  cf := some (fileOf pool4 2 #[.nestMembers #[47, 59]] #[] 1537 66 #[] #[])
  fields := #[]
  methods := #[]
  instanceTypes := #[]
  staticTypes := #[]
  resolved := Array.replicate 131 none
  statics := none }

def pool5 : Array CpInfo := pool [(1, .class_ 2), (0, u "java/lang/constant/Constable"), (0, .class_ 4), (0, u "java/lang/Object")] 6

/-- java/lang/constant/Constable -/
def k5 : Class := { plain "java/lang/constant/Constable" (some 0) with
  accessFlags := 1537
  interfaces := #[]
  cf := some (fileOf pool5 1 #[] #[] 1537 3 #[] #[])
  fields := #[]
  methods := #[]
  instanceTypes := #[]
  staticTypes := #[]
  resolved := Array.replicate 11 none
  statics := none }

def pool6 : Array CpInfo := pool [(1, .class_ 2), (0, u "java/lang/constant/ConstantDesc"), (0, .class_ 4), (0, u "java/lang/Object")] 32

/-- java/lang/constant/ConstantDesc -/
def k6 : Class := { plain "java/lang/constant/ConstantDesc" (some 0) with
  accessFlags := 1537
  interfaces := #[]
  cf := some (fileOf pool6 1 #[] #[] 1537 3 #[] #[])
  fields := #[]
  methods := #[]
  instanceTypes := #[]
  staticTypes := #[]
  resolved := Array.replicate 37 none
  statics := none }

def pool7 : Array CpInfo := pool [(1, .methodref 2 3), (0, .class_ 4), (0, .nameAndType 5 6), (0, u "java/lang/Object"), (0, u "<init>"), (0, u "()V"), (0, .string 8), (0, u ""), (0, .fieldref 10 11), (0, .class_ 12), (0, .nameAndType 13 14), (0, u "java/lang/String"), (0, u "value"), (0, u "[B"), (0, .fieldref 10 16), (0, .nameAndType 17 18), (0, u "coder"), (0, u "B"), (2, u "hash"), (0, u "I"), (2, u "hashIsZero"), (0, u "Z"), (0, .methodref 10 28), (0, .nameAndType 5 29), (0, u "([CIILjava/lang/Void;)V"), (8, .fieldref 10 39), (0, .nameAndType 40 26), (0, u "COMPACT_STRINGS"), (1, .class_ 44), (1, u "java/lang/StringUTF16"), (0, u "compress"), (1, .methodref 42 48), (0, .nameAndType 49 50), (0, u "coderFromArrayLen"), (0, u "([BI)B"), (2, u "toBytes"), (1, .class_ 57), (1, u "java/util/Arrays"), (2, .methodref 42 61), (0, .nameAndType 62 63), (0, u "newBytesFor"), (0, u "(I)[B"), (22, .fieldref 87 88), (0, .class_ 89), (0, .nameAndType 90 91), (0, u "sun/nio/cs/UTF_8"), (0, u "INSTANCE"), (0, u "Lsun/nio/cs/UTF_8;"), (1, .class_ 95), (1, u "java/lang/StringCoding"), (6, .methodref 55 103), (0, .nameAndType 104 105), (0, u "copyOf"), (0, u "([BI)[B"), (1, .class_ 109), (1, u "java/lang/StringLatin1"), (18, .methodref 93 129), (0, .nameAndType 130 131), (0, u "hasNegatives"), (0, u "([BII)Z"), (45, .methodref 42 178), (0, .nameAndType 45 179), (0, u "([CII)[B"), (29, .methodref 10 210), (0, .nameAndType 5 211), (0, u "([BB)V"), (40, .methodref 10 253), (0, .nameAndType 254 255), (0, u "encodeUTF8"), (0, u "(B[BZ)[B"), (23, .methodref 280 281), (0, .class_ 14), (0, .nameAndType 282 283), (0, u "clone"), (0, u "()Ljava/lang/Object;"), (33, u "encode"), (17, .methodref 10 336), (0, .nameAndType 17 337), (0, u "()B"), (31, u "(C)Z"), (162, u "getBytes"), (2, .methodref 10 536), (0, .nameAndType 317 537), (0, u "(Ljava/nio/charset/Charset;B[B)[B"), (3, .methodref 107 542), (0, .nameAndType 543 544), (0, u "equals"), (0, u "([B[B)Z"), (28, u "(Ljava/lang/Object;)Z"), (1, .class_ 576), (0, u "java/lang/CharSequence"), (22, u "CASE_INSENSITIVE_ORDER"), (0, u "Ljava/util/Comparator;"), (181, u "valueOf"), (0, u "(C)Ljava/lang/String;"), (226, u "([C)V"), (4, .methodref 107 1016), (0, .nameAndType 1017 369), (0, u "canEncode"), (0, .methodref 107 1019), (0, .nameAndType 53 1020), (0, u "(C)[B"), (80, u "serialPersistentFields"), (0, u "[Ljava/io/ObjectStreamField;"), (0, .class_ 1104), (0, u "java/lang/String$CaseInsensitiveComparator"), (1, .class_ 1107), (0, u "java/io/Serializable"), (0, .class_ 1109), (0, u "java/lang/Comparable"), (0, .class_ 1111), (0, u "java/lang/constant/Constable"), (0, .class_ 1113), (0, u "java/lang/constant/ConstantDesc"), (2, u "serialVersionUID"), (0, u "J"), (3, u "REPL"), (0, u "C"), (2, u "LATIN1"), (1, u "UTF16"), (117, u "(Ljava/nio/charset/Charset;)[B")] 205

def k7m0 : Method := { name := "<init>", desc := "()V", sig := { parameters := [], returnType := none }, accessFlags := 1, code := none }
def k7c1 : Code := { maxStack := 5, maxLocals := 2, code := jdk_42_method_3_code, exceptionTable := #[], attributes := #[] }
def k7m1 : Method := { name := "<init>", desc := "([C)V", sig := { parameters := [(.array .char)], returnType := none }, accessFlags := 1, code := some k7c1 }
def k7c2 : Code := { maxStack := 4, maxLocals := 3, code := jdk_42_method_18_code, exceptionTable := #[], attributes := #[] }
def k7m2 : Method := { name := "encode", desc := "(Ljava/nio/charset/Charset;B[B)[B", sig := { parameters := [(.object "java/nio/charset/Charset"), .byte, (.array .byte)], returnType := some (.array .byte) }, accessFlags := 10, code := some k7c2 }
def k7c3 : Code := { maxStack := 5, maxLocals := 9, code := jdk_42_method_46_code, exceptionTable := #[], attributes := #[] }
def k7m3 : Method := { name := "encodeUTF8", desc := "(B[BZ)[B", sig := { parameters := [.byte, (.array .byte), .boolean], returnType := some (.array .byte) }, accessFlags := 10, code := some k7c3 }
def k7c4 : Code := { maxStack := 3, maxLocals := 2, code := jdk_42_method_64_code, exceptionTable := #[], attributes := #[] }
def k7m4 : Method := { name := "getBytes", desc := "(Ljava/nio/charset/Charset;)[B", sig := { parameters := [(.object "java/nio/charset/Charset")], returnType := some (.array .byte) }, accessFlags := 1, code := some k7c4 }
def k7c5 : Code := { maxStack := 2, maxLocals := 3, code := jdk_42_method_66_code, exceptionTable := #[], attributes := #[] }
def k7m5 : Method := { name := "equals", desc := "(Ljava/lang/Object;)Z", sig := { parameters := [(.object "java/lang/Object")], returnType := some .boolean }, accessFlags := 1, code := some k7c5 }
def k7c6 : Code := { maxStack := 4, maxLocals := 1, code := jdk_42_method_139_code, exceptionTable := #[], attributes := #[] }
def k7m6 : Method := { name := "valueOf", desc := "(C)Ljava/lang/String;", sig := { parameters := [.char], returnType := some (.object "java/lang/String") }, accessFlags := 9, code := some k7c6 }
def k7c7 : Code := { maxStack := 4, maxLocals := 6, code := jdk_42_method_149_code, exceptionTable := #[], attributes := #[] }
def k7m7 : Method := { name := "<init>", desc := "([CIILjava/lang/Void;)V", sig := { parameters := [(.array .char), .int, .int, (.object "java/lang/Void")], returnType := none }, accessFlags := 2, code := some k7c7 }
def k7c8 : Code := { maxStack := 2, maxLocals := 3, code := jdk_42_method_151_code, exceptionTable := #[], attributes := #[] }
def k7m8 : Method := { name := "<init>", desc := "([BB)V", sig := { parameters := [(.array .byte), .byte], returnType := none }, accessFlags := 0, code := some k7c8 }
def k7c9 : Code := { maxStack := 1, maxLocals := 1, code := jdk_42_method_152_code, exceptionTable := #[], attributes := #[] }
def k7m9 : Method := { name := "coder", desc := "()B", sig := { parameters := [], returnType := some .byte }, accessFlags := 0, code := some k7c9 }
/-- java/lang/String -/
def k7 : Class := { plain "java/lang/String" (some 0) with
  accessFlags := 49
  interfaces := #[2, 3, 4, 5, 6]
  cf := some (fileOf pool7 10 #[.nestMembers #[1103]] #[{ accessFlags := 1, nameIndex := 5, descriptorIndex := 6, attributes := #[] }, { accessFlags := 1, nameIndex := 5, descriptorIndex := 1010, attributes := #[] }, { accessFlags := 10, nameIndex := 317, descriptorIndex := 537, attributes := #[] }, { accessFlags := 10, nameIndex := 254, descriptorIndex := 255, attributes := #[] }, { accessFlags := 1, nameIndex := 532, descriptorIndex := 1245, attributes := #[] }, { accessFlags := 1, nameIndex := 543, descriptorIndex := 573, attributes := #[] }, { accessFlags := 9, nameIndex := 782, descriptorIndex := 783, attributes := #[] }, { accessFlags := 2, nameIndex := 5, descriptorIndex := 29, attributes := #[] }, { accessFlags := 0, nameIndex := 5, descriptorIndex := 211, attributes := #[] }, { accessFlags := 0, nameIndex := 17, descriptorIndex := 337, attributes := #[] }] 49 2 #[1106, 1108, 575, 1110, 1112] #[{ accessFlags := 18, nameIndex := 13, descriptorIndex := 14, attributes := #[] }, { accessFlags := 18, nameIndex := 17, descriptorIndex := 18, attributes := #[] }, { accessFlags := 2, nameIndex := 21, descriptorIndex := 22, attributes := #[] }, { accessFlags := 2, nameIndex := 25, descriptorIndex := 26, attributes := #[] }, { accessFlags := 26, nameIndex := 1116, descriptorIndex := 1117, attributes := #[] }, { accessFlags := 24, nameIndex := 40, descriptorIndex := 26, attributes := #[] }, { accessFlags := 26, nameIndex := 1101, descriptorIndex := 1102, attributes := #[] }, { accessFlags := 26, nameIndex := 1121, descriptorIndex := 1122, attributes := #[] }, { accessFlags := 25, nameIndex := 599, descriptorIndex := 600, attributes := #[] }, { accessFlags := 24, nameIndex := 1125, descriptorIndex := 18, attributes := #[] }, { accessFlags := 24, nameIndex := 1127, descriptorIndex := 18, attributes := #[] }])
  fields := #[{ name := "value", type := (.array .byte), accessFlags := 18, slot := 0, constantValue := 0 }, { name := "coder", type := .byte, accessFlags := 18, slot := 1, constantValue := 0 }, { name := "hash", type := .int, accessFlags := 2, slot := 2, constantValue := 0 }, { name := "hashIsZero", type := .boolean, accessFlags := 2, slot := 3, constantValue := 0 }, { name := "serialVersionUID", type := .long, accessFlags := 26, slot := 0, constantValue := 0 }, { name := "COMPACT_STRINGS", type := .boolean, accessFlags := 24, slot := 1, constantValue := 0 }, { name := "serialPersistentFields", type := (.array (.object "java/io/ObjectStreamField")), accessFlags := 26, slot := 2, constantValue := 0 }, { name := "REPL", type := .char, accessFlags := 26, slot := 3, constantValue := 0 }, { name := "CASE_INSENSITIVE_ORDER", type := (.object "java/util/Comparator"), accessFlags := 25, slot := 4, constantValue := 0 }, { name := "LATIN1", type := .byte, accessFlags := 24, slot := 5, constantValue := 0 }, { name := "UTF16", type := .byte, accessFlags := 24, slot := 6, constantValue := 0 }]
  methods := #[k7m0, k7m1, k7m2, k7m3, k7m4, k7m5, k7m6, k7m7, k7m8, k7m9]
  instanceTypes := #[(.array .byte), .byte, .int, .boolean]
  staticTypes := #[.long, .boolean, (.array (.object "java/io/ObjectStreamField")), .char, (.object "java/util/Comparator"), .byte, .byte]
  resolved := Array.replicate 1451 none
  statics := some 0 }

def pool8 : Array CpInfo := pool [(4, .class_ 6), (1, u "java/lang/Object"), (0, u "<init>"), (0, u "()V"), (5, .class_ 16), (1, u "java/lang/StringLatin1"), (73, u "canEncode"), (14, u "(C)Z"), (15, u "$assertionsDisabled"), (0, u "Z"), (98, .class_ 223), (1, u "java/lang/StringLatin1$LinesSpliterator"), (57, u "equals"), (0, u "([B[B)Z"), (97, u "toBytes"), (1, u "(C)[B"), (7, .class_ 391), (0, u "java/lang/StringLatin1$CharsSpliterator")] 3

def k8m0 : Method := { name := "<init>", desc := "()V", sig := { parameters := [], returnType := none }, accessFlags := 0, code := none }
def k8c1 : Code := { maxStack := 2, maxLocals := 1, code := jdk_43_method_3_code, exceptionTable := #[], attributes := #[] }
def k8m1 : Method := { name := "canEncode", desc := "(C)Z", sig := { parameters := [.char], returnType := some .boolean }, accessFlags := 9, code := some k8c1 }
def k8c2 : Code := { maxStack := 3, maxLocals := 3, code := jdk_43_method_13_code, exceptionTable := #[], attributes := #[] }
def k8m2 : Method := { name := "equals", desc := "([B[B)Z", sig := { parameters := [(.array .byte), (.array .byte)], returnType := some .boolean }, accessFlags := 9, code := some k8c2 }
def k8c3 : Code := { maxStack := 4, maxLocals := 1, code := jdk_43_method_46_code, exceptionTable := #[], attributes := #[] }
def k8m3 : Method := { name := "toBytes", desc := "(C)[B", sig := { parameters := [.char], returnType := some (.array .byte) }, accessFlags := 9, code := some k8c3 }
/-- java/lang/StringLatin1 -/
def k8 : Class := { plain "java/lang/StringLatin1" (some 0) with
  accessFlags := 48
  interfaces := #[]
  cf := some (fileOf pool8 14 #[.nestMembers #[390, 221]] #[{ accessFlags := 0, nameIndex := 7, descriptorIndex := 8, attributes := #[] }, { accessFlags := 9, nameIndex := 90, descriptorIndex := 105, attributes := #[] }, { accessFlags := 9, nameIndex := 281, descriptorIndex := 282, attributes := #[] }, { accessFlags := 9, nameIndex := 380, descriptorIndex := 382, attributes := #[] }] 48 4 #[] #[{ accessFlags := 4120, nameIndex := 121, descriptorIndex := 122, attributes := #[] }])
  fields := #[{ name := "$assertionsDisabled", type := .boolean, accessFlags := 4120, slot := 0, constantValue := 0 }]
  methods := #[k8m0, k8m1, k8m2, k8m3]
  instanceTypes := #[]
  staticTypes := #[.boolean]
  resolved := Array.replicate 395 none
  statics := none }

def pool9 : Array CpInfo := pool [(1, .methodref 2 3), (0, .class_ 4), (0, .nameAndType 5 6), (0, u "java/lang/Object"), (0, u "<init>"), (0, u "()V"), (0, .class_ 8), (0, u "com/example/indexloom/indexloom/Texts"), (0, .fieldref 7 10), (0, .nameAndType 11 12), (0, u "slots"), (0, u "[I"), (0, .class_ 14), (0, u "[B"), (0, .fieldref 7 16), (0, .nameAndType 17 18), (0, u "bytes"), (0, u "[[B"), (0, .fieldref 7 20), (0, .nameAndType 21 12), (0, u "hashes"), (0, .class_ 23), (0, u "java/lang/String"), (0, .fieldref 7 25), (0, .nameAndType 26 27), (0, u "texts"), (0, u "[Ljava/lang/String;"), (0, .fieldref 7 29), (0, .nameAndType 30 12), (0, u "following"), (0, .fieldref 7 32), (0, .nameAndType 33 34), (0, u "last"), (0, u "I"), (0, .fieldref 7 36), (0, .nameAndType 37 34), (0, u "size"), (0, .methodref 7 39), (0, .nameAndType 40 41), (0, u "equal"), (0, u "([B[BII)Z"), (0, .methodref 7 43), (0, .nameAndType 44 45), (0, u "lookUp"), (0, u "([BII)I"), (0, .methodref 7 47), (0, .nameAndType 48 49), (0, u "follow"), (0, u "(I)V"), (0, .methodref 7 51), (0, .nameAndType 52 45), (0, u "hash"), (0, .fieldref 54 55), (0, .class_ 56), (0, .nameAndType 57 58), (0, u "java/nio/charset/StandardCharsets"), (0, u "UTF_8"), (0, u "Ljava/nio/charset/Charset;"), (0, .methodref 22 60), (0, .nameAndType 61 62), (0, u "getBytes"), (0, u "(Ljava/nio/charset/Charset;)[B"), (0, .methodref 7 64), (0, .nameAndType 65 45), (0, u "find"), (11, .methodref 7 78), (0, .nameAndType 79 80), (0, u "free"), (0, u "(I)I"), (0, u "FIRST_SLOTS"), (8, u "number"), (0, u "(Ljava/lang/String;)I")] 2

def k9c0 : Code := { maxStack := 2, maxLocals := 1, code := prog_100_method_1_code, exceptionTable := #[], attributes := #[] }
def k9m0 : Method := { name := "<init>", desc := "()V", sig := { parameters := [], returnType := none }, accessFlags := 0, code := some k9c0 }
def k9c1 : Code := { maxStack := 4, maxLocals := 6, code := prog_100_method_4_code, exceptionTable := #[], attributes := #[] }
def k9m1 : Method := { name := "find", desc := "([BII)I", sig := { parameters := [(.array .byte), .int, .int], returnType := some .int }, accessFlags := 0, code := some k9c1 }
def k9c2 : Code := { maxStack := 3, maxLocals := 2, code := prog_100_method_5_code, exceptionTable := #[], attributes := #[] }
def k9m2 : Method := { name := "follow", desc := "(I)V", sig := { parameters := [.int], returnType := none }, accessFlags := 2, code := some k9c2 }
def k9c3 : Code := { maxStack := 4, maxLocals := 8, code := prog_100_method_6_code, exceptionTable := #[], attributes := #[] }
def k9m3 : Method := { name := "lookUp", desc := "([BII)I", sig := { parameters := [(.array .byte), .int, .int], returnType := some .int }, accessFlags := 2, code := some k9c3 }
def k9c4 : Code := { maxStack := 5, maxLocals := 5, code := prog_100_method_7_code, exceptionTable := #[], attributes := #[] }
def k9m4 : Method := { name := "number", desc := "(Ljava/lang/String;)I", sig := { parameters := [(.object "java/lang/String")], returnType := some .int }, accessFlags := 0, code := some k9c4 }
def k9c5 : Code := { maxStack := 2, maxLocals := 4, code := prog_100_method_8_code, exceptionTable := #[], attributes := #[] }
def k9m5 : Method := { name := "free", desc := "(I)I", sig := { parameters := [.int], returnType := some .int }, accessFlags := 2, code := some k9c5 }
def k9c6 : Code := { maxStack := 4, maxLocals := 5, code := prog_100_method_9_code, exceptionTable := #[], attributes := #[] }
def k9m6 : Method := { name := "equal", desc := "([B[BII)Z", sig := { parameters := [(.array .byte), (.array .byte), .int, .int], returnType := some .boolean }, accessFlags := 8, code := some k9c6 }
def k9c7 : Code := { maxStack := 3, maxLocals := 5, code := prog_100_method_10_code, exceptionTable := #[], attributes := #[] }
def k9m7 : Method := { name := "hash", desc := "([BII)I", sig := { parameters := [(.array .byte), .int, .int], returnType := some .int }, accessFlags := 10, code := some k9c7 }
/-- com/example/indexloom/indexloom/Texts -/
def k9 : Class := { plain "com/example/indexloom/indexloom/Texts" (some 0) with
  accessFlags := 48
  interfaces := #[]
  cf := some (fileOf pool9 7 #[] #[{ accessFlags := 0, nameIndex := 5, descriptorIndex := 6, attributes := #[] }, { accessFlags := 0, nameIndex := 65, descriptorIndex := 45, attributes := #[] }, { accessFlags := 2, nameIndex := 48, descriptorIndex := 49, attributes := #[] }, { accessFlags := 2, nameIndex := 44, descriptorIndex := 45, attributes := #[] }, { accessFlags := 0, nameIndex := 90, descriptorIndex := 91, attributes := #[] }, { accessFlags := 2, nameIndex := 79, descriptorIndex := 80, attributes := #[] }, { accessFlags := 8, nameIndex := 40, descriptorIndex := 41, attributes := #[] }, { accessFlags := 10, nameIndex := 52, descriptorIndex := 45, attributes := #[] }] 48 2 #[] #[{ accessFlags := 26, nameIndex := 81, descriptorIndex := 34, attributes := #[] }, { accessFlags := 2, nameIndex := 11, descriptorIndex := 12, attributes := #[] }, { accessFlags := 2, nameIndex := 17, descriptorIndex := 18, attributes := #[] }, { accessFlags := 2, nameIndex := 21, descriptorIndex := 12, attributes := #[] }, { accessFlags := 2, nameIndex := 26, descriptorIndex := 27, attributes := #[] }, { accessFlags := 2, nameIndex := 30, descriptorIndex := 12, attributes := #[] }, { accessFlags := 2, nameIndex := 33, descriptorIndex := 34, attributes := #[] }, { accessFlags := 2, nameIndex := 37, descriptorIndex := 34, attributes := #[] }])
  fields := #[{ name := "FIRST_SLOTS", type := .int, accessFlags := 26, slot := 0, constantValue := 0 }, { name := "slots", type := (.array .int), accessFlags := 2, slot := 0, constantValue := 0 }, { name := "bytes", type := (.array (.array .byte)), accessFlags := 2, slot := 1, constantValue := 0 }, { name := "hashes", type := (.array .int), accessFlags := 2, slot := 2, constantValue := 0 }, { name := "texts", type := (.array (.object "java/lang/String")), accessFlags := 2, slot := 3, constantValue := 0 }, { name := "following", type := (.array .int), accessFlags := 2, slot := 4, constantValue := 0 }, { name := "last", type := .int, accessFlags := 2, slot := 5, constantValue := 0 }, { name := "size", type := .int, accessFlags := 2, slot := 6, constantValue := 0 }]
  methods := #[k9m0, k9m1, k9m2, k9m3, k9m4, k9m5, k9m6, k9m7]
  instanceTypes := #[(.array .int), (.array (.array .byte)), (.array .int), (.array (.object "java/lang/String")), (.array .int), .int, .int]
  staticTypes := #[.int]
  resolved := Array.replicate 94 none
  statics := none }

def pool10 : Array CpInfo := pool [(2, .class_ 4), (1, u "java/lang/Object"), (0, u "<init>"), (0, u "()V"), (14, .class_ 23), (1, u "java/nio/charset/StandardCharsets"), (0, u "US_ASCII"), (0, u "Ljava/nio/charset/Charset;"), (7, u "ISO_8859_1"), (7, u "UTF_8"), (5, u "UTF_16BE"), (5, u "UTF_16LE"), (5, u "UTF_16")] 8

def k10m0 : Method := { name := "<init>", desc := "()V", sig := { parameters := [], returnType := none }, accessFlags := 2, code := none }
/-- java/nio/charset/StandardCharsets -/
def k10 : Class := { plain "java/nio/charset/StandardCharsets" (some 0) with
  accessFlags := 49
  interfaces := #[]
  cf := some (fileOf pool10 21 #[] #[{ accessFlags := 2, nameIndex := 5, descriptorIndex := 6, attributes := #[] }] 49 2 #[] #[{ accessFlags := 25, nameIndex := 24, descriptorIndex := 25, attributes := #[] }, { accessFlags := 25, nameIndex := 33, descriptorIndex := 25, attributes := #[] }, { accessFlags := 25, nameIndex := 41, descriptorIndex := 25, attributes := #[] }, { accessFlags := 25, nameIndex := 47, descriptorIndex := 25, attributes := #[] }, { accessFlags := 25, nameIndex := 53, descriptorIndex := 25, attributes := #[] }, { accessFlags := 25, nameIndex := 59, descriptorIndex := 25, attributes := #[] }])
  fields := #[{ name := "US_ASCII", type := (.object "java/nio/charset/Charset"), accessFlags := 25, slot := 0, constantValue := 0 }, { name := "ISO_8859_1", type := (.object "java/nio/charset/Charset"), accessFlags := 25, slot := 1, constantValue := 0 }, { name := "UTF_8", type := (.object "java/nio/charset/Charset"), accessFlags := 25, slot := 2, constantValue := 0 }, { name := "UTF_16BE", type := (.object "java/nio/charset/Charset"), accessFlags := 25, slot := 3, constantValue := 0 }, { name := "UTF_16LE", type := (.object "java/nio/charset/Charset"), accessFlags := 25, slot := 4, constantValue := 0 }, { name := "UTF_16", type := (.object "java/nio/charset/Charset"), accessFlags := 25, slot := 5, constantValue := 0 }]
  methods := #[k10m0]
  instanceTypes := #[]
  staticTypes := #[(.object "java/nio/charset/Charset"), (.object "java/nio/charset/Charset"), (.object "java/nio/charset/Charset"), (.object "java/nio/charset/Charset"), (.object "java/nio/charset/Charset"), (.object "java/nio/charset/Charset")]
  resolved := Array.replicate 68 none
  statics := some 1 }

def pool11 : Array CpInfo := pool [(18, .class_ 20), (1, u "java/nio/charset/Charset"), (0, u "cache1"), (0, u "[Ljava/lang/Object;"), (2, u "cache2"), (0, .class_ 27), (0, u "java/lang/Object"), (0, .class_ 29), (0, u "java/nio/charset/Charset$1"), (4, .class_ 36), (1, u "java/nio/charset/Charset$ThreadTrackHolder"), (21, .class_ 59), (0, u "java/nio/charset/Charset$2"), (11, .class_ 73), (1, u "java/nio/charset/Charset$ExtendedProviderHolder"), (22, u "standardProvider"), (0, u "Ljava/nio/charset/spi/CharsetProvider;"), (29, u "name"), (7, .class_ 136), (0, u "java/nio/charset/Charset$3"), (5, u "defaultCharset"), (0, u "Ljava/nio/charset/Charset;"), (14, u "zeroAliases"), (0, u "[Ljava/lang/String;"), (29, u "Ljava/lang/String;"), (2, u "aliases"), (2, u "aliasSet"), (0, u "Ljava/util/Set;"), (82, .class_ 280), (0, u "java/lang/Comparable"), (84, .class_ 366), (0, u "java/nio/charset/Charset$ExtendedProviderHolder$1")] 3

/-- java/nio/charset/Charset -/
def k11 : Class := { plain "java/nio/charset/Charset" (some 0) with
  accessFlags := 1057
  interfaces := #[3]
  cf := some (fileOf pool11 18 #[.nestMembers #[71, 365, 34, 135, 58, 28]] #[] 1057 26 #[279] #[{ accessFlags := 26, nameIndex := 96, descriptorIndex := 97, attributes := #[] }, { accessFlags := 26, nameIndex := 158, descriptorIndex := 159, attributes := #[] }, { accessFlags := 74, nameIndex := 21, descriptorIndex := 22, attributes := #[] }, { accessFlags := 74, nameIndex := 25, descriptorIndex := 22, attributes := #[] }, { accessFlags := 10, nameIndex := 142, descriptorIndex := 143, attributes := #[] }, { accessFlags := 18, nameIndex := 127, descriptorIndex := 189, attributes := #[] }, { accessFlags := 18, nameIndex := 192, descriptorIndex := 159, attributes := #[] }, { accessFlags := 2, nameIndex := 195, descriptorIndex := 196, attributes := #[] }])
  fields := #[{ name := "standardProvider", type := (.object "java/nio/charset/spi/CharsetProvider"), accessFlags := 26, slot := 0, constantValue := 0 }, { name := "zeroAliases", type := (.array (.object "java/lang/String")), accessFlags := 26, slot := 1, constantValue := 0 }, { name := "cache1", type := (.array (.object "java/lang/Object")), accessFlags := 74, slot := 2, constantValue := 0 }, { name := "cache2", type := (.array (.object "java/lang/Object")), accessFlags := 74, slot := 3, constantValue := 0 }, { name := "defaultCharset", type := (.object "java/nio/charset/Charset"), accessFlags := 10, slot := 4, constantValue := 0 }, { name := "name", type := (.object "java/lang/String"), accessFlags := 18, slot := 0, constantValue := 0 }, { name := "aliases", type := (.array (.object "java/lang/String")), accessFlags := 18, slot := 1, constantValue := 0 }, { name := "aliasSet", type := (.object "java/util/Set"), accessFlags := 2, slot := 2, constantValue := 0 }]
  methods := #[]
  instanceTypes := #[(.object "java/lang/String"), (.array (.object "java/lang/String")), (.object "java/util/Set")]
  staticTypes := #[(.object "java/nio/charset/spi/CharsetProvider"), (.array (.object "java/lang/String")), (.array (.object "java/lang/Object")), (.array (.object "java/lang/Object")), (.object "java/nio/charset/Charset")]
  resolved := Array.replicate 370 none
  statics := none }

def pool12 : Array CpInfo := pool [(1, .class_ 2), (0, u "sun/nio/cs/HistoricallyNamedCharset"), (0, .class_ 4), (0, u "java/lang/Object")] 4

/-- sun/nio/cs/HistoricallyNamedCharset -/
def k12 : Class := { plain "sun/nio/cs/HistoricallyNamedCharset" (some 0) with
  accessFlags := 1537
  interfaces := #[]
  cf := some (fileOf pool12 1 #[] #[] 1537 3 #[] #[])
  fields := #[]
  methods := #[]
  instanceTypes := #[]
  staticTypes := #[]
  resolved := Array.replicate 9 none
  statics := none }

def pool13 : Array CpInfo := pool [(2, .class_ 4), (1, u "java/nio/charset/Charset"), (130, .class_ 136), (0, u "sun/nio/cs/Unicode"), (0, .class_ 138), (0, u "sun/nio/cs/HistoricallyNamedCharset")] 15

/-- sun/nio/cs/Unicode -/
def k13 : Class := { plain "sun/nio/cs/Unicode" (some 11) with
  accessFlags := 1056
  interfaces := #[12]
  cf := some (fileOf pool13 135 #[] #[] 1056 2 #[137] #[])
  fields := #[]
  methods := #[]
  instanceTypes := #[(.object "java/lang/String"), (.array (.object "java/lang/String")), (.object "java/util/Set")]
  staticTypes := #[]
  resolved := Array.replicate 154 none
  statics := none }

def pool14 : Array CpInfo := pool [(10, .class_ 12), (1, u "sun/nio/cs/Unicode"), (0, u "<init>"), (3, .class_ 18), (0, u "sun/nio/cs/UTF_8$Decoder"), (3, .class_ 23), (0, u "sun/nio/cs/UTF_8$Encoder"), (15, .class_ 40), (0, u "sun/nio/cs/UTF_8"), (2, u "()V"), (2, u "INSTANCE"), (0, u "Lsun/nio/cs/UTF_8;"), (8, u "JLA"), (0, u "Ljdk/internal/access/JavaLangAccess;")] 26

def k14m0 : Method := { name := "<init>", desc := "()V", sig := { parameters := [], returnType := none }, accessFlags := 1, code := none }
/-- sun/nio/cs/UTF_8 -/
def k14 : Class := { plain "sun/nio/cs/UTF_8" (some 13) with
  accessFlags := 49
  interfaces := #[]
  cf := some (fileOf pool14 39 #[.nestMembers #[22, 17]] #[{ accessFlags := 1, nameIndex := 13, descriptorIndex := 43, attributes := #[] }] 49 10 #[] #[{ accessFlags := 25, nameIndex := 46, descriptorIndex := 47, attributes := #[] }, { accessFlags := 26, nameIndex := 56, descriptorIndex := 57, attributes := #[] }])
  fields := #[{ name := "INSTANCE", type := (.object "sun/nio/cs/UTF_8"), accessFlags := 25, slot := 0, constantValue := 0 }, { name := "JLA", type := (.object "jdk/internal/access/JavaLangAccess"), accessFlags := 26, slot := 1, constantValue := 0 }]
  methods := #[k14m0]
  instanceTypes := #[(.object "java/lang/String"), (.array (.object "java/lang/String")), (.object "java/util/Set")]
  staticTypes := #[(.object "sun/nio/cs/UTF_8"), (.object "jdk/internal/access/JavaLangAccess")]
  resolved := Array.replicate 84 none
  statics := some 2 }

def pool15 : Array CpInfo := pool [(2, .class_ 4), (1, u "java/lang/Object"), (0, u "<init>"), (0, u "()V"), (0, .methodref 8 9), (0, .class_ 10), (0, .nameAndType 11 12), (0, u "java/lang/StringCoding"), (0, u "countPositives"), (0, u "([BII)I"), (11, u "hasNegatives"), (0, u "([BII)Z")] 23

def k15m0 : Method := { name := "<init>", desc := "()V", sig := { parameters := [], returnType := none }, accessFlags := 2, code := none }
def k15c1 : Code := { maxStack := 3, maxLocals := 3, code := jdk_123_method_2_code, exceptionTable := #[], attributes := #[] }
def k15m1 : Method := { name := "hasNegatives", desc := "([BII)Z", sig := { parameters := [(.array .byte), .int, .int], returnType := some .boolean }, accessFlags := 9, code := some k15c1 }
def k15c2 : Code := { maxStack := 2, maxLocals := 5, code := jdk_123_method_3_code, exceptionTable := #[], attributes := #[] }
def k15m2 : Method := { name := "countPositives", desc := "([BII)I", sig := { parameters := [(.array .byte), .int, .int], returnType := some .int }, accessFlags := 9, code := some k15c2 }
/-- java/lang/StringCoding -/
def k15 : Class := { plain "java/lang/StringCoding" (some 0) with
  accessFlags := 32
  interfaces := #[]
  cf := some (fileOf pool15 8 #[] #[{ accessFlags := 2, nameIndex := 5, descriptorIndex := 6, attributes := #[] }, { accessFlags := 9, nameIndex := 24, descriptorIndex := 25, attributes := #[] }, { accessFlags := 9, nameIndex := 11, descriptorIndex := 12, attributes := #[] }] 32 2 #[] #[])
  fields := #[]
  methods := #[k15m0, k15m1, k15m2]
  instanceTypes := #[]
  staticTypes := #[]
  resolved := Array.replicate 49 none
  statics := none }

def pool16 : Array CpInfo := pool [(1, .class_ 2), (0, u "java/lang/Cloneable"), (0, .class_ 4), (0, u "java/lang/Object")] 2

/-- java/lang/Cloneable -/
def k16 : Class := { plain "java/lang/Cloneable" (some 0) with
  accessFlags := 1537
  interfaces := #[]
  cf := some (fileOf pool16 1 #[] #[] 1537 3 #[] #[])
  fields := #[]
  methods := #[]
  instanceTypes := #[]
  staticTypes := #[]
  resolved := Array.replicate 7 none
  statics := none }

def pool17 : Array CpInfo := pool [(6, .class_ 8), (1, u "java/lang/Object"), (0, u "<init>"), (0, u "()V"), (0, .methodref 12 13), (0, .class_ 14), (0, .nameAndType 15 16), (0, u "java/lang/StringUTF16"), (0, u "newBytesLength"), (0, u "(I)I"), (3, .integer 1073741823), (25, u "$assertionsDisabled"), (0, u "Z"), (13, u "HI_BYTE_SHIFT"), (0, u "I"), (2, u "LO_BYTE_SHIFT"), (43, u "newBytesFor"), (0, u "(I)[B"), (4, .methodref 12 116), (0, .nameAndType 117 118), (0, u "compress"), (0, u "([CI[BII)I"), (3, u "([CII)[B"), (138, u "coderFromArrayLen"), (0, u "([BI)B"), (106, .class_ 371), (1, u "java/lang/StringUTF16$LinesSpliterator"), (58, u "MAX_LENGTH"), (196, .class_ 628), (0, u "java/lang/StringUTF16$CodePointsSpliterator"), (0, .class_ 630), (0, u "java/lang/StringUTF16$CharsSpliterator")] 4

def k17m0 : Method := { name := "<init>", desc := "()V", sig := { parameters := [], returnType := none }, accessFlags := 0, code := none }
def k17c1 : Code := { maxStack := 1, maxLocals := 1, code := jdk_52_method_2_code, exceptionTable := #[], attributes := #[] }
def k17m1 : Method := { name := "newBytesFor", desc := "(I)[B", sig := { parameters := [.int], returnType := some (.array .byte) }, accessFlags := 9, code := some k17c1 }
def k17c2 : Code := { maxStack := 4, maxLocals := 1, code := jdk_52_method_3_code, exceptionTable := #[], attributes := #[] }
def k17m2 : Method := { name := "newBytesLength", desc := "(I)I", sig := { parameters := [.int], returnType := some .int }, accessFlags := 9, code := some k17c2 }
def k17c3 : Code := { maxStack := 2, maxLocals := 2, code := jdk_52_method_15_code, exceptionTable := #[], attributes := #[] }
def k17m3 : Method := { name := "coderFromArrayLen", desc := "([BI)B", sig := { parameters := [(.array .byte), .int], returnType := some .byte }, accessFlags := 8, code := some k17c3 }
def k17c4 : Code := { maxStack := 5, maxLocals := 6, code := jdk_52_method_16_code, exceptionTable := #[], attributes := #[] }
def k17m4 : Method := { name := "compress", desc := "([CII)[B", sig := { parameters := [(.array .char), .int, .int], returnType := some (.array .byte) }, accessFlags := 9, code := some k17c4 }
def k17c5 : Code := { maxStack := 3, maxLocals := 7, code := jdk_52_method_21_code, exceptionTable := #[], attributes := #[] }
def k17m5 : Method := { name := "compress", desc := "([CI[BII)I", sig := { parameters := [(.array .char), .int, (.array .byte), .int, .int], returnType := some .int }, accessFlags := 9, code := some k17c5 }
/-- java/lang/StringUTF16 -/
def k17 : Class := { plain "java/lang/StringUTF16" (some 0) with
  accessFlags := 48
  interfaces := #[]
  cf := some (fileOf pool17 12 #[.nestMembers #[627, 629, 369]] #[{ accessFlags := 0, nameIndex := 9, descriptorIndex := 10, attributes := #[] }, { accessFlags := 9, nameIndex := 109, descriptorIndex := 110, attributes := #[] }, { accessFlags := 9, nameIndex := 15, descriptorIndex := 16, attributes := #[] }, { accessFlags := 8, nameIndex := 261, descriptorIndex := 262, attributes := #[] }, { accessFlags := 9, nameIndex := 117, descriptorIndex := 122, attributes := #[] }, { accessFlags := 9, nameIndex := 117, descriptorIndex := 118, attributes := #[] }] 48 6 #[] #[{ accessFlags := 26, nameIndex := 61, descriptorIndex := 62, attributes := #[] }, { accessFlags := 26, nameIndex := 65, descriptorIndex := 62, attributes := #[] }, { accessFlags := 24, nameIndex := 430, descriptorIndex := 62, attributes := #[] }, { accessFlags := 4120, nameIndex := 46, descriptorIndex := 47, attributes := #[] }])
  fields := #[{ name := "HI_BYTE_SHIFT", type := .int, accessFlags := 26, slot := 0, constantValue := 0 }, { name := "LO_BYTE_SHIFT", type := .int, accessFlags := 26, slot := 1, constantValue := 0 }, { name := "MAX_LENGTH", type := .int, accessFlags := 24, slot := 2, constantValue := 0 }, { name := "$assertionsDisabled", type := .boolean, accessFlags := 4120, slot := 3, constantValue := 0 }]
  methods := #[k17m0, k17m1, k17m2, k17m3, k17m4, k17m5]
  instanceTypes := #[]
  staticTypes := #[.int, .int, .int, .boolean]
  resolved := Array.replicate 635 none
  statics := none }

def pool18 : Array CpInfo := pool [(2, .class_ 4), (1, u "java/lang/Object"), (0, u "<init>"), (0, u "()V"), (7, .class_ 16), (1, u "java/util/Arrays"), (57, .class_ 76), (1, u "java/util/Arrays$NaturalOrder"), (36, .class_ 115), (1, u "java/util/Arrays$LegacyMergeSort"), (1, u "Z"), (32, .methodref 151 152), (0, .class_ 153), (0, .nameAndType 154 155), (0, u "java/lang/System"), (0, u "arraycopy"), (0, u "(Ljava/lang/Object;ILjava/lang/Object;II)V"), (146, u "copyOf"), (1, .methodref 305 306), (0, .class_ 307), (0, .nameAndType 308 309), (0, u "java/lang/Math"), (0, u "min"), (0, u "(II)I"), (65, .class_ 376), (0, u "java/util/Arrays$ArrayList"), (68, u "$assertionsDisabled"), (269, u "MIN_ARRAY_SORT_GRAN"), (0, u "I"), (2, u "INSERTIONSORT_THRESHOLD"), (149, u "([BI)[B"), (105, .class_ 976), (0, u "java/util/Arrays$ArrayItr")] 52

def k18m0 : Method := { name := "<init>", desc := "()V", sig := { parameters := [], returnType := none }, accessFlags := 2, code := none }
def k18c1 : Code := { maxStack := 6, maxLocals := 3, code := jdk_65_method_121_code, exceptionTable := #[], attributes := #[] }
def k18m1 : Method := { name := "copyOf", desc := "([BI)[B", sig := { parameters := [(.array .byte), .int], returnType := some (.array .byte) }, accessFlags := 9, code := some k18c1 }
/-- java/util/Arrays -/
def k18 : Class := { plain "java/util/Arrays" (some 0) with
  accessFlags := 49
  interfaces := #[]
  cf := some (fileOf pool18 14 #[.nestMembers #[975, 375, 113, 74]] #[{ accessFlags := 2, nameIndex := 5, descriptorIndex := 6, attributes := #[] }, { accessFlags := 9, nameIndex := 302, descriptorIndex := 869, attributes := #[] }] 49 2 #[] #[{ accessFlags := 26, nameIndex := 715, descriptorIndex := 716, attributes := #[] }, { accessFlags := 26, nameIndex := 719, descriptorIndex := 716, attributes := #[] }, { accessFlags := 4120, nameIndex := 445, descriptorIndex := 117, attributes := #[] }])
  fields := #[{ name := "MIN_ARRAY_SORT_GRAN", type := .int, accessFlags := 26, slot := 0, constantValue := 0 }, { name := "INSERTIONSORT_THRESHOLD", type := .int, accessFlags := 26, slot := 1, constantValue := 0 }, { name := "$assertionsDisabled", type := .boolean, accessFlags := 4120, slot := 2, constantValue := 0 }]
  methods := #[k18m0, k18m1]
  instanceTypes := #[]
  staticTypes := #[.int, .int, .boolean]
  resolved := Array.replicate 1029 none
  statics := none }

def pool19 : Array CpInfo := pool [(1, .class_ 2), (0, u "java/lang/Math"), (1, .class_ 6), (1, u "java/lang/Object"), (0, u "<init>"), (0, u "()V"), (89, .class_ 100), (1, u "java/lang/Math$RandomNumberGeneratorHolder"), (71, u "negativeZeroFloatBits"), (0, u "J"), (2, u "negativeZeroDoubleBits"), (24, u "min"), (43, u "$assertionsDisabled"), (0, u "Z"), (88, u "(II)I"), (2, u "twoToTheDoubleScaleDown"), (0, u "D"), (4, u "twoToTheDoubleScaleUp"), (9, u "E"), (3, u "PI"), (2, u "TAU"), (2, u "DEGREES_TO_RADIANS"), (0, u "RADIANS_TO_DEGREES")] 94

def k19m0 : Method := { name := "<init>", desc := "()V", sig := { parameters := [], returnType := none }, accessFlags := 2, code := none }
def k19c1 : Code := { maxStack := 2, maxLocals := 2, code := jdk_29_method_69_code, exceptionTable := #[], attributes := #[] }
def k19m1 : Method := { name := "min", desc := "(II)I", sig := { parameters := [.int, .int], returnType := some .int }, accessFlags := 9, code := some k19c1 }
/-- java/lang/Math -/
def k19 : Class := { plain "java/lang/Math" (some 0) with
  accessFlags := 49
  interfaces := #[]
  cf := some (fileOf pool19 1 #[.nestMembers #[98]] #[{ accessFlags := 2, nameIndex := 7, descriptorIndex := 8, attributes := #[] }, { accessFlags := 9, nameIndex := 201, descriptorIndex := 335, attributes := #[] }] 49 4 #[] #[{ accessFlags := 25, nameIndex := 354, descriptorIndex := 339, attributes := #[] }, { accessFlags := 25, nameIndex := 358, descriptorIndex := 339, attributes := #[] }, { accessFlags := 25, nameIndex := 361, descriptorIndex := 339, attributes := #[] }, { accessFlags := 26, nameIndex := 364, descriptorIndex := 339, attributes := #[] }, { accessFlags := 26, nameIndex := 365, descriptorIndex := 339, attributes := #[] }, { accessFlags := 26, nameIndex := 172, descriptorIndex := 173, attributes := #[] }, { accessFlags := 26, nameIndex := 176, descriptorIndex := 173, attributes := #[] }, { accessFlags := 8, nameIndex := 344, descriptorIndex := 339, attributes := #[] }, { accessFlags := 8, nameIndex := 338, descriptorIndex := 339, attributes := #[] }, { accessFlags := 4120, nameIndex := 245, descriptorIndex := 246, attributes := #[] }])
  fields := #[{ name := "E", type := .double, accessFlags := 25, slot := 0, constantValue := 0 }, { name := "PI", type := .double, accessFlags := 25, slot := 1, constantValue := 0 }, { name := "TAU", type := .double, accessFlags := 25, slot := 2, constantValue := 0 }, { name := "DEGREES_TO_RADIANS", type := .double, accessFlags := 26, slot := 3, constantValue := 0 }, { name := "RADIANS_TO_DEGREES", type := .double, accessFlags := 26, slot := 4, constantValue := 0 }, { name := "negativeZeroFloatBits", type := .long, accessFlags := 26, slot := 5, constantValue := 0 }, { name := "negativeZeroDoubleBits", type := .long, accessFlags := 26, slot := 6, constantValue := 0 }, { name := "twoToTheDoubleScaleUp", type := .double, accessFlags := 8, slot := 7, constantValue := 0 }, { name := "twoToTheDoubleScaleDown", type := .double, accessFlags := 8, slot := 8, constantValue := 0 }, { name := "$assertionsDisabled", type := .boolean, accessFlags := 4120, slot := 9, constantValue := 0 }]
  methods := #[k19m0, k19m1]
  instanceTypes := #[]
  staticTypes := #[.double, .double, .double, .double, .double, .long, .long, .double, .double, .boolean]
  resolved := Array.replicate 460 none
  statics := none }

def pool20 : Array CpInfo := pool [(2, .class_ 4), (1, u "java/lang/Object"), (0, u "<init>"), (0, u "()V"), (1, .class_ 10), (1, u "java/lang/System"), (0, u "allowSecurityManager"), (0, u "I"), (16, u "cons"), (0, u "Ljava/io/Console;"), (77, .class_ 110), (1, u "java/lang/System$CallersHolder"), (43, u "initialErrStream"), (0, u "Ljava/io/PrintStream;"), (19, u "security"), (0, u "Ljava/lang/SecurityManager;"), (31, .class_ 209), (0, u "java/lang/System$1"), (7, u "props"), (0, u "Ljava/util/Properties;"), (2, u "lineSeparator"), (0, u "Ljava/lang/String;"), (96, .class_ 321), (1, u "java/lang/System$LoggerFinder"), (5, .class_ 328), (0, u "java/lang/System$Logger"), (67, u "err"), (2, u "out"), (91, u "notSupportedJnuEncoding"), (15, u "in"), (17, u "initialIn"), (0, u "Ljava/io/InputStream;"), (35, u "bootLayer"), (0, u "Ljava/lang/ModuleLayer;"), (99, .class_ 664), (0, u "java/lang/System$2"), (9, u "NEVER"), (2, u "MAYBE"), (49, u "arraycopy"), (0, u "(Ljava/lang/Object;ILjava/lang/Object;II)V"), (72, .class_ 802), (0, u "java/lang/System$Logger$Level")] 31

def k20m0 : Method := { name := "<init>", desc := "()V", sig := { parameters := [], returnType := none }, accessFlags := 2, code := none }
def k20m1 : Method := { name := "arraycopy", desc := "(Ljava/lang/Object;ILjava/lang/Object;II)V", sig := { parameters := [(.object "java/lang/Object"), .int, (.object "java/lang/Object"), .int, .int], returnType := none }, accessFlags := 265, code := none }
/-- java/lang/System -/
def k20 : Class := { plain "java/lang/System" (some 0) with
  accessFlags := 49
  interfaces := #[]
  cf := some (fileOf pool20 8 #[.nestMembers #[319, 327, 801, 108, 663, 208]] #[{ accessFlags := 2, nameIndex := 5, descriptorIndex := 6, attributes := #[] }, { accessFlags := 265, nameIndex := 727, descriptorIndex := 728, attributes := #[] }] 49 2 #[] #[{ accessFlags := 25, nameIndex := 507, descriptorIndex := 526, attributes := #[] }, { accessFlags := 25, nameIndex := 399, descriptorIndex := 155, attributes := #[] }, { accessFlags := 25, nameIndex := 396, descriptorIndex := 155, attributes := #[] }, { accessFlags := 10, nameIndex := 525, descriptorIndex := 526, attributes := #[] }, { accessFlags := 26, nameIndex := 674, descriptorIndex := 12, attributes := #[] }, { accessFlags := 26, nameIndex := 677, descriptorIndex := 12, attributes := #[] }, { accessFlags := 10, nameIndex := 11, descriptorIndex := 12, attributes := #[] }, { accessFlags := 74, nameIndex := 175, descriptorIndex := 176, attributes := #[] }, { accessFlags := 10, nameIndex := 491, descriptorIndex := 222, attributes := #[] }, { accessFlags := 74, nameIndex := 29, descriptorIndex := 30, attributes := #[] }, { accessFlags := 74, nameIndex := 154, descriptorIndex := 155, attributes := #[] }, { accessFlags := 10, nameIndex := 217, descriptorIndex := 218, attributes := #[] }, { accessFlags := 10, nameIndex := 221, descriptorIndex := 222, attributes := #[] }, { accessFlags := 8, nameIndex := 562, descriptorIndex := 563, attributes := #[] }])
  fields := #[{ name := "in", type := (.object "java/io/InputStream"), accessFlags := 25, slot := 0, constantValue := 0 }, { name := "out", type := (.object "java/io/PrintStream"), accessFlags := 25, slot := 1, constantValue := 0 }, { name := "err", type := (.object "java/io/PrintStream"), accessFlags := 25, slot := 2, constantValue := 0 }, { name := "initialIn", type := (.object "java/io/InputStream"), accessFlags := 10, slot := 3, constantValue := 0 }, { name := "NEVER", type := .int, accessFlags := 26, slot := 4, constantValue := 0 }, { name := "MAYBE", type := .int, accessFlags := 26, slot := 5, constantValue := 0 }, { name := "allowSecurityManager", type := .int, accessFlags := 10, slot := 6, constantValue := 0 }, { name := "security", type := (.object "java/lang/SecurityManager"), accessFlags := 74, slot := 7, constantValue := 0 }, { name := "notSupportedJnuEncoding", type := (.object "java/lang/String"), accessFlags := 10, slot := 8, constantValue := 0 }, { name := "cons", type := (.object "java/io/Console"), accessFlags := 74, slot := 9, constantValue := 0 }, { name := "initialErrStream", type := (.object "java/io/PrintStream"), accessFlags := 74, slot := 10, constantValue := 0 }, { name := "props", type := (.object "java/util/Properties"), accessFlags := 10, slot := 11, constantValue := 0 }, { name := "lineSeparator", type := (.object "java/lang/String"), accessFlags := 10, slot := 12, constantValue := 0 }, { name := "bootLayer", type := (.object "java/lang/ModuleLayer"), accessFlags := 8, slot := 13, constantValue := 0 }]
  methods := #[k20m0, k20m1]
  instanceTypes := #[]
  staticTypes := #[(.object "java/io/InputStream"), (.object "java/io/PrintStream"), (.object "java/io/PrintStream"), (.object "java/io/InputStream"), .int, .int, .int, (.object "java/lang/SecurityManager"), (.object "java/lang/String"), (.object "java/io/Console"), (.object "java/io/PrintStream"), (.object "java/util/Properties"), (.object "java/lang/String"), (.object "java/lang/ModuleLayer")]
  resolved := Array.replicate 834 none
  statics := none }

def pool21 : Array CpInfo := pool [(2, .class_ 4), (1, u "java/lang/Object"), (0, u "<init>"), (0, u "()V"), (17, .class_ 26), (1, u "jdk/internal/util/Preconditions"), (28, .class_ 56), (0, u "jdk/internal/util/Preconditions$4"), (57, .class_ 115), (0, u "jdk/internal/util/Preconditions$1"), (7, u "SIOOBE_FORMATTER"), (0, u "Ljava/util/function/BiFunction;"), (0, .class_ 126), (0, u "jdk/internal/util/Preconditions$2"), (3, u "AIOOBE_FORMATTER"), (0, .class_ 132), (0, u "jdk/internal/util/Preconditions$3"), (3, u "IOOBE_FORMATTER")] 57

def k21m0 : Method := { name := "<init>", desc := "()V", sig := { parameters := [], returnType := none }, accessFlags := 1, code := none }
/-- jdk/internal/util/Preconditions -/
def k21 : Class := { plain "jdk/internal/util/Preconditions" (some 0) with
  accessFlags := 33
  interfaces := #[]
  cf := some (fileOf pool21 24 #[.nestMembers #[55, 131, 125, 114]] #[{ accessFlags := 1, nameIndex := 5, descriptorIndex := 6, attributes := #[] }] 33 2 #[] #[{ accessFlags := 25, nameIndex := 123, descriptorIndex := 124, attributes := #[] }, { accessFlags := 25, nameIndex := 130, descriptorIndex := 124, attributes := #[] }, { accessFlags := 25, nameIndex := 136, descriptorIndex := 124, attributes := #[] }])
  fields := #[{ name := "SIOOBE_FORMATTER", type := (.object "java/util/function/BiFunction"), accessFlags := 25, slot := 0, constantValue := 0 }, { name := "AIOOBE_FORMATTER", type := (.object "java/util/function/BiFunction"), accessFlags := 25, slot := 1, constantValue := 0 }, { name := "IOOBE_FORMATTER", type := (.object "java/util/function/BiFunction"), accessFlags := 25, slot := 2, constantValue := 0 }]
  methods := #[k21m0]
  instanceTypes := #[]
  staticTypes := #[(.object "java/util/function/BiFunction"), (.object "java/util/function/BiFunction"), (.object "java/util/function/BiFunction")]
  resolved := Array.replicate 194 none
  statics := some 3 }

def pool22 : Array CpInfo := pool [(9, u "<init>"), (6, .class_ 18), (1, u "java/lang/Object"), (0, u "()V"), (1, .class_ 23), (1, u "jdk/internal/util/ArraysSupport"), (0, u "LOG2_ARRAY_LONG_INDEX_SCALE"), (0, u "I"), (2, u "U"), (0, u "Ljdk/internal/misc/Unsafe;"), (8, u "BIG_ENDIAN"), (0, u "Z"), (8, u "LOG2_BYTE_BIT_SIZE"), (4, u "LOG2_ARRAY_INT_INDEX_SCALE"), (54, u "JLA"), (0, u "Ljdk/internal/access/JavaLangAccess;"), (11, u "LOG2_ARRAY_BOOLEAN_INDEX_SCALE"), (9, u "LOG2_ARRAY_BYTE_INDEX_SCALE"), (5, u "LOG2_ARRAY_CHAR_INDEX_SCALE"), (5, u "LOG2_ARRAY_SHORT_INDEX_SCALE"), (18, u "LOG2_ARRAY_FLOAT_INDEX_SCALE"), (24, u "LOG2_ARRAY_DOUBLE_INDEX_SCALE"), (89, u "T_BOOLEAN"), (2, u "T_CHAR"), (1, u "T_FLOAT"), (1, u "T_DOUBLE"), (1, u "T_BYTE"), (1, u "T_SHORT"), (1, u "T_INT"), (1, u "T_LONG"), (1, u "SOFT_MAX_ARRAY_LENGTH")] 83

def k22m0 : Method := { name := "<init>", desc := "()V", sig := { parameters := [], returnType := none }, accessFlags := 2, code := none }
/-- jdk/internal/util/ArraysSupport -/
def k22 : Class := { plain "jdk/internal/util/ArraysSupport" (some 0) with
  accessFlags := 33
  interfaces := #[]
  cf := some (fileOf pool22 21 #[] #[{ accessFlags := 2, nameIndex := 9, descriptorIndex := 19, attributes := #[] }] 33 16 #[] #[{ accessFlags := 24, nameIndex := 28, descriptorIndex := 29, attributes := #[] }, { accessFlags := 26, nameIndex := 38, descriptorIndex := 39, attributes := #[] }, { accessFlags := 25, nameIndex := 121, descriptorIndex := 25, attributes := #[] }, { accessFlags := 25, nameIndex := 131, descriptorIndex := 25, attributes := #[] }, { accessFlags := 25, nameIndex := 137, descriptorIndex := 25, attributes := #[] }, { accessFlags := 25, nameIndex := 143, descriptorIndex := 25, attributes := #[] }, { accessFlags := 25, nameIndex := 53, descriptorIndex := 25, attributes := #[] }, { accessFlags := 25, nameIndex := 24, descriptorIndex := 25, attributes := #[] }, { accessFlags := 25, nameIndex := 162, descriptorIndex := 25, attributes := #[] }, { accessFlags := 25, nameIndex := 187, descriptorIndex := 25, attributes := #[] }, { accessFlags := 26, nameIndex := 48, descriptorIndex := 25, attributes := #[] }, { accessFlags := 25, nameIndex := 277, descriptorIndex := 25, attributes := #[] }, { accessFlags := 25, nameIndex := 280, descriptorIndex := 25, attributes := #[] }, { accessFlags := 25, nameIndex := 282, descriptorIndex := 25, attributes := #[] }, { accessFlags := 25, nameIndex := 284, descriptorIndex := 25, attributes := #[] }, { accessFlags := 25, nameIndex := 286, descriptorIndex := 25, attributes := #[] }, { accessFlags := 25, nameIndex := 288, descriptorIndex := 25, attributes := #[] }, { accessFlags := 25, nameIndex := 290, descriptorIndex := 25, attributes := #[] }, { accessFlags := 25, nameIndex := 292, descriptorIndex := 25, attributes := #[] }, { accessFlags := 26, nameIndex := 108, descriptorIndex := 109, attributes := #[] }, { accessFlags := 25, nameIndex := 294, descriptorIndex := 25, attributes := #[] }])
  fields := #[{ name := "U", type := (.object "jdk/internal/misc/Unsafe"), accessFlags := 24, slot := 0, constantValue := 0 }, { name := "BIG_ENDIAN", type := .boolean, accessFlags := 26, slot := 1, constantValue := 0 }, { name := "LOG2_ARRAY_BOOLEAN_INDEX_SCALE", type := .int, accessFlags := 25, slot := 2, constantValue := 0 }, { name := "LOG2_ARRAY_BYTE_INDEX_SCALE", type := .int, accessFlags := 25, slot := 3, constantValue := 0 }, { name := "LOG2_ARRAY_CHAR_INDEX_SCALE", type := .int, accessFlags := 25, slot := 4, constantValue := 0 }, { name := "LOG2_ARRAY_SHORT_INDEX_SCALE", type := .int, accessFlags := 25, slot := 5, constantValue := 0 }, { name := "LOG2_ARRAY_INT_INDEX_SCALE", type := .int, accessFlags := 25, slot := 6, constantValue := 0 }, { name := "LOG2_ARRAY_LONG_INDEX_SCALE", type := .int, accessFlags := 25, slot := 7, constantValue := 0 }, { name := "LOG2_ARRAY_FLOAT_INDEX_SCALE", type := .int, accessFlags := 25, slot := 8, constantValue := 0 }, { name := "LOG2_ARRAY_DOUBLE_INDEX_SCALE", type := .int, accessFlags := 25, slot := 9, constantValue := 0 }, { name := "LOG2_BYTE_BIT_SIZE", type := .int, accessFlags := 26, slot := 10, constantValue := 0 }, { name := "T_BOOLEAN", type := .int, accessFlags := 25, slot := 11, constantValue := 0 }, { name := "T_CHAR", type := .int, accessFlags := 25, slot := 12, constantValue := 0 }, { name := "T_FLOAT", type := .int, accessFlags := 25, slot := 13, constantValue := 0 }, { name := "T_DOUBLE", type := .int, accessFlags := 25, slot := 14, constantValue := 0 }, { name := "T_BYTE", type := .int, accessFlags := 25, slot := 15, constantValue := 0 }, { name := "T_SHORT", type := .int, accessFlags := 25, slot := 16, constantValue := 0 }, { name := "T_INT", type := .int, accessFlags := 25, slot := 17, constantValue := 0 }, { name := "T_LONG", type := .int, accessFlags := 25, slot := 18, constantValue := 0 }, { name := "JLA", type := (.object "jdk/internal/access/JavaLangAccess"), accessFlags := 26, slot := 19, constantValue := 0 }, { name := "SOFT_MAX_ARRAY_LENGTH", type := .int, accessFlags := 25, slot := 20, constantValue := 0 }]
  methods := #[k22m0]
  instanceTypes := #[]
  staticTypes := #[(.object "jdk/internal/misc/Unsafe"), .boolean, .int, .int, .int, .int, .int, .int, .int, .int, .int, .int, .int, .int, .int, .int, .int, .int, .int, (.object "jdk/internal/access/JavaLangAccess"), .int]
  resolved := Array.replicate 378 none
  statics := none }

/-- the primitive byte -/
def k23 : Class := { plain "byte" none with kind := .primitive 'B', accessFlags := 0x411 }
/-- [B -/
def k24 : Class := { plain "[B" (some 0) with kind := .array 23 .byte, interfaces := #[16, 2], accessFlags := 1041 }

/-- the primitive char -/
def k25 : Class := { plain "char" none with kind := .primitive 'C', accessFlags := 0x411 }
/-- [C -/
def k26 : Class := { plain "[C" (some 0) with kind := .array 25 .char, interfaces := #[16, 2], accessFlags := 1041 }

/-- the primitive int -/
def k27 : Class := { plain "int" none with kind := .primitive 'I', accessFlags := 0x411 }
/-- [I -/
def k28 : Class := { plain "[I" (some 0) with kind := .array 27 .int, interfaces := #[16, 2], accessFlags := 1041 }

/-- [Ljava/lang/String; -/
def k29 : Class := { plain "[Ljava/lang/String;" (some 0) with kind := .array 7 (.object "java/lang/String"), interfaces := #[16, 2], accessFlags := 1041 }

/-- [[B -/
def k30 : Class := { plain "[[B" (some 0) with kind := .array 24 (.array .byte), interfaces := #[16, 2], accessFlags := 1041 }

def heap : Heap := #[{ cls := 7, slots := #[.long 0, .int 1, .null, .int 0, .null, .int 0, .int 0], vm := .statics 7 },
  { cls := 10, slots := #[.null, .null, .ref 4, .null, .null, .null], vm := .statics 10 },
  { cls := 14, slots := #[.ref 4, .null], vm := .statics 14 },
  { cls := 21, slots := #[.null, .null, .null], vm := .statics 21 },
  { cls := 14, slots := #[.null, .null, .null], vm := .none }]
def classes : Array Class := #[k0, k1, k2, k3, k4, k5, k6, k7, k8, k9, k10, k11, k12, k13, k14, k15, k16, k17, k18, k19, k20, k21, k22, k23, k24, k25, k26, k27, k28, k29, k30]
def interned : List (Array UInt16 × Addr) := []
def slotsUsed : Nat := 21
def theMethod : MethodId := ⟨1, 9⟩
def args0 : Array Value := #[.long 1, .int 1, .int 1, .int 1, .int 1]
def aboutOver (below : List Frame) : State where
  vm := { classes := classes, interned := interned.toArray }
  heap := heap
  slotsUsed := slotsUsed
  threads := #[{ frames := .invoking theMethod args0 :: below }]
def below0 : List Frame := [.native { method := ⟨0, 0⟩, args := #[] }]
def about1 : State := aboutOver below0
def p0 : Program := .bare "" "" ""
def e0 : Env := launch0.env 0 0 0
theorem w_frames : about1.frames = Frame.invoking theMethod args0 :: below0 := rfl
set_option maxRecDepth 65536 in
theorem w_args : argsFit about1.vm theMethod args0 = true := by decide +kernel
set_option maxRecDepth 65536 in
theorem w_heap : heapFits about1 = true := by decide +kernel
set_option maxRecDepth 65536 in
theorem w_runnable : about1.curStatus? = some .runnable := by decide +kernel
set_option maxRecDepth 65536 in
theorem w_alone : about1.alone = true := by decide +kernel
set_option maxRecDepth 65536 in
theorem w_named : about1.methodNamed? x = some theMethod := by decide +kernel
set_option maxRecDepth 65536 in
theorem w_hears : about1.hears theMethod below0 = true := by decide +kernel
set_option maxRecDepth 65536 in
theorem w_ripe : about1.ripe theMethod args0 below0 = true := by decide +kernel
theorem w_running : about1.status = .running := rfl
set_option maxRecDepth 65536 in
theorem w_room : about1.hasRoom e0.platform room_1 = true :=
  launch0.hasRoom_least _ room_1 (by decide +kernel) (by decide +kernel) (by decide +kernel) (by decide +kernel) (by decide +kernel) (by decide +kernel)
theorem allAtoms_all (ts : List Jvm.Cond) (a : Array Jvm.Value) (st : Jvm.State) : (allAtoms ts).before a st = ts.all (fun c => c.before a st) := by
  induction ts with
  | nil => rfl
  | cons c t ih =>
    show (Jvm.Cond.and c (allAtoms t)).before a st = _
    rw [Jvm.Cond.before_and, ih, List.all_cons]
def words1 : List Jvm.Cond := Jvm.Cond.code x code maxLocals ret :: tables_1
/-- a 'code' word, met by the world's own term for the bytes: nothing is compared byte by byte -/
theorem code_word {y : MethodName} {bytes : ByteArray} {mx : Nat} {rt : Option FieldType} {a : Array Value} {s : State} {m : MethodId} {meth : Method} {c : Code} (h1 : s.methodNamed? y = some m) (h2 : s.vm.method? m = some meth) (h3 : meth.code = some c) (h4 : c.code = bytes)
    (h5 : (c.maxLocals == mx && c.exceptionTable.isEmpty && decide (c.maxStack ≤ mostOperands) && decide (meth.sig.returnType = rt) && !meth.locks && decide (parseMethodDescriptor y.desc = some meth.sig)) = true) : (Jvm.Cond.code y bytes mx rt).before a s = true := by
  simp only [Bool.and_eq_true, beq_iff_eq, Bool.not_eq_true', decide_eq_true_eq] at h5
  obtain ⟨⟨⟨⟨⟨g1, g2⟩, g3⟩, g4⟩, g5⟩, g6⟩ := h5
  simp [Cond.before, Cond.holds, Cond.value, h1, h2, h3, h4, g1, g2, g3, g4, g5, g6]
def isCode : Jvm.Cond → Bool
  | .code _ _ _ _ => true
  | _ => false
theorem all_split {L : List Jvm.Cond} {P : Jvm.Cond → Bool} (h1 : L.all (fun c => isCode c || P c) = true) (h2 : ∀ c ∈ L.filter isCode, P c = true) : L.all P = true := by
  refine List.all_eq_true.mpr fun c hc => ?_
  have h := List.all_eq_true.mp h1 c hc
  rcases Bool.eq_false_or_eq_true (isCode c) with hi | hi
  · exact h2 c (List.mem_filter.mpr ⟨hc, hi⟩)
  · simpa [hi] using h
set_option maxRecDepth 65536 in
theorem w_c0 : (Jvm.Cond.code x code maxLocals ret).before args0 about1 = true := code_word (m := ⟨1, 9⟩) (meth := k1m9) (c := k1c9) (by decide +kernel) rfl rfl rfl (by decide +kernel)
set_option maxRecDepth 65536 in
theorem w_c1 : (Jvm.Cond.code ({ cls := "com/example/indexloom/indexloom/TextsFindPinLaw", name := "field", desc := "(JI)I" } : Jvm.MethodName) method_2_code (3 : Nat) (Option.some Jvm.ClassFile.FieldType.int)).before args0 about1 = true := code_word (m := ⟨1, 1⟩) (meth := k1m1) (c := k1c1) (by decide +kernel) rfl rfl rfl (by decide +kernel)
set_option maxRecDepth 65536 in
theorem w_c2 : (Jvm.Cond.code ({ cls := "com/example/indexloom/indexloom/TextsFindPinLaw", name := "str", desc := "(I)Ljava/lang/String;" } : Jvm.MethodName) method_3_code (4 : Nat) (Option.some (Jvm.ClassFile.FieldType.object "java/lang/String"))).before args0 about1 = true := code_word (m := ⟨1, 2⟩) (meth := k1m2) (c := k1c2) (by decide +kernel) rfl rfl rfl (by decide +kernel)
set_option maxRecDepth 65536 in
theorem w_c3 : (Jvm.Cond.code ({ cls := "java/lang/String", name := "<init>", desc := "([C)V" } : Jvm.MethodName) jdk_42_method_3_code (2 : Nat) (Option.none : Option Jvm.ClassFile.FieldType)).before args0 about1 = true := code_word (m := ⟨7, 1⟩) (meth := k7m1) (c := k7c1) (by decide +kernel) rfl rfl rfl (by decide +kernel)
set_option maxRecDepth 65536 in
theorem w_c4 : (Jvm.Cond.code ({ cls := "java/lang/String", name := "<init>", desc := "([CIILjava/lang/Void;)V" } : Jvm.MethodName) jdk_42_method_149_code (6 : Nat) (Option.none : Option Jvm.ClassFile.FieldType)).before args0 about1 = true := code_word (m := ⟨7, 7⟩) (meth := k7m7) (c := k7c7) (by decide +kernel) rfl rfl rfl (by decide +kernel)
set_option maxRecDepth 65536 in
theorem w_c5 : (Jvm.Cond.code ({ cls := "java/lang/Object", name := "<init>", desc := "()V" } : Jvm.MethodName) object_method_1_code (1 : Nat) (Option.none : Option Jvm.ClassFile.FieldType)).before args0 about1 = true := code_word (m := ⟨0, 0⟩) (meth := k0m0) (c := k0c0) (by decide +kernel) rfl rfl rfl (by decide +kernel)
set_option maxRecDepth 65536 in
theorem w_c6 : (Jvm.Cond.code ({ cls := "com/example/indexloom/indexloom/TextsFindPinLaw", name := "enc", desc := "(I[B)I" } : Jvm.MethodName) method_5_code (4 : Nat) (Option.some Jvm.ClassFile.FieldType.int)).before args0 about1 = true := code_word (m := ⟨1, 4⟩) (meth := k1m4) (c := k1c4) (by decide +kernel) rfl rfl rfl (by decide +kernel)
set_option maxRecDepth 65536 in
theorem w_c7 : (Jvm.Cond.code ({ cls := "java/lang/String", name := "equals", desc := "(Ljava/lang/Object;)Z" } : Jvm.MethodName) jdk_42_method_66_code (3 : Nat) (Option.some Jvm.ClassFile.FieldType.boolean)).before args0 about1 = true := code_word (m := ⟨7, 5⟩) (meth := k7m5) (c := k7c5) (by decide +kernel) rfl rfl rfl (by decide +kernel)
set_option maxRecDepth 65536 in
theorem w_c8 : (Jvm.Cond.code ({ cls := "java/lang/StringLatin1", name := "equals", desc := "([B[B)Z" } : Jvm.MethodName) jdk_43_method_13_code (3 : Nat) (Option.some Jvm.ClassFile.FieldType.boolean)).before args0 about1 = true := code_word (m := ⟨8, 2⟩) (meth := k8m2) (c := k8c2) (by decide +kernel) rfl rfl rfl (by decide +kernel)
set_option maxRecDepth 65536 in
theorem w_c9 : (Jvm.Cond.code ({ cls := "com/example/indexloom/indexloom/TextsFindPinLaw", name := "start", desc := "(I)I" } : Jvm.MethodName) method_8_code (1 : Nat) (Option.some Jvm.ClassFile.FieldType.int)).before args0 about1 = true := code_word (m := ⟨1, 7⟩) (meth := k1m7) (c := k1c7) (by decide +kernel) rfl rfl rfl (by decide +kernel)
set_option maxRecDepth 65536 in
theorem w_c10 : (Jvm.Cond.code ({ cls := "com/example/indexloom/indexloom/TextsFindPinLaw", name := "end", desc := "(II)I" } : Jvm.MethodName) method_9_code (2 : Nat) (Option.some Jvm.ClassFile.FieldType.int)).before args0 about1 = true := code_word (m := ⟨1, 8⟩) (meth := k1m8) (c := k1c8) (by decide +kernel) rfl rfl rfl (by decide +kernel)
set_option maxRecDepth 65536 in
theorem w_c11 : (Jvm.Cond.code ({ cls := "com/example/indexloom/indexloom/TextsFindPinLaw", name := "expected", desc := "([BII[BII[BII[BII)I" } : Jvm.MethodName) method_7_code (12 : Nat) (Option.some Jvm.ClassFile.FieldType.int)).before args0 about1 = true := code_word (m := ⟨1, 6⟩) (meth := k1m6) (c := k1c6) (by decide +kernel) rfl rfl rfl (by decide +kernel)
set_option maxRecDepth 65536 in
theorem w_c12 : (Jvm.Cond.code ({ cls := "com/example/indexloom/indexloom/TextsFindPinLaw", name := "match", desc := "([BII[BI)Z" } : Jvm.MethodName) method_6_code (5 : Nat) (Option.some Jvm.ClassFile.FieldType.boolean)).before args0 about1 = true := code_word (m := ⟨1, 5⟩) (meth := k1m5) (c := k1c5) (by decide +kernel) rfl rfl rfl (by decide +kernel)
set_option maxRecDepth 65536 in
theorem w_c13 : (Jvm.Cond.code ({ cls := "com/example/indexloom/indexloom/Texts", name := "<init>", desc := "()V" } : Jvm.MethodName) prog_100_method_1_code (1 : Nat) (Option.none : Option Jvm.ClassFile.FieldType)).before args0 about1 = true := code_word (m := ⟨9, 0⟩) (meth := k9m0) (c := k9c0) (by decide +kernel) rfl rfl rfl (by decide +kernel)
set_option maxRecDepth 65536 in
theorem w_c14 : (Jvm.Cond.code ({ cls := "com/example/indexloom/indexloom/Texts", name := "number", desc := "(Ljava/lang/String;)I" } : Jvm.MethodName) prog_100_method_7_code (5 : Nat) (Option.some Jvm.ClassFile.FieldType.int)).before args0 about1 = true := code_word (m := ⟨9, 4⟩) (meth := k9m4) (c := k9c4) (by decide +kernel) rfl rfl rfl (by decide +kernel)
set_option maxRecDepth 65536 in
theorem w_c15 : (Jvm.Cond.code ({ cls := "java/lang/String", name := "getBytes", desc := "(Ljava/nio/charset/Charset;)[B" } : Jvm.MethodName) jdk_42_method_64_code (2 : Nat) (Option.some (Jvm.ClassFile.FieldType.array Jvm.ClassFile.FieldType.byte))).before args0 about1 = true := code_word (m := ⟨7, 4⟩) (meth := k7m4) (c := k7c4) (by decide +kernel) rfl rfl rfl (by decide +kernel)
set_option maxRecDepth 65536 in
theorem w_c16 : (Jvm.Cond.code ({ cls := "java/lang/String", name := "coder", desc := "()B" } : Jvm.MethodName) jdk_42_method_152_code (1 : Nat) (Option.some Jvm.ClassFile.FieldType.byte)).before args0 about1 = true := code_word (m := ⟨7, 9⟩) (meth := k7m9) (c := k7c9) (by decide +kernel) rfl rfl rfl (by decide +kernel)
set_option maxRecDepth 65536 in
theorem w_c17 : (Jvm.Cond.code ({ cls := "java/lang/String", name := "encode", desc := "(Ljava/nio/charset/Charset;B[B)[B" } : Jvm.MethodName) jdk_42_method_18_code (3 : Nat) (Option.some (Jvm.ClassFile.FieldType.array Jvm.ClassFile.FieldType.byte))).before args0 about1 = true := code_word (m := ⟨7, 2⟩) (meth := k7m2) (c := k7c2) (by decide +kernel) rfl rfl rfl (by decide +kernel)
set_option maxRecDepth 65536 in
theorem w_c18 : (Jvm.Cond.code ({ cls := "java/lang/String", name := "encodeUTF8", desc := "(B[BZ)[B" } : Jvm.MethodName) jdk_42_method_46_code (9 : Nat) (Option.some (Jvm.ClassFile.FieldType.array Jvm.ClassFile.FieldType.byte))).before args0 about1 = true := code_word (m := ⟨7, 3⟩) (meth := k7m3) (c := k7c3) (by decide +kernel) rfl rfl rfl (by decide +kernel)
set_option maxRecDepth 65536 in
theorem w_c19 : (Jvm.Cond.code ({ cls := "java/lang/StringCoding", name := "hasNegatives", desc := "([BII)Z" } : Jvm.MethodName) jdk_123_method_2_code (3 : Nat) (Option.some Jvm.ClassFile.FieldType.boolean)).before args0 about1 = true := code_word (m := ⟨15, 1⟩) (meth := k15m1) (c := k15c1) (by decide +kernel) rfl rfl rfl (by decide +kernel)
set_option maxRecDepth 65536 in
theorem w_c20 : (Jvm.Cond.code ({ cls := "java/lang/StringCoding", name := "countPositives", desc := "([BII)I" } : Jvm.MethodName) jdk_123_method_3_code (5 : Nat) (Option.some Jvm.ClassFile.FieldType.int)).before args0 about1 = true := code_word (m := ⟨15, 2⟩) (meth := k15m2) (c := k15c2) (by decide +kernel) rfl rfl rfl (by decide +kernel)
set_option maxRecDepth 65536 in
theorem w_c21 : (Jvm.Cond.code ({ cls := "com/example/indexloom/indexloom/Texts", name := "find", desc := "([BII)I" } : Jvm.MethodName) prog_100_method_4_code (6 : Nat) (Option.some Jvm.ClassFile.FieldType.int)).before args0 about1 = true := code_word (m := ⟨9, 1⟩) (meth := k9m1) (c := k9c1) (by decide +kernel) rfl rfl rfl (by decide +kernel)
set_option maxRecDepth 65536 in
theorem w_c22 : (Jvm.Cond.code ({ cls := "com/example/indexloom/indexloom/Texts", name := "lookUp", desc := "([BII)I" } : Jvm.MethodName) prog_100_method_6_code (8 : Nat) (Option.some Jvm.ClassFile.FieldType.int)).before args0 about1 = true := code_word (m := ⟨9, 3⟩) (meth := k9m3) (c := k9c3) (by decide +kernel) rfl rfl rfl (by decide +kernel)
set_option maxRecDepth 65536 in
theorem w_c23 : (Jvm.Cond.code ({ cls := "com/example/indexloom/indexloom/Texts", name := "hash", desc := "([BII)I" } : Jvm.MethodName) prog_100_method_10_code (5 : Nat) (Option.some Jvm.ClassFile.FieldType.int)).before args0 about1 = true := code_word (m := ⟨9, 7⟩) (meth := k9m7) (c := k9c7) (by decide +kernel) rfl rfl rfl (by decide +kernel)
set_option maxRecDepth 65536 in
theorem w_c24 : (Jvm.Cond.code ({ cls := "com/example/indexloom/indexloom/Texts", name := "free", desc := "(I)I" } : Jvm.MethodName) prog_100_method_8_code (4 : Nat) (Option.some Jvm.ClassFile.FieldType.int)).before args0 about1 = true := code_word (m := ⟨9, 5⟩) (meth := k9m5) (c := k9c5) (by decide +kernel) rfl rfl rfl (by decide +kernel)
set_option maxRecDepth 65536 in
theorem w_c25 : (Jvm.Cond.code ({ cls := "com/example/indexloom/indexloom/Texts", name := "follow", desc := "(I)V" } : Jvm.MethodName) prog_100_method_5_code (2 : Nat) (Option.none : Option Jvm.ClassFile.FieldType)).before args0 about1 = true := code_word (m := ⟨9, 2⟩) (meth := k9m2) (c := k9c2) (by decide +kernel) rfl rfl rfl (by decide +kernel)
set_option maxRecDepth 65536 in
theorem w_c26 : (Jvm.Cond.code ({ cls := "com/example/indexloom/indexloom/Texts", name := "equal", desc := "([B[BII)Z" } : Jvm.MethodName) prog_100_method_9_code (5 : Nat) (Option.some Jvm.ClassFile.FieldType.boolean)).before args0 about1 = true := code_word (m := ⟨9, 6⟩) (meth := k9m6) (c := k9c6) (by decide +kernel) rfl rfl rfl (by decide +kernel)
set_option maxRecDepth 65536 in
theorem w_c27 : (Jvm.Cond.code ({ cls := "java/lang/StringUTF16", name := "compress", desc := "([CII)[B" } : Jvm.MethodName) jdk_52_method_16_code (6 : Nat) (Option.some (Jvm.ClassFile.FieldType.array Jvm.ClassFile.FieldType.byte))).before args0 about1 = true := code_word (m := ⟨17, 4⟩) (meth := k17m4) (c := k17c4) (by decide +kernel) rfl rfl rfl (by decide +kernel)
set_option maxRecDepth 65536 in
theorem w_c28 : (Jvm.Cond.code ({ cls := "java/lang/StringUTF16", name := "compress", desc := "([CI[BII)I" } : Jvm.MethodName) jdk_52_method_21_code (7 : Nat) (Option.some Jvm.ClassFile.FieldType.int)).before args0 about1 = true := code_word (m := ⟨17, 5⟩) (meth := k17m5) (c := k17c5) (by decide +kernel) rfl rfl rfl (by decide +kernel)
set_option maxRecDepth 65536 in
theorem w_c29 : (Jvm.Cond.code ({ cls := "java/lang/StringUTF16", name := "coderFromArrayLen", desc := "([BI)B" } : Jvm.MethodName) jdk_52_method_15_code (2 : Nat) (Option.some Jvm.ClassFile.FieldType.byte)).before args0 about1 = true := code_word (m := ⟨17, 3⟩) (meth := k17m3) (c := k17c3) (by decide +kernel) rfl rfl rfl (by decide +kernel)
set_option maxRecDepth 65536 in
theorem w_c30 : (Jvm.Cond.code ({ cls := "com/example/indexloom/indexloom/TextsFindPinLaw", name := "put", desc := "([BII)I" } : Jvm.MethodName) method_4_code (3 : Nat) (Option.some Jvm.ClassFile.FieldType.int)).before args0 about1 = true := code_word (m := ⟨1, 3⟩) (meth := k1m3) (c := k1c3) (by decide +kernel) rfl rfl rfl (by decide +kernel)
set_option maxRecDepth 65536 in
theorem w_c31 : (Jvm.Cond.code ({ cls := "java/lang/String", name := "valueOf", desc := "(C)Ljava/lang/String;" } : Jvm.MethodName) jdk_42_method_139_code (1 : Nat) (Option.some (Jvm.ClassFile.FieldType.object "java/lang/String"))).before args0 about1 = true := code_word (m := ⟨7, 6⟩) (meth := k7m6) (c := k7c6) (by decide +kernel) rfl rfl rfl (by decide +kernel)
set_option maxRecDepth 65536 in
theorem w_c32 : (Jvm.Cond.code ({ cls := "java/lang/StringLatin1", name := "canEncode", desc := "(C)Z" } : Jvm.MethodName) jdk_43_method_3_code (1 : Nat) (Option.some Jvm.ClassFile.FieldType.boolean)).before args0 about1 = true := code_word (m := ⟨8, 1⟩) (meth := k8m1) (c := k8c1) (by decide +kernel) rfl rfl rfl (by decide +kernel)
set_option maxRecDepth 65536 in
theorem w_c33 : (Jvm.Cond.code ({ cls := "java/lang/StringLatin1", name := "toBytes", desc := "(C)[B" } : Jvm.MethodName) jdk_43_method_46_code (1 : Nat) (Option.some (Jvm.ClassFile.FieldType.array Jvm.ClassFile.FieldType.byte))).before args0 about1 = true := code_word (m := ⟨8, 3⟩) (meth := k8m3) (c := k8c3) (by decide +kernel) rfl rfl rfl (by decide +kernel)
set_option maxRecDepth 65536 in
theorem w_c34 : (Jvm.Cond.code ({ cls := "java/lang/String", name := "<init>", desc := "([BB)V" } : Jvm.MethodName) jdk_42_method_151_code (3 : Nat) (Option.none : Option Jvm.ClassFile.FieldType)).before args0 about1 = true := code_word (m := ⟨7, 8⟩) (meth := k7m8) (c := k7c8) (by decide +kernel) rfl rfl rfl (by decide +kernel)
set_option maxRecDepth 65536 in
theorem w_c35 : (Jvm.Cond.code ({ cls := "java/lang/StringUTF16", name := "newBytesFor", desc := "(I)[B" } : Jvm.MethodName) jdk_52_method_2_code (1 : Nat) (Option.some (Jvm.ClassFile.FieldType.array Jvm.ClassFile.FieldType.byte))).before args0 about1 = true := code_word (m := ⟨17, 1⟩) (meth := k17m1) (c := k17c1) (by decide +kernel) rfl rfl rfl (by decide +kernel)
set_option maxRecDepth 65536 in
theorem w_c36 : (Jvm.Cond.code ({ cls := "java/lang/StringUTF16", name := "newBytesLength", desc := "(I)I" } : Jvm.MethodName) jdk_52_method_3_code (1 : Nat) (Option.some Jvm.ClassFile.FieldType.int)).before args0 about1 = true := code_word (m := ⟨17, 2⟩) (meth := k17m2) (c := k17c2) (by decide +kernel) rfl rfl rfl (by decide +kernel)
set_option maxRecDepth 65536 in
theorem w_c37 : (Jvm.Cond.code ({ cls := "java/util/Arrays", name := "copyOf", desc := "([BI)[B" } : Jvm.MethodName) jdk_65_method_121_code (3 : Nat) (Option.some (Jvm.ClassFile.FieldType.array Jvm.ClassFile.FieldType.byte))).before args0 about1 = true := code_word (m := ⟨18, 1⟩) (meth := k18m1) (c := k18c1) (by decide +kernel) rfl rfl rfl (by decide +kernel)
set_option maxRecDepth 65536 in
theorem w_c38 : (Jvm.Cond.code ({ cls := "java/lang/Math", name := "min", desc := "(II)I" } : Jvm.MethodName) jdk_29_method_69_code (2 : Nat) (Option.some Jvm.ClassFile.FieldType.int)).before args0 about1 = true := code_word (m := ⟨19, 1⟩) (meth := k19m1) (c := k19c1) (by decide +kernel) rfl rfl rfl (by decide +kernel)
def codes1 : List Jvm.Cond := [Jvm.Cond.code x code maxLocals ret, Jvm.Cond.code ({ cls := "com/example/indexloom/indexloom/TextsFindPinLaw", name := "field", desc := "(JI)I" } : Jvm.MethodName) method_2_code (3 : Nat) (Option.some Jvm.ClassFile.FieldType.int), Jvm.Cond.code ({ cls := "com/example/indexloom/indexloom/TextsFindPinLaw", name := "str", desc := "(I)Ljava/lang/String;" } : Jvm.MethodName) method_3_code (4 : Nat) (Option.some (Jvm.ClassFile.FieldType.object "java/lang/String")), Jvm.Cond.code ({ cls := "java/lang/String", name := "<init>", desc := "([C)V" } : Jvm.MethodName) jdk_42_method_3_code (2 : Nat) (Option.none : Option Jvm.ClassFile.FieldType), Jvm.Cond.code ({ cls := "java/lang/String", name := "<init>", desc := "([CIILjava/lang/Void;)V" } : Jvm.MethodName) jdk_42_method_149_code (6 : Nat) (Option.none : Option Jvm.ClassFile.FieldType), Jvm.Cond.code ({ cls := "java/lang/Object", name := "<init>", desc := "()V" } : Jvm.MethodName) object_method_1_code (1 : Nat) (Option.none : Option Jvm.ClassFile.FieldType), Jvm.Cond.code ({ cls := "com/example/indexloom/indexloom/TextsFindPinLaw", name := "enc", desc := "(I[B)I" } : Jvm.MethodName) method_5_code (4 : Nat) (Option.some Jvm.ClassFile.FieldType.int), Jvm.Cond.code ({ cls := "java/lang/String", name := "equals", desc := "(Ljava/lang/Object;)Z" } : Jvm.MethodName) jdk_42_method_66_code (3 : Nat) (Option.some Jvm.ClassFile.FieldType.boolean), Jvm.Cond.code ({ cls := "java/lang/StringLatin1", name := "equals", desc := "([B[B)Z" } : Jvm.MethodName) jdk_43_method_13_code (3 : Nat) (Option.some Jvm.ClassFile.FieldType.boolean), Jvm.Cond.code ({ cls := "com/example/indexloom/indexloom/TextsFindPinLaw", name := "start", desc := "(I)I" } : Jvm.MethodName) method_8_code (1 : Nat) (Option.some Jvm.ClassFile.FieldType.int), Jvm.Cond.code ({ cls := "com/example/indexloom/indexloom/TextsFindPinLaw", name := "end", desc := "(II)I" } : Jvm.MethodName) method_9_code (2 : Nat) (Option.some Jvm.ClassFile.FieldType.int), Jvm.Cond.code ({ cls := "com/example/indexloom/indexloom/TextsFindPinLaw", name := "expected", desc := "([BII[BII[BII[BII)I" } : Jvm.MethodName) method_7_code (12 : Nat) (Option.some Jvm.ClassFile.FieldType.int), Jvm.Cond.code ({ cls := "com/example/indexloom/indexloom/TextsFindPinLaw", name := "match", desc := "([BII[BI)Z" } : Jvm.MethodName) method_6_code (5 : Nat) (Option.some Jvm.ClassFile.FieldType.boolean), Jvm.Cond.code ({ cls := "com/example/indexloom/indexloom/Texts", name := "<init>", desc := "()V" } : Jvm.MethodName) prog_100_method_1_code (1 : Nat) (Option.none : Option Jvm.ClassFile.FieldType), Jvm.Cond.code ({ cls := "com/example/indexloom/indexloom/Texts", name := "number", desc := "(Ljava/lang/String;)I" } : Jvm.MethodName) prog_100_method_7_code (5 : Nat) (Option.some Jvm.ClassFile.FieldType.int), Jvm.Cond.code ({ cls := "java/lang/String", name := "getBytes", desc := "(Ljava/nio/charset/Charset;)[B" } : Jvm.MethodName) jdk_42_method_64_code (2 : Nat) (Option.some (Jvm.ClassFile.FieldType.array Jvm.ClassFile.FieldType.byte)), Jvm.Cond.code ({ cls := "java/lang/String", name := "coder", desc := "()B" } : Jvm.MethodName) jdk_42_method_152_code (1 : Nat) (Option.some Jvm.ClassFile.FieldType.byte), Jvm.Cond.code ({ cls := "java/lang/String", name := "encode", desc := "(Ljava/nio/charset/Charset;B[B)[B" } : Jvm.MethodName) jdk_42_method_18_code (3 : Nat) (Option.some (Jvm.ClassFile.FieldType.array Jvm.ClassFile.FieldType.byte)), Jvm.Cond.code ({ cls := "java/lang/String", name := "encodeUTF8", desc := "(B[BZ)[B" } : Jvm.MethodName) jdk_42_method_46_code (9 : Nat) (Option.some (Jvm.ClassFile.FieldType.array Jvm.ClassFile.FieldType.byte)), Jvm.Cond.code ({ cls := "java/lang/StringCoding", name := "hasNegatives", desc := "([BII)Z" } : Jvm.MethodName) jdk_123_method_2_code (3 : Nat) (Option.some Jvm.ClassFile.FieldType.boolean), Jvm.Cond.code ({ cls := "java/lang/StringCoding", name := "countPositives", desc := "([BII)I" } : Jvm.MethodName) jdk_123_method_3_code (5 : Nat) (Option.some Jvm.ClassFile.FieldType.int), Jvm.Cond.code ({ cls := "com/example/indexloom/indexloom/Texts", name := "find", desc := "([BII)I" } : Jvm.MethodName) prog_100_method_4_code (6 : Nat) (Option.some Jvm.ClassFile.FieldType.int), Jvm.Cond.code ({ cls := "com/example/indexloom/indexloom/Texts", name := "lookUp", desc := "([BII)I" } : Jvm.MethodName) prog_100_method_6_code (8 : Nat) (Option.some Jvm.ClassFile.FieldType.int), Jvm.Cond.code ({ cls := "com/example/indexloom/indexloom/Texts", name := "hash", desc := "([BII)I" } : Jvm.MethodName) prog_100_method_10_code (5 : Nat) (Option.some Jvm.ClassFile.FieldType.int), Jvm.Cond.code ({ cls := "com/example/indexloom/indexloom/Texts", name := "free", desc := "(I)I" } : Jvm.MethodName) prog_100_method_8_code (4 : Nat) (Option.some Jvm.ClassFile.FieldType.int), Jvm.Cond.code ({ cls := "com/example/indexloom/indexloom/Texts", name := "follow", desc := "(I)V" } : Jvm.MethodName) prog_100_method_5_code (2 : Nat) (Option.none : Option Jvm.ClassFile.FieldType), Jvm.Cond.code ({ cls := "com/example/indexloom/indexloom/Texts", name := "equal", desc := "([B[BII)Z" } : Jvm.MethodName) prog_100_method_9_code (5 : Nat) (Option.some Jvm.ClassFile.FieldType.boolean), Jvm.Cond.code ({ cls := "java/lang/StringUTF16", name := "compress", desc := "([CII)[B" } : Jvm.MethodName) jdk_52_method_16_code (6 : Nat) (Option.some (Jvm.ClassFile.FieldType.array Jvm.ClassFile.FieldType.byte)), Jvm.Cond.code ({ cls := "java/lang/StringUTF16", name := "compress", desc := "([CI[BII)I" } : Jvm.MethodName) jdk_52_method_21_code (7 : Nat) (Option.some Jvm.ClassFile.FieldType.int), Jvm.Cond.code ({ cls := "java/lang/StringUTF16", name := "coderFromArrayLen", desc := "([BI)B" } : Jvm.MethodName) jdk_52_method_15_code (2 : Nat) (Option.some Jvm.ClassFile.FieldType.byte), Jvm.Cond.code ({ cls := "com/example/indexloom/indexloom/TextsFindPinLaw", name := "put", desc := "([BII)I" } : Jvm.MethodName) method_4_code (3 : Nat) (Option.some Jvm.ClassFile.FieldType.int), Jvm.Cond.code ({ cls := "java/lang/String", name := "valueOf", desc := "(C)Ljava/lang/String;" } : Jvm.MethodName) jdk_42_method_139_code (1 : Nat) (Option.some (Jvm.ClassFile.FieldType.object "java/lang/String")), Jvm.Cond.code ({ cls := "java/lang/StringLatin1", name := "canEncode", desc := "(C)Z" } : Jvm.MethodName) jdk_43_method_3_code (1 : Nat) (Option.some Jvm.ClassFile.FieldType.boolean), Jvm.Cond.code ({ cls := "java/lang/StringLatin1", name := "toBytes", desc := "(C)[B" } : Jvm.MethodName) jdk_43_method_46_code (1 : Nat) (Option.some (Jvm.ClassFile.FieldType.array Jvm.ClassFile.FieldType.byte)), Jvm.Cond.code ({ cls := "java/lang/String", name := "<init>", desc := "([BB)V" } : Jvm.MethodName) jdk_42_method_151_code (3 : Nat) (Option.none : Option Jvm.ClassFile.FieldType), Jvm.Cond.code ({ cls := "java/lang/StringUTF16", name := "newBytesFor", desc := "(I)[B" } : Jvm.MethodName) jdk_52_method_2_code (1 : Nat) (Option.some (Jvm.ClassFile.FieldType.array Jvm.ClassFile.FieldType.byte)), Jvm.Cond.code ({ cls := "java/lang/StringUTF16", name := "newBytesLength", desc := "(I)I" } : Jvm.MethodName) jdk_52_method_3_code (1 : Nat) (Option.some Jvm.ClassFile.FieldType.int), Jvm.Cond.code ({ cls := "java/util/Arrays", name := "copyOf", desc := "([BI)[B" } : Jvm.MethodName) jdk_65_method_121_code (3 : Nat) (Option.some (Jvm.ClassFile.FieldType.array Jvm.ClassFile.FieldType.byte)), Jvm.Cond.code ({ cls := "java/lang/Math", name := "min", desc := "(II)I" } : Jvm.MethodName) jdk_29_method_69_code (2 : Nat) (Option.some Jvm.ClassFile.FieldType.int)]
set_option maxRecDepth 65536 in
theorem codes_eq : words1.filter isCode = codes1 := rfl
theorem w_codes : ∀ c ∈ words1.filter isCode, c.before args0 about1 = true := by
  rw [codes_eq]
  intro c hc
  simp only [codes1, List.mem_cons, List.not_mem_nil, or_false] at hc
  rcases hc with rfl | rfl | rfl | rfl | rfl | rfl | rfl | rfl | rfl | rfl | rfl | rfl | rfl | rfl | rfl | rfl | rfl | rfl | rfl | rfl | rfl | rfl | rfl | rfl | rfl | rfl | rfl | rfl | rfl | rfl | rfl | rfl | rfl | rfl | rfl | rfl | rfl | rfl | rfl
  · exact w_c0
  · exact w_c1
  · exact w_c2
  · exact w_c3
  · exact w_c4
  · exact w_c5
  · exact w_c6
  · exact w_c7
  · exact w_c8
  · exact w_c9
  · exact w_c10
  · exact w_c11
  · exact w_c12
  · exact w_c13
  · exact w_c14
  · exact w_c15
  · exact w_c16
  · exact w_c17
  · exact w_c18
  · exact w_c19
  · exact w_c20
  · exact w_c21
  · exact w_c22
  · exact w_c23
  · exact w_c24
  · exact w_c25
  · exact w_c26
  · exact w_c27
  · exact w_c28
  · exact w_c29
  · exact w_c30
  · exact w_c31
  · exact w_c32
  · exact w_c33
  · exact w_c34
  · exact w_c35
  · exact w_c36
  · exact w_c37
  · exact w_c38
set_option maxRecDepth 65536 in
theorem w_t1 : (words1.take 24).all (fun c => isCode c || c.before args0 about1) = true := by decide +kernel
set_option maxRecDepth 65536 in
theorem w_t2 : ((words1.drop 24).take 24).all (fun c => isCode c || c.before args0 about1) = true := by decide +kernel
set_option maxRecDepth 65536 in
theorem w_t3 : (((words1.drop 24).drop 24).take 24).all (fun c => isCode c || c.before args0 about1) = true := by decide +kernel
set_option maxRecDepth 65536 in
theorem w_t4 : ((((words1.drop 24).drop 24).drop 24).take 24).all (fun c => isCode c || c.before args0 about1) = true := by decide +kernel
set_option maxRecDepth 65536 in
theorem w_t5 : (((((words1.drop 24).drop 24).drop 24).drop 24).take 24).all (fun c => isCode c || c.before args0 about1) = true := by decide +kernel
set_option maxRecDepth 65536 in
theorem w_t6 : ((((((words1.drop 24).drop 24).drop 24).drop 24).drop 24).take 24).all (fun c => isCode c || c.before args0 about1) = true := by decide +kernel
set_option maxRecDepth 65536 in
theorem w_t7 : (((((((words1.drop 24).drop 24).drop 24).drop 24).drop 24).drop 24).take 24).all (fun c => isCode c || c.before args0 about1) = true := by decide +kernel
set_option maxRecDepth 65536 in
theorem w_t8 : ((((((((words1.drop 24).drop 24).drop 24).drop 24).drop 24).drop 24).drop 24).take 24).all (fun c => isCode c || c.before args0 about1) = true := by decide +kernel
set_option maxRecDepth 65536 in
theorem w_t9 : ((((((((words1.drop 24).drop 24).drop 24).drop 24).drop 24).drop 24).drop 24).drop 24).all (fun c => isCode c || c.before args0 about1) = true := by decide +kernel
theorem w_tables : (allAtoms (Jvm.Cond.code x code maxLocals ret :: tables_1)).before args0 about1 = true := by
  rw [allAtoms_all]
  show words1.all (fun c => c.before args0 about1) = true
  refine all_split ?_ w_codes
  rw [← List.take_append_drop 24 words1, List.all_append, w_t1, ← List.take_append_drop 24 (words1.drop 24), List.all_append, w_t2, ← List.take_append_drop 24 ((words1.drop 24).drop 24), List.all_append, w_t3, ← List.take_append_drop 24 (((words1.drop 24).drop 24).drop 24), List.all_append, w_t4, ← List.take_append_drop 24 ((((words1.drop 24).drop 24).drop 24).drop 24), List.all_append, w_t5, ← List.take_append_drop 24 (((((words1.drop 24).drop 24).drop 24).drop 24).drop 24), List.all_append, w_t6, ← List.take_append_drop 24 ((((((words1.drop 24).drop 24).drop 24).drop 24).drop 24).drop 24), List.all_append, w_t7, ← List.take_append_drop 24 (((((((words1.drop 24).drop 24).drop 24).drop 24).drop 24).drop 24).drop 24), List.all_append, w_t8, w_t9]
  rfl
set_option maxRecDepth 65536 in
theorem w_rest : rest_1_c.before args0 about1 = true := by decide +kernel
set_option maxRecDepth 65536 in
theorem w_case : (Jvm.Cond.and given_1 narrow_1).before args0 about1 = true := by decide +kernel
set_option maxRecDepth 65536 in
theorem w_consts : constsHeld consts_1 about1 := Jvm.Lit.constsHeldB_iff.mp (by decide +kernel)
theorem w_applies : (headSpec (Jvm.Cond.code x code maxLocals ret :: tables_1) room_1).applies x e0.platform about1 = true :=
  (Spec.applies_iff w_frames).mpr ⟨w_running, w_runnable, w_alone, w_named, w_hears, w_ripe, w_room, w_tables⟩
theorem atStart : AtStart classFile x code maxLocals ret World_1 tables_1 room_1 Calls_1 rest_1 Pre_1 launch0 p0 e0 about1 theMethod args0 below0 :=
  ⟨lists_1, trivial, launch0.admits_env _ _ _, launch0.least_env, fairChoices_fair.cas, fairChoices_fair.clock, w_frames, w_args, w_heap, w_applies, ⟨w_consts, trivial⟩, w_rest, w_case⟩
end start1
theorem witness_1 : WitnessClaimed_1 := ⟨start1.p0, start1.e0, start1.about1, start1.theMethod, start1.args0, start1.below0, start1.atStart⟩
end Jvm.Pilot.@@N@@
