import JvmDerived
import JvmDerived.Pilot.@@N@@Statement
import JvmDerived.Pilot.@@N@@Code
set_option linter.unusedVariables false
set_option linter.unusedSimpArgs false
@@BLOCK:NumsL.lean.txt@@
namespace Jvm.Pilot.@@N@@
open Jvm Jvm.ClassFile Sem Op Lib Jvm.Free Jvm.Stand Jvm.LawKit Jvm.RoadKit Bundle Jvm.Pilot.@@N@@.Jvm.D
section Own
variable {p : Program} {l : Launch} {e : Env} {R : Room} {s : State} {m : MethodId} {args : Array Value} {below : List Frame} {meth : Method} {c : Code} {own nm : String} {bytes : ByteArray} {ml : Nat} {ret : Option FieldType} {T : State} {locs : List Loc} {cells slots : Nat} {Z : State} {a0 : Array Value} {h : Heap} {n0 : Nat} {K : State → Outcome → Prop} {pc pc' pt : Nat} {L L' : Array Slot} {S : List Value}
/-- what is left of a run, from a state on -/
def Go (p : Program) (e : Env) (below : List Frame) (K : State → Outcome → Prop) (U : State) : Prop := ∃ s₂ o, Steps p.tables e below U s₂ ∧ s₂.status = .running ∧ Ended s₂ below o ∧ K s₂ o
theorem Go.of {U U' : State} (g : Go p e below K U') (st : ∀ t, Steps p.tables e below U' t → Steps p.tables e below U t) : Go p e below K U := by
  obtain ⟨s₂, o, h1, h2⟩ := g; exact ⟨s₂, o, st _ h1, h2⟩
/-- where a walk stands -/
def St (Z : State) (n0 : Nat) (p : Program) (l : Launch) (e : Env) (R : Room) (s : State) (m : MethodId) (args : Array Value) (below : List Frame) (meth : Method) (c : Code) (own nm : String) (bytes : ByteArray) (ml : Nat) (ret : Option FieldType) (T : State) (locs : List Loc) (cells slots : Nat) (h : Heap) : Prop :=
  Stand p l e R s m args below meth c T locs cells slots ∧ (p.tables.exec = Jvm.exec ∧ c.code = bytes ∧ c.maxLocals = ml ∧ s.vm.findClass own = some m.cls ∧ Z.Warmed39 s.vm ∧ meth.sig.returnType = ret ∧ meth.locks = false ∧ meth.name = nm) ∧ T.heap = h ∧ Fr n0 locs ∧ Old Z n0 h
theorem St.X (X : St Z n0 p l e R s m args below meth c own nm bytes ml ret T locs cells slots h) : Stand p l e R s m args below meth c T locs cells slots := X.1
theorem St.hx (X : St Z n0 p l e R s m args below meth c own nm bytes ml ret T locs cells slots h) : p.tables.exec = Jvm.exec := X.2.1.1
theorem St.by_ (X : St Z n0 p l e R s m args below meth c own nm bytes ml ret T locs cells slots h) : c.code = bytes := X.2.1.2.1
theorem St.ml_ (X : St Z n0 p l e R s m args below meth c own nm bytes ml ret T locs cells slots h) : c.maxLocals = ml := X.2.1.2.2.1
theorem St.own_ (X : St Z n0 p l e R s m args below meth c own nm bytes ml ret T locs cells slots h) : s.vm.findClass own = some m.cls := X.2.1.2.2.2.1
theorem St.hZ (X : St Z n0 p l e R s m args below meth c own nm bytes ml ret T locs cells slots h) : Z.Warmed39 s.vm := X.2.1.2.2.2.2.1
theorem St.ret_ (X : St Z n0 p l e R s m args below meth c own nm bytes ml ret T locs cells slots h) : meth.sig.returnType = ret := X.2.1.2.2.2.2.2.1
theorem St.lk (X : St Z n0 p l e R s m args below meth c own nm bytes ml ret T locs cells slots h) : meth.locks = false := X.2.1.2.2.2.2.2.2.1
theorem St.nm_ (X : St Z n0 p l e R s m args below meth c own nm bytes ml ret T locs cells slots h) : meth.name = nm := X.2.1.2.2.2.2.2.2.2
theorem St.eT (X : St Z n0 p l e R s m args below meth c own nm bytes ml ret T locs cells slots h) : T.heap = h := X.2.2.1
theorem St.fr (X : St Z n0 p l e R s m args below meth c own nm bytes ml ret T locs cells slots h) : Fr n0 locs := X.2.2.2.1
theorem St.old (X : St Z n0 p l e R s m args below meth c own nm bytes ml ret T locs cells slots h) : Old Z n0 h := X.2.2.2.2
theorem St.sz (X : St Z n0 p l e R s m args below meth c own nm bytes ml ret T locs cells slots h) : n0 ≤ h.size := X.2.2.2.2.1 ▸ X.2.2.2.2.2.1
theorem St.to (X : St Z n0 p l e R s m args below meth c own nm bytes ml ret T locs cells slots h) {T' : State} {locs' : List Loc} {cells' slots' : Nat} {h' : Heap} (Y : Stand p l e R s m args below meth c T' locs' cells' slots') (e' : T'.heap = h') (N : Fr n0 locs') (z : Old Z n0 h') : St Z n0 p l e R s m args below meth c own nm bytes ml ret T' locs' cells' slots' h' := ⟨Y, X.2.1, e', N, z⟩
theorem St.more (X : St Z n0 p l e R s m args below meth c own nm bytes ml ret T locs cells slots h) {c' n' : Nat} (q1 : cells ≤ c') (q2 : slots ≤ n') : St Z n0 p l e R s m args below meth c own nm bytes ml ret T locs c' n' h := ⟨X.X.mono q1 q2, X.2⟩
theorem St.d (X : St Z n0 p l e R s m args below meth c own nm bytes ml ret T locs cells slots h) {r : Except DecodeError (Instr × Nat)} (hd : decode bytes pc = r) : decode c.code pc = r := hb X.by_ hd
/-- a body's contract -/
def Con (l : Launch) (Z : State) (y : MethodName) (bytes : ByteArray) (ml : Nat) (ret : Option FieldType) (ws : List Jvm.Cond) (rm : Room) (C N : Nat) (as' : Array Value) (h : Heap) (Q : Option Value → Heap → List Loc → Prop) : Prop :=
  MetFree l y (head1 (Jvm.Cond.code y bytes ml ret :: ws) rm) (fun a U => a = as' ∧ Z.Warmed39 U.vm ∧ U.heap = h) (fun _ _ _ _ _ => True) (fun _ U o U' => ∃ v L, o = .returned v ∧ Q v U'.heap L ∧ FrameEnd U o U' L C N)
def Kq (s : State) (C N : Nat) (Q : Option Value → Heap → List Loc → Prop) (t : State) (o : Outcome) : Prop := ∃ v L, o = .returned v ∧ Q v t.heap L ∧ FrameEnd s o t L C N
theorem Con.intro {y : MethodName} {ws : List Jvm.Cond} {rm : Room} {C N : Nat} {as' : Array Value} {Q : Option Value → Heap → List Loc → Prop} (hy : plainFor y = true) (ef : ∀ m, entryFrame m as' ml = mkF m 0 L []) (hz : Old Z n0 h)
    (body : ∀ p e s m below meth c T, s.heap = h → St Z n0 p l e rm s m as' below meth c y.cls y.name bytes ml ret T [] 0 0 h → Go p e below (Kq s C N Q) (T.setTop (mkF m 0 L []))) : Con l Z y bytes ml ret ws rm C N as' h Q := by
  refine MetFree.of_bodySF hy hisR ?_
  intro p e s m args below meth c s₁ Bd hml0 hP hK
  obtain ⟨rfl, hZ, hh⟩ := hP
  have e0 : s₁.heap = h := by rw [← hh, Bd.state]; rfl
  obtain ⟨s₂, o, h1, h2, h3, h4⟩ := body p e s m below meth c s₁ hh ⟨Stand.of_body Bd, ⟨Bd.exec, Bd.bytes, hml0, findClass_of_methodNamed Bd.named, hZ, Bd.returns, Bd.notSynchronized, (name_of_methodNamed Bd.named Bd.method).1⟩, e0, Fr.nil n0, hz⟩
  exact ⟨s₂, o, castTop (ef m) h1, h2, h3, h4⟩
theorem go_eq {f g : JFrame} (q : f = g) (k : Go p e below K (T.setTop g)) : Go p e below K (T.setTop f) := q ▸ k
theorem g_iloadN (X : St Z n0 p l e R s m args below meth c own nm bytes ml ret T locs cells slots h) {k : Fin 4} {v : Int32} (hd : decode bytes pc = .ok (.iload_n k, 1)) (hp : pc + 1 = pc') (hl : L[k.val]? = some (.val (.int v))) (k : Go p e below K (T.setTop (mkF m pc' L (.int v :: S)))) : Go p e below K (T.setTop (mkF m pc L S)) := by
  subst hp; exact k.of (fun _ q => XS.iloadN X.X.here X.hx rfl (X.d hd) hl q)
theorem g_iload (X : St Z n0 p l e R s m args below meth c own nm bytes ml ret T locs cells slots h) {k : Nat} {v : Int32} (hd : decode bytes pc = .ok (.iload k, 2)) (hp : pc + 2 = pc') (hl : L[k]? = some (.val (.int v))) (k : Go p e below K (T.setTop (mkF m pc' L (.int v :: S)))) : Go p e below K (T.setTop (mkF m pc L S)) := by
  subst hp; exact k.of (fun _ q => XS.iload X.X.here X.hx rfl (X.d hd) hl q)
theorem g_lloadN (X : St Z n0 p l e R s m args below meth c own nm bytes ml ret T locs cells slots h) {k : Fin 4} {v : Int64} (hd : decode bytes pc = .ok (.lload_n k, 1)) (hp : pc + 1 = pc') (hl : L[k.val]? = some (.val (.long v))) (k : Go p e below K (T.setTop (mkF m pc' L (.long v :: S)))) : Go p e below K (T.setTop (mkF m pc L S)) := by
  subst hp; exact k.of (fun _ q => XS.lloadN X.X.here X.hx rfl (X.d hd) hl q)
theorem g_lload (X : St Z n0 p l e R s m args below meth c own nm bytes ml ret T locs cells slots h) {k : Nat} {v : Int64} (hd : decode bytes pc = .ok (.lload k, 2)) (hp : pc + 2 = pc') (hl : L[k]? = some (.val (.long v))) (k : Go p e below K (T.setTop (mkF m pc' L (.long v :: S)))) : Go p e below K (T.setTop (mkF m pc L S)) := by
  subst hp; exact k.of (fun _ q => XS.lload X.X.here X.hx rfl (X.d hd) hl q)
theorem g_aloadN (X : St Z n0 p l e R s m args below meth c own nm bytes ml ret T locs cells slots h) {k : Fin 4} {v : Value} (hd : decode bytes pc = .ok (.aload_n k, 1)) (hp : pc + 1 = pc') (hl : L[k.val]? = some (.val v)) (hv : v.isRef = true) (k : Go p e below K (T.setTop (mkF m pc' L (v :: S)))) : Go p e below K (T.setTop (mkF m pc L S)) := by
  subst hp; exact k.of (fun _ q => XS.aloadN X.X.here X.hx rfl (X.d hd) hl hv q)
theorem g_aload (X : St Z n0 p l e R s m args below meth c own nm bytes ml ret T locs cells slots h) {k : Nat} {v : Value} (hd : decode bytes pc = .ok (.aload k, 2)) (hp : pc + 2 = pc') (hl : L[k]? = some (.val v)) (hv : v.isRef = true) (k : Go p e below K (T.setTop (mkF m pc' L (v :: S)))) : Go p e below K (T.setTop (mkF m pc L S)) := by
  subst hp; exact k.of (fun _ q => XS.aload X.X.here X.hx rfl (X.d hd) hl hv q)
theorem g_istoreN (X : St Z n0 p l e R s m args below meth c own nm bytes ml ret T locs cells slots h) {k : Fin 4} {v : Int32} (hd : decode bytes pc = .ok (.istore_n k, 1)) (hp : pc + 1 = pc') (hl : storeLocals L k.val (.int v) = some L') (k : Go p e below K (T.setTop (mkF m pc' L' S))) : Go p e below K (T.setTop (mkF m pc L (.int v :: S))) := by
  subst hp; exact k.of (fun _ q => XS.istoreN X.X.here X.hx rfl (X.d hd) rfl hl q)
theorem g_istore (X : St Z n0 p l e R s m args below meth c own nm bytes ml ret T locs cells slots h) {k : Nat} {v : Int32} (hd : decode bytes pc = .ok (.istore k, 2)) (hp : pc + 2 = pc') (hl : storeLocals L k (.int v) = some L') (k : Go p e below K (T.setTop (mkF m pc' L' S))) : Go p e below K (T.setTop (mkF m pc L (.int v :: S))) := by
  subst hp; exact k.of (fun _ q => XS.istore X.X.here X.hx rfl (X.d hd) rfl hl q)
theorem g_lstoreN (X : St Z n0 p l e R s m args below meth c own nm bytes ml ret T locs cells slots h) {k : Fin 4} {v : Int64} (hd : decode bytes pc = .ok (.lstore_n k, 1)) (hp : pc + 1 = pc') (hl : storeLocals L k.val (.long v) = some L') (k : Go p e below K (T.setTop (mkF m pc' L' S))) : Go p e below K (T.setTop (mkF m pc L (.long v :: S))) := by
  subst hp; exact k.of (fun _ q => XS.lstoreN X.X.here X.hx rfl (X.d hd) rfl hl q)
theorem g_lstore (X : St Z n0 p l e R s m args below meth c own nm bytes ml ret T locs cells slots h) {k : Nat} {v : Int64} (hd : decode bytes pc = .ok (.lstore k, 2)) (hp : pc + 2 = pc') (hl : storeLocals L k (.long v) = some L') (k : Go p e below K (T.setTop (mkF m pc' L' S))) : Go p e below K (T.setTop (mkF m pc L (.long v :: S))) := by
  subst hp; exact k.of (fun _ q => XS.lstore X.X.here X.hx rfl (X.d hd) rfl hl q)
theorem g_astoreN (X : St Z n0 p l e R s m args below meth c own nm bytes ml ret T locs cells slots h) {k : Fin 4} {v : Value} (hd : decode bytes pc = .ok (.astore_n k, 1)) (hp : pc + 1 = pc') (hv : v.isRef = true) (hl : storeLocals L k.val v = some L') (k : Go p e below K (T.setTop (mkF m pc' L' S))) : Go p e below K (T.setTop (mkF m pc L (v :: S))) := by
  subst hp; exact k.of (fun _ q => XS.astoreN X.X.here X.hx rfl (X.d hd) rfl hv hl q)
theorem g_astore (X : St Z n0 p l e R s m args below meth c own nm bytes ml ret T locs cells slots h) {k : Nat} {v : Value} (hd : decode bytes pc = .ok (.astore k, 2)) (hp : pc + 2 = pc') (hv : v.isRef = true) (hl : storeLocals L k v = some L') (k : Go p e below K (T.setTop (mkF m pc' L' S))) : Go p e below K (T.setTop (mkF m pc L (v :: S))) := by
  subst hp; exact k.of (fun _ q => XS.astore X.X.here X.hx rfl (X.d hd) rfl hv hl q)
theorem g_iinc (X : St Z n0 p l e R s m args below meth c own nm bytes ml ret T locs cells slots h) {k : Nat} {z : Int} {v : Int32} (hd : decode bytes pc = .ok (.iinc k z, 3)) (hp : pc + 3 = pc') (hl : L[k]? = some (.val (.int v))) (hl' : storeLocals L k (.int (v + Int32.ofInt z)) = some L') (k : Go p e below K (T.setTop (mkF m pc' L' S))) : Go p e below K (T.setTop (mkF m pc L S)) := by
  subst hp; exact k.of (fun _ q => XS.iinc X.X.here X.hx rfl (X.d hd) hl hl' q)
theorem g_iconst (X : St Z n0 p l e R s m args below meth c own nm bytes ml ret T locs cells slots h) {i : Int} {v : Int32} (hd : decode bytes pc = .ok (.iconst i, 1)) (hp : pc + 1 = pc') (hv : Int32.ofInt i = v) (k : Go p e below K (T.setTop (mkF m pc' L (.int v :: S)))) : Go p e below K (T.setTop (mkF m pc L S)) := by
  subst hp; exact k.of (fun _ q => XS.iconst X.X.here X.hx rfl (X.d hd) (hv ▸ q))
theorem g_bipush (X : St Z n0 p l e R s m args below meth c own nm bytes ml ret T locs cells slots h) {i : Int} {v : Int32} (hd : decode bytes pc = .ok (.bipush i, 2)) (hp : pc + 2 = pc') (hv : (Int8.ofInt i).toInt32 = v) (k : Go p e below K (T.setTop (mkF m pc' L (.int v :: S)))) : Go p e below K (T.setTop (mkF m pc L S)) := by
  subst hp; exact k.of (fun _ q => XS.bipush X.X.here X.hx rfl (X.d hd) (hv ▸ q))
theorem g_sipush (X : St Z n0 p l e R s m args below meth c own nm bytes ml ret T locs cells slots h) {i : Int} {v : Int32} (hd : decode bytes pc = .ok (.sipush i, 3)) (hp : pc + 3 = pc') (hv : (Int16.ofInt i).toInt32 = v) (k : Go p e below K (T.setTop (mkF m pc' L (.int v :: S)))) : Go p e below K (T.setTop (mkF m pc L S)) := by
  subst hp; exact k.of (fun _ q => XS.sipush X.X.here X.hx rfl (X.d hd) (hv ▸ q))
theorem g_lconst (X : St Z n0 p l e R s m args below meth c own nm bytes ml ret T locs cells slots h) {i : Fin 2} {v : Int64} (hd : decode bytes pc = .ok (.lconst i, 1)) (hp : pc + 1 = pc') (hv : Int64.ofNat i = v) (k : Go p e below K (T.setTop (mkF m pc' L (.long v :: S)))) : Go p e below K (T.setTop (mkF m pc L S)) := by
  subst hp; exact k.of (fun _ q => XS.lconst X.X.here X.hx rfl (X.d hd) (hv ▸ q))
theorem g_aconst_null (X : St Z n0 p l e R s m args below meth c own nm bytes ml ret T locs cells slots h) (hd : decode bytes pc = .ok (.aconst_null, 1)) (hp : pc + 1 = pc') (k : Go p e below K (T.setTop (mkF m pc' L (.null :: S)))) : Go p e below K (T.setTop (mkF m pc L S)) := by
  subst hp; exact k.of (fun _ q => XS.aconstNull X.X.here X.hx rfl (X.d hd) q)
theorem g_iadd (X : St Z n0 p l e R s m args below meth c own nm bytes ml ret T locs cells slots h) {x y : Int32} (hd : decode bytes pc = .ok (.iadd, 1)) (hp : pc + 1 = pc') (k : Go p e below K (T.setTop (mkF m pc' L (.int (x + y) :: S)))) : Go p e below K (T.setTop (mkF m pc L (.int y :: .int x :: S))) := by
  subst hp; exact k.of (fun _ q => XS.iadd X.X.here X.hx rfl (X.d hd) rfl q)
theorem g_isub (X : St Z n0 p l e R s m args below meth c own nm bytes ml ret T locs cells slots h) {x y : Int32} (hd : decode bytes pc = .ok (.isub, 1)) (hp : pc + 1 = pc') (k : Go p e below K (T.setTop (mkF m pc' L (.int (x - y) :: S)))) : Go p e below K (T.setTop (mkF m pc L (.int y :: .int x :: S))) := by
  subst hp; exact k.of (fun _ q => XS.isub X.X.here X.hx rfl (X.d hd) rfl q)
theorem g_imul (X : St Z n0 p l e R s m args below meth c own nm bytes ml ret T locs cells slots h) {x y : Int32} (hd : decode bytes pc = .ok (.imul, 1)) (hp : pc + 1 = pc') (k : Go p e below K (T.setTop (mkF m pc' L (.int (x * y) :: S)))) : Go p e below K (T.setTop (mkF m pc L (.int y :: .int x :: S))) := by
  subst hp; exact k.of (fun _ q => XS.imul X.X.here X.hx rfl (X.d hd) rfl q)
theorem g_iand (X : St Z n0 p l e R s m args below meth c own nm bytes ml ret T locs cells slots h) {x y : Int32} (hd : decode bytes pc = .ok (.iand, 1)) (hp : pc + 1 = pc') (k : Go p e below K (T.setTop (mkF m pc' L (.int (x &&& y) :: S)))) : Go p e below K (T.setTop (mkF m pc L (.int y :: .int x :: S))) := by
  subst hp; exact k.of (fun _ q => XS.iand X.X.here X.hx rfl (X.d hd) rfl q)
theorem g_ior (X : St Z n0 p l e R s m args below meth c own nm bytes ml ret T locs cells slots h) {x y : Int32} (hd : decode bytes pc = .ok (.ior, 1)) (hp : pc + 1 = pc') (k : Go p e below K (T.setTop (mkF m pc' L (.int (x ||| y) :: S)))) : Go p e below K (T.setTop (mkF m pc L (.int y :: .int x :: S))) := by
  subst hp; exact k.of (fun _ q => XS.ior X.X.here X.hx rfl (X.d hd) rfl q)
theorem g_ixor (X : St Z n0 p l e R s m args below meth c own nm bytes ml ret T locs cells slots h) {x y : Int32} (hd : decode bytes pc = .ok (.ixor, 1)) (hp : pc + 1 = pc') (k : Go p e below K (T.setTop (mkF m pc' L (.int (x ^^^ y) :: S)))) : Go p e below K (T.setTop (mkF m pc L (.int y :: .int x :: S))) := by
  subst hp; exact k.of (fun _ q => XS.ixor X.X.here X.hx rfl (X.d hd) rfl q)
theorem g_ishl (X : St Z n0 p l e R s m args below meth c own nm bytes ml ret T locs cells slots h) {x y : Int32} (hd : decode bytes pc = .ok (.ishl, 1)) (hp : pc + 1 = pc') (k : Go p e below K (T.setTop (mkF m pc' L (.int (x <<< (y &&& 31)) :: S)))) : Go p e below K (T.setTop (mkF m pc L (.int y :: .int x :: S))) := by
  subst hp; exact k.of (fun _ q => XS.ishl X.X.here X.hx rfl (X.d hd) rfl q)
theorem g_ishr (X : St Z n0 p l e R s m args below meth c own nm bytes ml ret T locs cells slots h) {x y : Int32} (hd : decode bytes pc = .ok (.ishr, 1)) (hp : pc + 1 = pc') (k : Go p e below K (T.setTop (mkF m pc' L (.int (x >>> (y &&& 31)) :: S)))) : Go p e below K (T.setTop (mkF m pc L (.int y :: .int x :: S))) := by
  subst hp; exact k.of (fun _ q => XS.ishr X.X.here X.hx rfl (X.d hd) rfl q)
theorem g_iushr (X : St Z n0 p l e R s m args below meth c own nm bytes ml ret T locs cells slots h) {x y : Int32} (hd : decode bytes pc = .ok (.iushr, 1)) (hp : pc + 1 = pc') (k : Go p e below K (T.setTop (mkF m pc' L (.int ((x.toUInt32 >>> (y &&& 31).toUInt32).toInt32) :: S)))) : Go p e below K (T.setTop (mkF m pc L (.int y :: .int x :: S))) := by
  subst hp; exact k.of (fun _ q => XS.iushr X.X.here X.hx rfl (X.d hd) rfl q)
theorem g_idiv (X : St Z n0 p l e R s m args below meth c own nm bytes ml ret T locs cells slots h) {x y : Int32} (hd : decode bytes pc = .ok (.idiv, 1)) (hp : pc + 1 = pc') (hy : y ≠ 0) (k : Go p e below K (T.setTop (mkF m pc' L (.int (x / y) :: S)))) : Go p e below K (T.setTop (mkF m pc L (.int y :: .int x :: S))) := by
  subst hp; exact k.of (fun _ q => XS.idiv X.X.here X.hx rfl (X.d hd) rfl hy q)
theorem g_irem (X : St Z n0 p l e R s m args below meth c own nm bytes ml ret T locs cells slots h) {x y : Int32} (hd : decode bytes pc = .ok (.irem, 1)) (hp : pc + 1 = pc') (hy : y ≠ 0) (k : Go p e below K (T.setTop (mkF m pc' L (.int (x % y) :: S)))) : Go p e below K (T.setTop (mkF m pc L (.int y :: .int x :: S))) := by
  subst hp; exact k.of (fun _ q => iremM X.X X.hx rfl (X.d hd) rfl hy q)
theorem g_ladd (X : St Z n0 p l e R s m args below meth c own nm bytes ml ret T locs cells slots h) {x y : Int64} (hd : decode bytes pc = .ok (.ladd, 1)) (hp : pc + 1 = pc') (k : Go p e below K (T.setTop (mkF m pc' L (.long (x + y) :: S)))) : Go p e below K (T.setTop (mkF m pc L (.long y :: .long x :: S))) := by
  subst hp; exact k.of (fun _ q => XS.ladd X.X.here X.hx rfl (X.d hd) rfl q)
theorem g_lsub (X : St Z n0 p l e R s m args below meth c own nm bytes ml ret T locs cells slots h) {x y : Int64} (hd : decode bytes pc = .ok (.lsub, 1)) (hp : pc + 1 = pc') (k : Go p e below K (T.setTop (mkF m pc' L (.long (x - y) :: S)))) : Go p e below K (T.setTop (mkF m pc L (.long y :: .long x :: S))) := by
  subst hp; exact k.of (fun _ q => XS.lsub X.X.here X.hx rfl (X.d hd) rfl q)
theorem g_lmul (X : St Z n0 p l e R s m args below meth c own nm bytes ml ret T locs cells slots h) {x y : Int64} (hd : decode bytes pc = .ok (.lmul, 1)) (hp : pc + 1 = pc') (k : Go p e below K (T.setTop (mkF m pc' L (.long (x * y) :: S)))) : Go p e below K (T.setTop (mkF m pc L (.long y :: .long x :: S))) := by
  subst hp; exact k.of (fun _ q => XS.lmul X.X.here X.hx rfl (X.d hd) rfl q)
theorem g_land (X : St Z n0 p l e R s m args below meth c own nm bytes ml ret T locs cells slots h) {x y : Int64} (hd : decode bytes pc = .ok (.land, 1)) (hp : pc + 1 = pc') (k : Go p e below K (T.setTop (mkF m pc' L (.long (x &&& y) :: S)))) : Go p e below K (T.setTop (mkF m pc L (.long y :: .long x :: S))) := by
  subst hp; exact k.of (fun _ q => XS.land X.X.here X.hx rfl (X.d hd) rfl q)
theorem g_lor (X : St Z n0 p l e R s m args below meth c own nm bytes ml ret T locs cells slots h) {x y : Int64} (hd : decode bytes pc = .ok (.lor, 1)) (hp : pc + 1 = pc') (k : Go p e below K (T.setTop (mkF m pc' L (.long (x ||| y) :: S)))) : Go p e below K (T.setTop (mkF m pc L (.long y :: .long x :: S))) := by
  subst hp; exact k.of (fun _ q => XS.lor X.X.here X.hx rfl (X.d hd) rfl q)
theorem g_lxor (X : St Z n0 p l e R s m args below meth c own nm bytes ml ret T locs cells slots h) {x y : Int64} (hd : decode bytes pc = .ok (.lxor, 1)) (hp : pc + 1 = pc') (k : Go p e below K (T.setTop (mkF m pc' L (.long (x ^^^ y) :: S)))) : Go p e below K (T.setTop (mkF m pc L (.long y :: .long x :: S))) := by
  subst hp; exact k.of (fun _ q => XS.lxor X.X.here X.hx rfl (X.d hd) rfl q)
theorem g_ldiv (X : St Z n0 p l e R s m args below meth c own nm bytes ml ret T locs cells slots h) {x y : Int64} (hd : decode bytes pc = .ok (.ldiv, 1)) (hp : pc + 1 = pc') (hy : y ≠ 0) (k : Go p e below K (T.setTop (mkF m pc' L (.long (x / y) :: S)))) : Go p e below K (T.setTop (mkF m pc L (.long y :: .long x :: S))) := by
  subst hp; exact k.of (fun _ q => XS.ldiv X.X.here X.hx rfl (X.d hd) rfl hy q)
theorem g_lrem (X : St Z n0 p l e R s m args below meth c own nm bytes ml ret T locs cells slots h) {x y : Int64} (hd : decode bytes pc = .ok (.lrem, 1)) (hp : pc + 1 = pc') (hy : y ≠ 0) (k : Go p e below K (T.setTop (mkF m pc' L (.long (x - (x / y) * y) :: S)))) : Go p e below K (T.setTop (mkF m pc L (.long y :: .long x :: S))) := by
  subst hp; exact k.of (fun _ q => XS.lrem X.X.here X.hx rfl (X.d hd) rfl hy q)
theorem g_lshl (X : St Z n0 p l e R s m args below meth c own nm bytes ml ret T locs cells slots h) {x : Int64} {y : Int32} (hd : decode bytes pc = .ok (.lshl, 1)) (hp : pc + 1 = pc') (k : Go p e below K (T.setTop (mkF m pc' L (.long (x <<< (y &&& 0x3f).toInt64) :: S)))) : Go p e below K (T.setTop (mkF m pc L (.int y :: .long x :: S))) := by
  subst hp; exact k.of (fun _ q => XS.lshl X.X.here X.hx rfl (X.d hd) rfl q)
theorem g_lshr (X : St Z n0 p l e R s m args below meth c own nm bytes ml ret T locs cells slots h) {x : Int64} {y : Int32} (hd : decode bytes pc = .ok (.lshr, 1)) (hp : pc + 1 = pc') (k : Go p e below K (T.setTop (mkF m pc' L (.long (x >>> (y &&& 0x3f).toInt64) :: S)))) : Go p e below K (T.setTop (mkF m pc L (.int y :: .long x :: S))) := by
  subst hp; exact k.of (fun _ q => XS.lshr X.X.here X.hx rfl (X.d hd) rfl q)
theorem g_lushr (X : St Z n0 p l e R s m args below meth c own nm bytes ml ret T locs cells slots h) {x : Int64} {y : Int32} (hd : decode bytes pc = .ok (.lushr, 1)) (hp : pc + 1 = pc') (k : Go p e below K (T.setTop (mkF m pc' L (.long ((x.toUInt64 >>> (y &&& 0x3f).toInt64.toUInt64).toInt64) :: S)))) : Go p e below K (T.setTop (mkF m pc L (.int y :: .long x :: S))) := by
  subst hp; exact k.of (fun _ q => XS.lushr X.X.here X.hx rfl (X.d hd) rfl q)
theorem g_i2b (X : St Z n0 p l e R s m args below meth c own nm bytes ml ret T locs cells slots h) {v : Int32} (hd : decode bytes pc = .ok (.i2b, 1)) (hp : pc + 1 = pc') (k : Go p e below K (T.setTop (mkF m pc' L (.int (v.toInt8.toInt32) :: S)))) : Go p e below K (T.setTop (mkF m pc L (.int v :: S))) := by
  subst hp; exact k.of (fun _ q => XS.i2b X.X.here X.hx rfl (X.d hd) rfl q)
theorem g_i2c (X : St Z n0 p l e R s m args below meth c own nm bytes ml ret T locs cells slots h) {v : Int32} (hd : decode bytes pc = .ok (.i2c, 1)) (hp : pc + 1 = pc') (k : Go p e below K (T.setTop (mkF m pc' L (.int (v.toUInt32.toUInt16.toUInt32.toInt32) :: S)))) : Go p e below K (T.setTop (mkF m pc L (.int v :: S))) := by
  subst hp; exact k.of (fun _ q => XS.i2c X.X.here X.hx rfl (X.d hd) rfl q)
theorem g_i2s (X : St Z n0 p l e R s m args below meth c own nm bytes ml ret T locs cells slots h) {v : Int32} (hd : decode bytes pc = .ok (.i2s, 1)) (hp : pc + 1 = pc') (k : Go p e below K (T.setTop (mkF m pc' L (.int (v.toInt16.toInt32) :: S)))) : Go p e below K (T.setTop (mkF m pc L (.int v :: S))) := by
  subst hp; exact k.of (fun _ q => XS.i2s X.X.here X.hx rfl (X.d hd) rfl q)
theorem g_ineg (X : St Z n0 p l e R s m args below meth c own nm bytes ml ret T locs cells slots h) {v : Int32} (hd : decode bytes pc = .ok (.ineg, 1)) (hp : pc + 1 = pc') (k : Go p e below K (T.setTop (mkF m pc' L (.int (-v) :: S)))) : Go p e below K (T.setTop (mkF m pc L (.int v :: S))) := by
  subst hp; exact k.of (fun _ q => XS.ineg X.X.here X.hx rfl (X.d hd) rfl q)
theorem g_i2l (X : St Z n0 p l e R s m args below meth c own nm bytes ml ret T locs cells slots h) {v : Int32} (hd : decode bytes pc = .ok (.i2l, 1)) (hp : pc + 1 = pc') (k : Go p e below K (T.setTop (mkF m pc' L (.long (v.toInt64) :: S)))) : Go p e below K (T.setTop (mkF m pc L (.int v :: S))) := by
  subst hp; exact k.of (fun _ q => XS.i2l X.X.here X.hx rfl (X.d hd) rfl q)
theorem g_l2i (X : St Z n0 p l e R s m args below meth c own nm bytes ml ret T locs cells slots h) {v : Int64} (hd : decode bytes pc = .ok (.l2i, 1)) (hp : pc + 1 = pc') (k : Go p e below K (T.setTop (mkF m pc' L (.int (v.toInt32) :: S)))) : Go p e below K (T.setTop (mkF m pc L (.long v :: S))) := by
  subst hp; exact k.of (fun _ q => XS.l2i X.X.here X.hx rfl (X.d hd) rfl q)
theorem g_lneg (X : St Z n0 p l e R s m args below meth c own nm bytes ml ret T locs cells slots h) {v : Int64} (hd : decode bytes pc = .ok (.lneg, 1)) (hp : pc + 1 = pc') (k : Go p e below K (T.setTop (mkF m pc' L (.long (-v) :: S)))) : Go p e below K (T.setTop (mkF m pc L (.long v :: S))) := by
  subst hp; exact k.of (fun _ q => XS.lneg X.X.here X.hx rfl (X.d hd) rfl q)
theorem g_lcmp (X : St Z n0 p l e R s m args below meth c own nm bytes ml ret T locs cells slots h) {x y : Int64} (hd : decode bytes pc = .ok (.lcmp, 1)) (hp : pc + 1 = pc') (k : Go p e below K (T.setTop (mkF m pc' L (.int (lcmpW x y) :: S)))) : Go p e below K (T.setTop (mkF m pc L (.long y :: .long x :: S))) := by
  subst hp; exact k.of (fun _ q => XS.lcmp X.X.here X.hx rfl (X.d hd) rfl q)
theorem g_dup (X : St Z n0 p l e R s m args below meth c own nm bytes ml ret T locs cells slots h) {v : Value} (hd : decode bytes pc = .ok (.dup, 1)) (hp : pc + 1 = pc') (hc : v.category = 1) (k : Go p e below K (T.setTop (mkF m pc' L (v :: v :: S)))) : Go p e below K (T.setTop (mkF m pc L (v :: S))) := by
  subst hp; exact k.of (fun _ q => XS.dup X.X.here X.hx rfl (X.d hd) rfl hc q)
theorem g_pop (X : St Z n0 p l e R s m args below meth c own nm bytes ml ret T locs cells slots h) {v : Value} (hd : decode bytes pc = .ok (.pop, 1)) (hp : pc + 1 = pc') (hc : v.category = 1) (k : Go p e below K (T.setTop (mkF m pc' L S))) : Go p e below K (T.setTop (mkF m pc L (v :: S))) := by
  subst hp; exact k.of (fun _ q => XS.pop X.X.here X.hx rfl (X.d hd) rfl hc q)
theorem g_dup_x1 (X : St Z n0 p l e R s m args below meth c own nm bytes ml ret T locs cells slots h) {v w : Value} (hd : decode bytes pc = .ok (.dup_x1, 1)) (hp : pc + 1 = pc') (hc : v.category = 1) (hc2 : w.category = 1) (k : Go p e below K (T.setTop (mkF m pc' L (v :: w :: v :: S)))) : Go p e below K (T.setTop (mkF m pc L (v :: w :: S))) := by
  subst hp; exact k.of (fun _ q => XS.dupX1 X.X.here X.hx rfl (X.d hd) rfl hc hc2 q)
theorem g_goto (X : St Z n0 p l e R s m args below meth c own nm bytes ml ret T locs cells slots h) {o : Int} (hd : decode bytes pc = .ok (.goto o, 3)) (ho : (pc : Int) + o = (pt : Int)) (k : Go p e below K (T.setTop (mkF m pt L S))) : Go p e below K (T.setTop (mkF m pc L S)) :=
  k.of (fun _ q => XS.goto X.X.here X.hx rfl rfl (X.d hd) (ho ▸ Int.natCast_nonneg _) (by rw [ho]; rfl) q)
theorem g_icmp_eq_t (X : St Z n0 p l e R s m args below meth c own nm bytes ml ret T locs cells slots h) {x y : Int32} {o : Int} (hd : decode bytes pc = .ok (.if_icmp .eq o, 3)) (ho : (pc : Int) + o = (pt : Int)) (hc : x = y) (k : Go p e below K (T.setTop (mkF m pt L S))) : Go p e below K (T.setTop (mkF m pc L (.int y :: .int x :: S))) :=
  k.of (fun _ q => XS.icmpYes X.X.here X.hx rfl rfl (X.d hd) rfl ((teq hc).1) (ho ▸ Int.natCast_nonneg _) (by rw [ho]; rfl) q)
theorem g_icmp_eq_f (X : St Z n0 p l e R s m args below meth c own nm bytes ml ret T locs cells slots h) {x y : Int32} {o : Int} (hd : decode bytes pc = .ok (.if_icmp .eq o, 3)) (hp : pc + 3 = pc') (hc : ¬ x = y) (k : Go p e below K (T.setTop (mkF m pc' L S))) : Go p e below K (T.setTop (mkF m pc L (.int y :: .int x :: S))) := by
  subst hp; exact k.of (fun _ q => XS.icmpNo X.X.here X.hx rfl (X.d hd) rfl ((feq hc).1) q)
theorem g_icmp_eq (X : St Z n0 p l e R s m args below meth c own nm bytes ml ret T locs cells slots h) {x y : Int32} {o : Int} (hd : decode bytes pc = .ok (.if_icmp .eq o, 3)) (ho : (pc : Int) + o = (pt : Int)) (hp : pc + 3 = pc') (yes : x = y → Go p e below K (T.setTop (mkF m pt L S))) (no : ¬ x = y → Go p e below K (T.setTop (mkF m pc' L S))) : Go p e below K (T.setTop (mkF m pc L (.int y :: .int x :: S))) := by
  by_cases hc : x = y
  · exact g_icmp_eq_t X hd ho hc (yes hc)
  · exact g_icmp_eq_f X hd hp hc (no hc)
theorem g_if_eq_t (X : St Z n0 p l e R s m args below meth c own nm bytes ml ret T locs cells slots h) {x : Int32} {o : Int} (hd : decode bytes pc = .ok (.ifCond .eq o, 3)) (ho : (pc : Int) + o = (pt : Int)) (hc : x = 0) (k : Go p e below K (T.setTop (mkF m pt L S))) : Go p e below K (T.setTop (mkF m pc L (.int x :: S))) :=
  k.of (fun _ q => XS.ifYes X.X.here X.hx rfl rfl (X.d hd) rfl ((if0 _ _).trans ((teq hc).1)) (ho ▸ Int.natCast_nonneg _) (by rw [ho]; rfl) q)
theorem g_if_eq_f (X : St Z n0 p l e R s m args below meth c own nm bytes ml ret T locs cells slots h) {x : Int32} {o : Int} (hd : decode bytes pc = .ok (.ifCond .eq o, 3)) (hp : pc + 3 = pc') (hc : ¬ x = 0) (k : Go p e below K (T.setTop (mkF m pc' L S))) : Go p e below K (T.setTop (mkF m pc L (.int x :: S))) := by
  subst hp; exact k.of (fun _ q => XS.ifNo X.X.here X.hx rfl (X.d hd) rfl ((if0 _ _).trans ((feq hc).1)) q)
theorem g_if_eq (X : St Z n0 p l e R s m args below meth c own nm bytes ml ret T locs cells slots h) {x : Int32} {o : Int} (hd : decode bytes pc = .ok (.ifCond .eq o, 3)) (ho : (pc : Int) + o = (pt : Int)) (hp : pc + 3 = pc') (yes : x = 0 → Go p e below K (T.setTop (mkF m pt L S))) (no : ¬ x = 0 → Go p e below K (T.setTop (mkF m pc' L S))) : Go p e below K (T.setTop (mkF m pc L (.int x :: S))) := by
  by_cases hc : x = 0
  · exact g_if_eq_t X hd ho hc (yes hc)
  · exact g_if_eq_f X hd hp hc (no hc)
theorem g_icmp_ne_t (X : St Z n0 p l e R s m args below meth c own nm bytes ml ret T locs cells slots h) {x y : Int32} {o : Int} (hd : decode bytes pc = .ok (.if_icmp .ne o, 3)) (ho : (pc : Int) + o = (pt : Int)) (hc : ¬ x = y) (k : Go p e below K (T.setTop (mkF m pt L S))) : Go p e below K (T.setTop (mkF m pc L (.int y :: .int x :: S))) :=
  k.of (fun _ q => XS.icmpYes X.X.here X.hx rfl rfl (X.d hd) rfl ((feq hc).2) (ho ▸ Int.natCast_nonneg _) (by rw [ho]; rfl) q)
theorem g_icmp_ne_f (X : St Z n0 p l e R s m args below meth c own nm bytes ml ret T locs cells slots h) {x y : Int32} {o : Int} (hd : decode bytes pc = .ok (.if_icmp .ne o, 3)) (hp : pc + 3 = pc') (hc : x = y) (k : Go p e below K (T.setTop (mkF m pc' L S))) : Go p e below K (T.setTop (mkF m pc L (.int y :: .int x :: S))) := by
  subst hp; exact k.of (fun _ q => XS.icmpNo X.X.here X.hx rfl (X.d hd) rfl ((teq hc).2) q)
theorem g_icmp_ne (X : St Z n0 p l e R s m args below meth c own nm bytes ml ret T locs cells slots h) {x y : Int32} {o : Int} (hd : decode bytes pc = .ok (.if_icmp .ne o, 3)) (ho : (pc : Int) + o = (pt : Int)) (hp : pc + 3 = pc') (yes : ¬ x = y → Go p e below K (T.setTop (mkF m pt L S))) (no : x = y → Go p e below K (T.setTop (mkF m pc' L S))) : Go p e below K (T.setTop (mkF m pc L (.int y :: .int x :: S))) := by
  by_cases hc : x = y
  · exact g_icmp_ne_f X hd hp hc (no hc)
  · exact g_icmp_ne_t X hd ho hc (yes hc)
theorem g_if_ne_t (X : St Z n0 p l e R s m args below meth c own nm bytes ml ret T locs cells slots h) {x : Int32} {o : Int} (hd : decode bytes pc = .ok (.ifCond .ne o, 3)) (ho : (pc : Int) + o = (pt : Int)) (hc : ¬ x = 0) (k : Go p e below K (T.setTop (mkF m pt L S))) : Go p e below K (T.setTop (mkF m pc L (.int x :: S))) :=
  k.of (fun _ q => XS.ifYes X.X.here X.hx rfl rfl (X.d hd) rfl ((if0 _ _).trans ((feq hc).2)) (ho ▸ Int.natCast_nonneg _) (by rw [ho]; rfl) q)
theorem g_if_ne_f (X : St Z n0 p l e R s m args below meth c own nm bytes ml ret T locs cells slots h) {x : Int32} {o : Int} (hd : decode bytes pc = .ok (.ifCond .ne o, 3)) (hp : pc + 3 = pc') (hc : x = 0) (k : Go p e below K (T.setTop (mkF m pc' L S))) : Go p e below K (T.setTop (mkF m pc L (.int x :: S))) := by
  subst hp; exact k.of (fun _ q => XS.ifNo X.X.here X.hx rfl (X.d hd) rfl ((if0 _ _).trans ((teq hc).2)) q)
theorem g_if_ne (X : St Z n0 p l e R s m args below meth c own nm bytes ml ret T locs cells slots h) {x : Int32} {o : Int} (hd : decode bytes pc = .ok (.ifCond .ne o, 3)) (ho : (pc : Int) + o = (pt : Int)) (hp : pc + 3 = pc') (yes : ¬ x = 0 → Go p e below K (T.setTop (mkF m pt L S))) (no : x = 0 → Go p e below K (T.setTop (mkF m pc' L S))) : Go p e below K (T.setTop (mkF m pc L (.int x :: S))) := by
  by_cases hc : x = 0
  · exact g_if_ne_f X hd hp hc (no hc)
  · exact g_if_ne_t X hd ho hc (yes hc)
theorem g_icmp_lt_t (X : St Z n0 p l e R s m args below meth c own nm bytes ml ret T locs cells slots h) {x y : Int32} {o : Int} (hd : decode bytes pc = .ok (.if_icmp .lt o, 3)) (ho : (pc : Int) + o = (pt : Int)) (hc : x < y) (k : Go p e below K (T.setTop (mkF m pt L S))) : Go p e below K (T.setTop (mkF m pc L (.int y :: .int x :: S))) :=
  k.of (fun _ q => XS.icmpYes X.X.here X.hx rfl rfl (X.d hd) rfl ((tlt hc).1) (ho ▸ Int.natCast_nonneg _) (by rw [ho]; rfl) q)
theorem g_icmp_lt_f (X : St Z n0 p l e R s m args below meth c own nm bytes ml ret T locs cells slots h) {x y : Int32} {o : Int} (hd : decode bytes pc = .ok (.if_icmp .lt o, 3)) (hp : pc + 3 = pc') (hc : ¬ x < y) (k : Go p e below K (T.setTop (mkF m pc' L S))) : Go p e below K (T.setTop (mkF m pc L (.int y :: .int x :: S))) := by
  subst hp; exact k.of (fun _ q => XS.icmpNo X.X.here X.hx rfl (X.d hd) rfl ((flt hc).1) q)
theorem g_icmp_lt (X : St Z n0 p l e R s m args below meth c own nm bytes ml ret T locs cells slots h) {x y : Int32} {o : Int} (hd : decode bytes pc = .ok (.if_icmp .lt o, 3)) (ho : (pc : Int) + o = (pt : Int)) (hp : pc + 3 = pc') (yes : x < y → Go p e below K (T.setTop (mkF m pt L S))) (no : ¬ x < y → Go p e below K (T.setTop (mkF m pc' L S))) : Go p e below K (T.setTop (mkF m pc L (.int y :: .int x :: S))) := by
  by_cases hc : x < y
  · exact g_icmp_lt_t X hd ho hc (yes hc)
  · exact g_icmp_lt_f X hd hp hc (no hc)
theorem g_if_lt_t (X : St Z n0 p l e R s m args below meth c own nm bytes ml ret T locs cells slots h) {x : Int32} {o : Int} (hd : decode bytes pc = .ok (.ifCond .lt o, 3)) (ho : (pc : Int) + o = (pt : Int)) (hc : x < 0) (k : Go p e below K (T.setTop (mkF m pt L S))) : Go p e below K (T.setTop (mkF m pc L (.int x :: S))) :=
  k.of (fun _ q => XS.ifYes X.X.here X.hx rfl rfl (X.d hd) rfl ((if0 _ _).trans ((tlt hc).1)) (ho ▸ Int.natCast_nonneg _) (by rw [ho]; rfl) q)
theorem g_if_lt_f (X : St Z n0 p l e R s m args below meth c own nm bytes ml ret T locs cells slots h) {x : Int32} {o : Int} (hd : decode bytes pc = .ok (.ifCond .lt o, 3)) (hp : pc + 3 = pc') (hc : ¬ x < 0) (k : Go p e below K (T.setTop (mkF m pc' L S))) : Go p e below K (T.setTop (mkF m pc L (.int x :: S))) := by
  subst hp; exact k.of (fun _ q => XS.ifNo X.X.here X.hx rfl (X.d hd) rfl ((if0 _ _).trans ((flt hc).1)) q)
theorem g_if_lt (X : St Z n0 p l e R s m args below meth c own nm bytes ml ret T locs cells slots h) {x : Int32} {o : Int} (hd : decode bytes pc = .ok (.ifCond .lt o, 3)) (ho : (pc : Int) + o = (pt : Int)) (hp : pc + 3 = pc') (yes : x < 0 → Go p e below K (T.setTop (mkF m pt L S))) (no : ¬ x < 0 → Go p e below K (T.setTop (mkF m pc' L S))) : Go p e below K (T.setTop (mkF m pc L (.int x :: S))) := by
  by_cases hc : x < 0
  · exact g_if_lt_t X hd ho hc (yes hc)
  · exact g_if_lt_f X hd hp hc (no hc)
theorem g_icmp_ge_t (X : St Z n0 p l e R s m args below meth c own nm bytes ml ret T locs cells slots h) {x y : Int32} {o : Int} (hd : decode bytes pc = .ok (.if_icmp .ge o, 3)) (ho : (pc : Int) + o = (pt : Int)) (hc : ¬ x < y) (k : Go p e below K (T.setTop (mkF m pt L S))) : Go p e below K (T.setTop (mkF m pc L (.int y :: .int x :: S))) :=
  k.of (fun _ q => XS.icmpYes X.X.here X.hx rfl rfl (X.d hd) rfl ((flt hc).2.1) (ho ▸ Int.natCast_nonneg _) (by rw [ho]; rfl) q)
theorem g_icmp_ge_f (X : St Z n0 p l e R s m args below meth c own nm bytes ml ret T locs cells slots h) {x y : Int32} {o : Int} (hd : decode bytes pc = .ok (.if_icmp .ge o, 3)) (hp : pc + 3 = pc') (hc : x < y) (k : Go p e below K (T.setTop (mkF m pc' L S))) : Go p e below K (T.setTop (mkF m pc L (.int y :: .int x :: S))) := by
  subst hp; exact k.of (fun _ q => XS.icmpNo X.X.here X.hx rfl (X.d hd) rfl ((tlt hc).2.1) q)
theorem g_icmp_ge (X : St Z n0 p l e R s m args below meth c own nm bytes ml ret T locs cells slots h) {x y : Int32} {o : Int} (hd : decode bytes pc = .ok (.if_icmp .ge o, 3)) (ho : (pc : Int) + o = (pt : Int)) (hp : pc + 3 = pc') (yes : ¬ x < y → Go p e below K (T.setTop (mkF m pt L S))) (no : x < y → Go p e below K (T.setTop (mkF m pc' L S))) : Go p e below K (T.setTop (mkF m pc L (.int y :: .int x :: S))) := by
  by_cases hc : x < y
  · exact g_icmp_ge_f X hd hp hc (no hc)
  · exact g_icmp_ge_t X hd ho hc (yes hc)
theorem g_if_ge_t (X : St Z n0 p l e R s m args below meth c own nm bytes ml ret T locs cells slots h) {x : Int32} {o : Int} (hd : decode bytes pc = .ok (.ifCond .ge o, 3)) (ho : (pc : Int) + o = (pt : Int)) (hc : ¬ x < 0) (k : Go p e below K (T.setTop (mkF m pt L S))) : Go p e below K (T.setTop (mkF m pc L (.int x :: S))) :=
  k.of (fun _ q => XS.ifYes X.X.here X.hx rfl rfl (X.d hd) rfl ((if0 _ _).trans ((flt hc).2.1)) (ho ▸ Int.natCast_nonneg _) (by rw [ho]; rfl) q)
theorem g_if_ge_f (X : St Z n0 p l e R s m args below meth c own nm bytes ml ret T locs cells slots h) {x : Int32} {o : Int} (hd : decode bytes pc = .ok (.ifCond .ge o, 3)) (hp : pc + 3 = pc') (hc : x < 0) (k : Go p e below K (T.setTop (mkF m pc' L S))) : Go p e below K (T.setTop (mkF m pc L (.int x :: S))) := by
  subst hp; exact k.of (fun _ q => XS.ifNo X.X.here X.hx rfl (X.d hd) rfl ((if0 _ _).trans ((tlt hc).2.1)) q)
theorem g_if_ge (X : St Z n0 p l e R s m args below meth c own nm bytes ml ret T locs cells slots h) {x : Int32} {o : Int} (hd : decode bytes pc = .ok (.ifCond .ge o, 3)) (ho : (pc : Int) + o = (pt : Int)) (hp : pc + 3 = pc') (yes : ¬ x < 0 → Go p e below K (T.setTop (mkF m pt L S))) (no : x < 0 → Go p e below K (T.setTop (mkF m pc' L S))) : Go p e below K (T.setTop (mkF m pc L (.int x :: S))) := by
  by_cases hc : x < 0
  · exact g_if_ge_f X hd hp hc (no hc)
  · exact g_if_ge_t X hd ho hc (yes hc)
theorem g_icmp_gt_t (X : St Z n0 p l e R s m args below meth c own nm bytes ml ret T locs cells slots h) {x y : Int32} {o : Int} (hd : decode bytes pc = .ok (.if_icmp .gt o, 3)) (ho : (pc : Int) + o = (pt : Int)) (hc : y < x) (k : Go p e below K (T.setTop (mkF m pt L S))) : Go p e below K (T.setTop (mkF m pc L (.int y :: .int x :: S))) :=
  k.of (fun _ q => XS.icmpYes X.X.here X.hx rfl rfl (X.d hd) rfl ((tlt hc).2.2.1) (ho ▸ Int.natCast_nonneg _) (by rw [ho]; rfl) q)
theorem g_icmp_gt_f (X : St Z n0 p l e R s m args below meth c own nm bytes ml ret T locs cells slots h) {x y : Int32} {o : Int} (hd : decode bytes pc = .ok (.if_icmp .gt o, 3)) (hp : pc + 3 = pc') (hc : ¬ y < x) (k : Go p e below K (T.setTop (mkF m pc' L S))) : Go p e below K (T.setTop (mkF m pc L (.int y :: .int x :: S))) := by
  subst hp; exact k.of (fun _ q => XS.icmpNo X.X.here X.hx rfl (X.d hd) rfl ((flt hc).2.2.1) q)
theorem g_icmp_gt (X : St Z n0 p l e R s m args below meth c own nm bytes ml ret T locs cells slots h) {x y : Int32} {o : Int} (hd : decode bytes pc = .ok (.if_icmp .gt o, 3)) (ho : (pc : Int) + o = (pt : Int)) (hp : pc + 3 = pc') (yes : y < x → Go p e below K (T.setTop (mkF m pt L S))) (no : ¬ y < x → Go p e below K (T.setTop (mkF m pc' L S))) : Go p e below K (T.setTop (mkF m pc L (.int y :: .int x :: S))) := by
  by_cases hc : y < x
  · exact g_icmp_gt_t X hd ho hc (yes hc)
  · exact g_icmp_gt_f X hd hp hc (no hc)
theorem g_if_gt_t (X : St Z n0 p l e R s m args below meth c own nm bytes ml ret T locs cells slots h) {x : Int32} {o : Int} (hd : decode bytes pc = .ok (.ifCond .gt o, 3)) (ho : (pc : Int) + o = (pt : Int)) (hc : 0 < x) (k : Go p e below K (T.setTop (mkF m pt L S))) : Go p e below K (T.setTop (mkF m pc L (.int x :: S))) :=
  k.of (fun _ q => XS.ifYes X.X.here X.hx rfl rfl (X.d hd) rfl ((if0 _ _).trans ((tlt hc).2.2.1)) (ho ▸ Int.natCast_nonneg _) (by rw [ho]; rfl) q)
theorem g_if_gt_f (X : St Z n0 p l e R s m args below meth c own nm bytes ml ret T locs cells slots h) {x : Int32} {o : Int} (hd : decode bytes pc = .ok (.ifCond .gt o, 3)) (hp : pc + 3 = pc') (hc : ¬ 0 < x) (k : Go p e below K (T.setTop (mkF m pc' L S))) : Go p e below K (T.setTop (mkF m pc L (.int x :: S))) := by
  subst hp; exact k.of (fun _ q => XS.ifNo X.X.here X.hx rfl (X.d hd) rfl ((if0 _ _).trans ((flt hc).2.2.1)) q)
theorem g_if_gt (X : St Z n0 p l e R s m args below meth c own nm bytes ml ret T locs cells slots h) {x : Int32} {o : Int} (hd : decode bytes pc = .ok (.ifCond .gt o, 3)) (ho : (pc : Int) + o = (pt : Int)) (hp : pc + 3 = pc') (yes : 0 < x → Go p e below K (T.setTop (mkF m pt L S))) (no : ¬ 0 < x → Go p e below K (T.setTop (mkF m pc' L S))) : Go p e below K (T.setTop (mkF m pc L (.int x :: S))) := by
  by_cases hc : 0 < x
  · exact g_if_gt_t X hd ho hc (yes hc)
  · exact g_if_gt_f X hd hp hc (no hc)
theorem g_icmp_le_t (X : St Z n0 p l e R s m args below meth c own nm bytes ml ret T locs cells slots h) {x y : Int32} {o : Int} (hd : decode bytes pc = .ok (.if_icmp .le o, 3)) (ho : (pc : Int) + o = (pt : Int)) (hc : ¬ y < x) (k : Go p e below K (T.setTop (mkF m pt L S))) : Go p e below K (T.setTop (mkF m pc L (.int y :: .int x :: S))) :=
  k.of (fun _ q => XS.icmpYes X.X.here X.hx rfl rfl (X.d hd) rfl ((flt hc).2.2.2) (ho ▸ Int.natCast_nonneg _) (by rw [ho]; rfl) q)
theorem g_icmp_le_f (X : St Z n0 p l e R s m args below meth c own nm bytes ml ret T locs cells slots h) {x y : Int32} {o : Int} (hd : decode bytes pc = .ok (.if_icmp .le o, 3)) (hp : pc + 3 = pc') (hc : y < x) (k : Go p e below K (T.setTop (mkF m pc' L S))) : Go p e below K (T.setTop (mkF m pc L (.int y :: .int x :: S))) := by
  subst hp; exact k.of (fun _ q => XS.icmpNo X.X.here X.hx rfl (X.d hd) rfl ((tlt hc).2.2.2) q)
theorem g_icmp_le (X : St Z n0 p l e R s m args below meth c own nm bytes ml ret T locs cells slots h) {x y : Int32} {o : Int} (hd : decode bytes pc = .ok (.if_icmp .le o, 3)) (ho : (pc : Int) + o = (pt : Int)) (hp : pc + 3 = pc') (yes : ¬ y < x → Go p e below K (T.setTop (mkF m pt L S))) (no : y < x → Go p e below K (T.setTop (mkF m pc' L S))) : Go p e below K (T.setTop (mkF m pc L (.int y :: .int x :: S))) := by
  by_cases hc : y < x
  · exact g_icmp_le_f X hd hp hc (no hc)
  · exact g_icmp_le_t X hd ho hc (yes hc)
theorem g_if_le_t (X : St Z n0 p l e R s m args below meth c own nm bytes ml ret T locs cells slots h) {x : Int32} {o : Int} (hd : decode bytes pc = .ok (.ifCond .le o, 3)) (ho : (pc : Int) + o = (pt : Int)) (hc : ¬ 0 < x) (k : Go p e below K (T.setTop (mkF m pt L S))) : Go p e below K (T.setTop (mkF m pc L (.int x :: S))) :=
  k.of (fun _ q => XS.ifYes X.X.here X.hx rfl rfl (X.d hd) rfl ((if0 _ _).trans ((flt hc).2.2.2)) (ho ▸ Int.natCast_nonneg _) (by rw [ho]; rfl) q)
theorem g_if_le_f (X : St Z n0 p l e R s m args below meth c own nm bytes ml ret T locs cells slots h) {x : Int32} {o : Int} (hd : decode bytes pc = .ok (.ifCond .le o, 3)) (hp : pc + 3 = pc') (hc : 0 < x) (k : Go p e below K (T.setTop (mkF m pc' L S))) : Go p e below K (T.setTop (mkF m pc L (.int x :: S))) := by
  subst hp; exact k.of (fun _ q => XS.ifNo X.X.here X.hx rfl (X.d hd) rfl ((if0 _ _).trans ((tlt hc).2.2.2)) q)
theorem g_if_le (X : St Z n0 p l e R s m args below meth c own nm bytes ml ret T locs cells slots h) {x : Int32} {o : Int} (hd : decode bytes pc = .ok (.ifCond .le o, 3)) (ho : (pc : Int) + o = (pt : Int)) (hp : pc + 3 = pc') (yes : ¬ 0 < x → Go p e below K (T.setTop (mkF m pt L S))) (no : 0 < x → Go p e below K (T.setTop (mkF m pc' L S))) : Go p e below K (T.setTop (mkF m pc L (.int x :: S))) := by
  by_cases hc : 0 < x
  · exact g_if_le_f X hd hp hc (no hc)
  · exact g_if_le_t X hd ho hc (yes hc)
theorem g_lcmp_eq (X : St Z n0 p l e R s m args below meth c own nm bytes ml ret T locs cells slots h) {x y : Int64} {o : Int} (hd : decode bytes pc = .ok (.lcmp, 1)) (hd' : decode bytes (pc + 1) = .ok (.ifCond .eq o, 3)) (ho : ((pc + 1 : Nat) : Int) + o = (pt : Int)) (hp : pc + 1 + 3 = pc') (yes : x = y → Go p e below K (T.setTop (mkF m pt L S))) (no : ¬ x = y → Go p e below K (T.setTop (mkF m pc' L S))) : Go p e below K (T.setTop (mkF m pc L (.long y :: .long x :: S))) := by
  refine g_lcmp X hd rfl ?_
  refine g_if_eq X hd' ho hp (fun q => yes ?_) (fun q => no ?_)
  · rwa [lw_eq] at q
  · rwa [lw_eq] at q
theorem g_lcmp_ne (X : St Z n0 p l e R s m args below meth c own nm bytes ml ret T locs cells slots h) {x y : Int64} {o : Int} (hd : decode bytes pc = .ok (.lcmp, 1)) (hd' : decode bytes (pc + 1) = .ok (.ifCond .ne o, 3)) (ho : ((pc + 1 : Nat) : Int) + o = (pt : Int)) (hp : pc + 1 + 3 = pc') (yes : ¬ x = y → Go p e below K (T.setTop (mkF m pt L S))) (no : x = y → Go p e below K (T.setTop (mkF m pc' L S))) : Go p e below K (T.setTop (mkF m pc L (.long y :: .long x :: S))) := by
  refine g_lcmp X hd rfl ?_
  refine g_if_ne X hd' ho hp (fun q => yes ?_) (fun q => no ?_)
  · rwa [lw_eq] at q
  · rwa [lw_eq] at q
theorem g_lcmp_lt (X : St Z n0 p l e R s m args below meth c own nm bytes ml ret T locs cells slots h) {x y : Int64} {o : Int} (hd : decode bytes pc = .ok (.lcmp, 1)) (hd' : decode bytes (pc + 1) = .ok (.ifCond .lt o, 3)) (ho : ((pc + 1 : Nat) : Int) + o = (pt : Int)) (hp : pc + 1 + 3 = pc') (yes : x < y → Go p e below K (T.setTop (mkF m pt L S))) (no : ¬ x < y → Go p e below K (T.setTop (mkF m pc' L S))) : Go p e below K (T.setTop (mkF m pc L (.long y :: .long x :: S))) := by
  refine g_lcmp X hd rfl ?_
  refine g_if_lt X hd' ho hp (fun q => yes ?_) (fun q => no ?_)
  · rwa [lw_lt] at q
  · rwa [lw_lt] at q
theorem g_lcmp_ge (X : St Z n0 p l e R s m args below meth c own nm bytes ml ret T locs cells slots h) {x y : Int64} {o : Int} (hd : decode bytes pc = .ok (.lcmp, 1)) (hd' : decode bytes (pc + 1) = .ok (.ifCond .ge o, 3)) (ho : ((pc + 1 : Nat) : Int) + o = (pt : Int)) (hp : pc + 1 + 3 = pc') (yes : ¬ x < y → Go p e below K (T.setTop (mkF m pt L S))) (no : x < y → Go p e below K (T.setTop (mkF m pc' L S))) : Go p e below K (T.setTop (mkF m pc L (.long y :: .long x :: S))) := by
  refine g_lcmp X hd rfl ?_
  refine g_if_ge X hd' ho hp (fun q => yes ?_) (fun q => no ?_)
  · rwa [lw_lt] at q
  · rwa [lw_lt] at q
theorem g_lcmp_gt (X : St Z n0 p l e R s m args below meth c own nm bytes ml ret T locs cells slots h) {x y : Int64} {o : Int} (hd : decode bytes pc = .ok (.lcmp, 1)) (hd' : decode bytes (pc + 1) = .ok (.ifCond .gt o, 3)) (ho : ((pc + 1 : Nat) : Int) + o = (pt : Int)) (hp : pc + 1 + 3 = pc') (yes : y < x → Go p e below K (T.setTop (mkF m pt L S))) (no : ¬ y < x → Go p e below K (T.setTop (mkF m pc' L S))) : Go p e below K (T.setTop (mkF m pc L (.long y :: .long x :: S))) := by
  refine g_lcmp X hd rfl ?_
  refine g_if_gt X hd' ho hp (fun q => yes ?_) (fun q => no ?_)
  · rwa [lw_gt] at q
  · rwa [lw_gt] at q
theorem g_lcmp_le (X : St Z n0 p l e R s m args below meth c own nm bytes ml ret T locs cells slots h) {x y : Int64} {o : Int} (hd : decode bytes pc = .ok (.lcmp, 1)) (hd' : decode bytes (pc + 1) = .ok (.ifCond .le o, 3)) (ho : ((pc + 1 : Nat) : Int) + o = (pt : Int)) (hp : pc + 1 + 3 = pc') (yes : ¬ y < x → Go p e below K (T.setTop (mkF m pt L S))) (no : y < x → Go p e below K (T.setTop (mkF m pc' L S))) : Go p e below K (T.setTop (mkF m pc L (.long y :: .long x :: S))) := by
  refine g_lcmp X hd rfl ?_
  refine g_if_le X hd' ho hp (fun q => yes ?_) (fun q => no ?_)
  · rwa [lw_gt] at q
  · rwa [lw_gt] at q
theorem g_ifnull_t (X : St Z n0 p l e R s m args below meth c own nm bytes ml ret T locs cells slots h) {o : Int} (hd : decode bytes pc = .ok (.ifnull o, 3)) (ho : (pc : Int) + o = (pt : Int)) (k : Go p e below K (T.setTop (mkF m pt L S))) : Go p e below K (T.setTop (mkF m pc L (.null :: S))) :=
  k.of (fun _ q => XS.ifnullYes X.X.here X.hx rfl rfl (X.d hd) rfl (ho ▸ Int.natCast_nonneg _) (by rw [ho]; rfl) q)
theorem g_ifnull_f (X : St Z n0 p l e R s m args below meth c own nm bytes ml ret T locs cells slots h) {o : Int} {a : Addr} (hd : decode bytes pc = .ok (.ifnull o, 3)) (hp : pc + 3 = pc') (k : Go p e below K (T.setTop (mkF m pc' L S))) : Go p e below K (T.setTop (mkF m pc L (.ref a :: S))) := by
  subst hp; exact k.of (fun _ q => XS.ifnullNo X.X.here X.hx rfl (X.d hd) rfl q)
theorem g_ifnonnull_t (X : St Z n0 p l e R s m args below meth c own nm bytes ml ret T locs cells slots h) {o : Int} {a : Addr} (hd : decode bytes pc = .ok (.ifnonnull o, 3)) (ho : (pc : Int) + o = (pt : Int)) (k : Go p e below K (T.setTop (mkF m pt L S))) : Go p e below K (T.setTop (mkF m pc L (.ref a :: S))) :=
  k.of (fun _ q => XS.ifnonnullYes X.X.here X.hx rfl rfl (X.d hd) rfl (ho ▸ Int.natCast_nonneg _) (by rw [ho]; rfl) q)
theorem g_ifnonnull_f (X : St Z n0 p l e R s m args below meth c own nm bytes ml ret T locs cells slots h) {o : Int} (hd : decode bytes pc = .ok (.ifnonnull o, 3)) (hp : pc + 3 = pc') (k : Go p e below K (T.setTop (mkF m pc' L S))) : Go p e below K (T.setTop (mkF m pc L (.null :: S))) := by
  subst hp; exact k.of (fun _ q => XS.ifnonnullNo X.X.here X.hx rfl (X.d hd) rfl q)
theorem g_acmp (X : St Z n0 p l e R s m args below meth c own nm bytes ml ret T locs cells slots h) {cd : ACond} {x y : Value} {o : Int} {same : Bool} (h1 : x.isRef = true) (h2 : y.isRef = true) (hd : decode bytes pc = .ok (.if_acmp cd o, 3)) (ho : (pc : Int) + o = (pt : Int)) (hq : decide (x = y) = same) (hp : pc' = if acV cd same = true then pt else pc + 3) (k : Go p e below K (T.setTop (mkF m pc' L S))) : Go p e below K (T.setTop (mkF m pc L (y :: x :: S))) :=
  k.of (fun _ q => Jvm.RoadKit.acmp X.X X.hx rfl h1 h2 rfl (X.d hd) rfl hq (ho ▸ Int.natCast_nonneg _) (by rw [hp, ho]; rfl) q)
theorem g_acmp_eq (X : St Z n0 p l e R s m args below meth c own nm bytes ml ret T locs cells slots h) {a b : Addr} {o : Int} (hd : decode bytes pc = .ok (.if_acmp .eq o, 3)) (ho : (pc : Int) + o = (pt : Int)) (hp : pc + 3 = pc') (yes : a = b → Go p e below K (T.setTop (mkF m pt L S))) (no : ¬ a = b → Go p e below K (T.setTop (mkF m pc' L S))) : Go p e below K (T.setTop (mkF m pc L (.ref b :: .ref a :: S))) := by
  subst hp
  by_cases hc : a = b
  · exact g_acmp X (same := true) rfl rfl hd ho (decide_eq_true (congrArg Value.ref hc)) rfl (yes hc)
  · exact g_acmp X (same := false) rfl rfl hd ho (decide_eq_false fun q => hc (Value.ref.inj q)) rfl (no hc)
theorem g_acmp_ne (X : St Z n0 p l e R s m args below meth c own nm bytes ml ret T locs cells slots h) {a b : Addr} {o : Int} (hd : decode bytes pc = .ok (.if_acmp .ne o, 3)) (ho : (pc : Int) + o = (pt : Int)) (hp : pc + 3 = pc') (yes : ¬ a = b → Go p e below K (T.setTop (mkF m pt L S))) (no : a = b → Go p e below K (T.setTop (mkF m pc' L S))) : Go p e below K (T.setTop (mkF m pc L (.ref b :: .ref a :: S))) := by
  subst hp
  by_cases hc : a = b
  · exact g_acmp X (same := true) rfl rfl hd ho (decide_eq_true (congrArg Value.ref hc)) rfl (no hc)
  · exact g_acmp X (same := false) rfl rfl hd ho (decide_eq_false fun q => hc (Value.ref.inj q)) rfl (yes hc)
theorem g_ldc (X : St Z n0 p l e R s m args below meth c own nm bytes ml ret T locs cells slots h) {i : Nat} {v : Int32} (w : (Jvm.Cond.constant own i v).before a0 Z = true) (hd : decode bytes pc = .ok (.ldc i, 2)) (hp : pc + 2 = pc') (k : Go p e below K (T.setTop (mkF m pc' L (.int v :: S)))) : Go p e below K (T.setTop (mkF m pc L S)) := by
  subst hp; exact k.of (X.X.ldcInt X.hx X.own_ (mvT X.hZ w) (g := mkF m pc L S) rfl (X.d hd))
theorem g_ldc2 (X : St Z n0 p l e R s m args below meth c own nm bytes ml ret T locs cells slots h) {i : Nat} {v : Int64} (w : (Jvm.Cond.constantLong own i v).before a0 Z = true) (hd : decode bytes pc = .ok (.ldc2_w i, 3)) (hp : pc + 3 = pc') (k : Go p e below K (T.setTop (mkF m pc' L (.long v :: S)))) : Go p e below K (T.setTop (mkF m pc L S)) := by
  subst hp; exact k.of (X.X.ldc2Long X.hx X.own_ (mvT X.hZ w) (g := mkF m pc L S) rfl (X.d hd))
theorem g_getF (X : St Z n0 p l e R s m args below meth c own nm bytes ml ret T locs cells slots h) {R0 O n d host : String} {i : Nat} {a : Addr} {v : Value} (w : (Jvm.Cond.fieldLink own i R0 n d).before a0 Z = true ∨ (Jvm.Cond.fieldLinkNest own i R0 n d host).before a0 Z = true) (via : Via Z R0 O n d) (F : Fld Z h a O n d v) (hd : decode bytes pc = .ok (.getfield i, 3)) (hp : pc + 3 = pc') (k : ∀ T', St Z n0 p l e R s m args below meth c own nm bytes ml ret T' locs cells slots h → Go p e below K (T'.setTop (mkF m pc' L (v :: S)))) : Go p e below K (T.setTop (mkF m pc L (.ref a :: S))) := by
  obtain ⟨T', X', e', st'⟩ := getF X.X X.hx X.hZ X.own_ w via X.eT F (g := mkF m pc L (.ref a :: S)) rfl rfl (X.d hd)
  subst hp; exact (k T' (X.to X' e' X.fr X.old)).of st'
theorem g_getS (X : St Z n0 p l e R s m args below meth c own nm bytes ml ret T locs cells slots h) {O n d : String} {i : Nat} {v : Value} (w : (Jvm.Cond.fieldLink own i O n d).before a0 Z = true) (F : Sta Z h O n d v) (hd : decode bytes pc = .ok (.getstatic i, 3)) (hp : pc + 3 = pc') (k : ∀ T', St Z n0 p l e R s m args below meth c own nm bytes ml ret T' locs cells slots h → Go p e below K (T'.setTop (mkF m pc' L (v :: S)))) : Go p e below K (T.setTop (mkF m pc L S)) := by
  obtain ⟨T', X', e', st'⟩ := getS X.X X.hx X.hZ (host := "") X.own_ w Via.refl X.eT F (g := mkF m pc L S) rfl (X.d hd)
  subst hp; exact (k T' (X.to X' e' X.fr X.old)).of st'
theorem g_putF (X : St Z n0 p l e R s m args below meth c own nm bytes ml ret T locs cells slots h) {R0 O n d host C : String} {i kk : Nat} {ty : FieldType} {a : Addr} {v old : Value} (w : (Jvm.Cond.fieldLink own i R0 n d).before a0 Z = true ∨ (Jvm.Cond.fieldLinkNest own i R0 n d host).before a0 Z = true) (via : Via Z R0 O n d) (F : Fld Z h a O n d old) (E : Exa Z h a C)
    (La : (Jvm.Cond.lays C O n d).before a0 Z = true ∨ ((Jvm.Cond.laysFinal C O n d).before a0 Z = true ∧ own = O ∧ nm = "<init>")) (wi : (Jvm.Cond.instantiable C kk).before a0 Z = true) (hty : parseFieldDescriptor d = some ty) (hn : narrow ty v = v) (hf : fits ty v = true) (ga : n0 ≤ a) (hd : decode bytes pc = .ok (.putfield i, 3)) (hp : pc + 3 = pc') (k : ∀ T' h', St Z n0 p l e R s m args below meth c own nm bytes ml ret T' (locs ++ [⟨a, Jvm.RoadKit.slotOf Z O n d⟩]) cells slots h' → Wr h h' a (Jvm.RoadKit.slotOf Z O n d) v → Go p e below K (T'.setTop (mkF m pc' L S))) : Go p e below K (T.setTop (mkF m pc L (v :: .ref a :: S))) := by
  obtain ⟨T', h', X', e', W, st'⟩ := putF X.X X.hx X.hZ X.own_ w via X.eT F E (La.imp id fun q => ⟨q.1, q.2.1, X.nm_.trans q.2.2⟩) wi hty hn hf (g := mkF m pc L (v :: .ref a :: S)) rfl rfl (X.d hd)
  subst hp; exact (k T' h' (X.to X' e' (Fr.snoc X' X.fr ga) (X.old.wr W ga)) W).of st'
theorem g_putFN (X : St Z n0 p l e R s m args below meth c own nm bytes ml ret T locs cells slots h) {R0 O n d C : String} {i kk : Nat} {ty : FieldType} {a : Addr} {v v' old : Value} (w : (Jvm.Cond.fieldLink own i R0 n d).before a0 Z = true) (via : Via Z R0 O n d) (F : Fld Z h a O n d old) (E : Exa Z h a C)
    (La : (Jvm.Cond.lays C O n d).before a0 Z = true ∨ ((Jvm.Cond.laysFinal C O n d).before a0 Z = true ∧ own = O ∧ nm = "<init>")) (wi : (Jvm.Cond.instantiable C kk).before a0 Z = true) (hty : parseFieldDescriptor d = some ty) (hn : narrow ty v = v') (hf : fits ty v' = true) (ga : n0 ≤ a) (hd : decode bytes pc = .ok (.putfield i, 3)) (hp : pc + 3 = pc') (k : ∀ T' h', St Z n0 p l e R s m args below meth c own nm bytes ml ret T' (locs ++ [⟨a, Jvm.RoadKit.slotOf Z O n d⟩]) cells slots h' → Wr h h' a (Jvm.RoadKit.slotOf Z O n d) v' → Go p e below K (T'.setTop (mkF m pc' L S))) : Go p e below K (T.setTop (mkF m pc L (v :: .ref a :: S))) := by
  obtain ⟨T', h', X', e', W, st'⟩ := putFN X.X X.hx X.hZ X.own_ w via X.eT F E (La.imp id fun q => ⟨q.1, q.2.1, X.nm_.trans q.2.2⟩) wi hty hn hf (g := mkF m pc L (v :: .ref a :: S)) rfl rfl (X.d hd)
  subst hp; exact (k T' h' (X.to X' e' (Fr.snoc X' X.fr ga) (X.old.wr W ga)) W).of st'
theorem g_new (X : St Z n0 p l e R s m args below meth c own nm bytes ml ret T locs cells slots h) {C : String} {i n : Nat} (w : (Jvm.Cond.classLink own i C).before a0 Z = true) (wi : (Jvm.Cond.instantiable C n).before a0 Z = true) (wz : (Jvm.Cond.initialized C).before a0 Z = true) (hd : decode bytes pc = .ok (.new i, 3)) (hp : pc + 3 = pc') (hc : cells + 1 ≤ R.cells) (hl : slots + n ≤ R.slots)
    (k : ∀ T' h' a, St Z n0 p l e R s m args below meth c own nm bytes ml ret T' locs (cells + 1) (slots + n) h' → a = h.size → Ext h h' → Exa Z h' a C → (∀ {O nm d : String} {ty : FieldType}, Laid Z a0 C O nm d → parseFieldDescriptor d = some ty → Fld Z h' a O nm d (defaultValue ty)) → n0 ≤ a → Go p e below K (T'.setTop (mkF m pc' L (.ref a :: S)))) : Go p e below K (T.setTop (mkF m pc L S)) := by
  obtain ⟨T', h', X', e', E, A, D, -, st'⟩ := newO X.X X.hx X.hZ X.own_ w wi wz X.eT (g := mkF m pc L S) rfl (X.d hd) hc hl
  subst hp; exact (k T' h' _ (X.to X' e' X.fr (X.old.ext E)) rfl E A D X.sz).of st'
theorem g_initO (X : St Z n0 p l e R s m args below meth c own nm bytes ml ret T locs cells slots h) {i : Nat} {a : Addr} (w1 : (Jvm.Cond.methodLink own i Lib.objectInit).before a0 Z = true) (w2 : (Jvm.Cond.instanceMethod Lib.objectInit).before a0 Z = true) (w3 : (Jvm.Cond.code Lib.objectInit ⟨#[0xb1]⟩ 1 none).before a0 Z = true) (hL : L.size = ml) (hd : decode bytes pc = .ok (.invokespecial i, 3)) (hp : pc + 3 = pc') (hf : 1 ≤ R.frames) {W : Nat} (hW : (S.map fun v => v.category).sum = W) (hl : W + 12 ≤ R.locals) (k : ∀ T', St Z n0 p l e R s m args below meth c own nm bytes ml ret T' locs cells slots h → Go p e below K (T'.setTop (mkF m pc' L S))) : Go p e below K (T.setTop (mkF m pc L (.ref a :: S))) := by
  obtain ⟨T', X', e', st'⟩ := initO X.X X.hx X.hZ X.own_ w1 w2 w3 X.eT (g := mkF m pc L (.ref a :: S)) rfl (by rw [X.ml_]; exact hL) rfl (X.d hd) hf (W := W) (by show 2 * 0 + _ ≤ _; rw [hW, Nat.mul_zero, Nat.zero_add]; exact Nat.le_refl _) hl
  subst hp; exact (k T' (X.to X' e' X.fr X.old)).of st'
theorem g_castNull (X : St Z n0 p l e R s m args below meth c own nm bytes ml ret T locs cells slots h) {i : Nat} (hd : decode bytes pc = .ok (.checkcast i, 3)) (hp : pc + 3 = pc') (k : Go p e below K (T.setTop (mkF m pc' L (.null :: S)))) : Go p e below K (T.setTop (mkF m pc L (.null :: S))) := by
  subst hp; exact k.of (fun _ q => X.X.checkcastNull X.hx (g := mkF m pc L (.null :: S)) rfl rfl (X.d hd) _ q)
theorem g_instNull (X : St Z n0 p l e R s m args below meth c own nm bytes ml ret T locs cells slots h) {i : Nat} (hd : decode bytes pc = .ok (.instanceof i, 3)) (hp : pc + 3 = pc') (k : Go p e below K (T.setTop (mkF m pc' L (.int 0 :: S)))) : Go p e below K (T.setTop (mkF m pc L (.null :: S))) := by
  subst hp; exact k.of (fun _ q => X.X.instanceofNull X.hx (g := mkF m pc L (.null :: S)) rfl rfl (X.d hd) _ q)
theorem g_cast (X : St Z n0 p l e R s m args below meth c own nm bytes ml ret T locs cells slots h) {k0 : String} {i : Nat} {a : Addr} (w : (Jvm.Cond.classLink own i k0).before a0 Z = true) (F : Ins Z h a k0 true) (hd : decode bytes pc = .ok (.checkcast i, 3)) (hp : pc + 3 = pc') (k : ∀ T', St Z n0 p l e R s m args below meth c own nm bytes ml ret T' locs cells slots h → Go p e below K (T'.setTop (mkF m pc' L (.ref a :: S)))) : Go p e below K (T.setTop (mkF m pc L (.ref a :: S))) := by
  obtain ⟨T', X', e', st'⟩ := castY X.X X.hx X.hZ X.own_ w X.eT F (g := mkF m pc L (.ref a :: S)) rfl rfl (X.d hd)
  subst hp; exact (k T' (X.to X' e' X.fr X.old)).of st'
theorem g_inst (X : St Z n0 p l e R s m args below meth c own nm bytes ml ret T locs cells slots h) {k0 : String} {i : Nat} {a : Addr} (w : (Jvm.Cond.classLink own i k0).before a0 Z = true) (F : Ins Z h a k0 true) (hd : decode bytes pc = .ok (.instanceof i, 3)) (hp : pc + 3 = pc') (k : ∀ T', St Z n0 p l e R s m args below meth c own nm bytes ml ret T' locs cells slots h → Go p e below K (T'.setTop (mkF m pc' L (.int 1 :: S)))) : Go p e below K (T.setTop (mkF m pc L (.ref a :: S))) := by
  obtain ⟨T', X', e', st'⟩ := instY X.X X.hx X.hZ X.own_ w X.eT F (g := mkF m pc L (.ref a :: S)) rfl rfl (X.d hd)
  subst hp; exact (k T' (X.to X' e' X.fr X.old)).of st'
theorem g_instN (X : St Z n0 p l e R s m args below meth c own nm bytes ml ret T locs cells slots h) {k0 c0 : String} {i : Nat} {a : Addr} (w : (Jvm.Cond.classLink own i k0).before a0 Z = true) (F : Ins Z s.heap a k0 false) (E : Exa Z s.heap a c0) (hd : decode bytes pc = .ok (.instanceof i, 3)) (hp : pc + 3 = pc') (k : ∀ T', St Z n0 p l e R s m args below meth c own nm bytes ml ret T' locs cells slots h → Go p e below K (T'.setTop (mkF m pc' L (.int 0 :: S)))) : Go p e below K (T.setTop (mkF m pc L (.ref a :: S))) := by
  obtain ⟨T', X', e', st'⟩ := instN X.X X.hx X.hZ X.own_ w X.eT F E (g := mkF m pc L (.ref a :: S)) rfl rfl (X.d hd)
  subst hp; exact (k T' (X.to X' e' X.fr X.old)).of st'
/-- an array, by the list of what it holds -/
def Arx (Z : State) (h : Heap) (a : Addr) (ty : FieldType) (vs : List Value) : Prop := ∃ c : Cell, Arr Z h a c ty ∧ c.slots.toList = vs ∧ vs.length < 2 ^ 31
theorem Arx.keep {h' : Heap} {ws : List Addr} {a : Addr} {ty : FieldType} {vs : List Value} (A : Arx Z h a ty vs) (K : Keep h h' ws) (q : a ∉ ws) : Arx Z h' a ty vs := by obtain ⟨c, A, r⟩ := A; exact ⟨c, ⟨K.2.1 a c A.1 q, A.2⟩, r⟩
theorem Arx.ext {h' : Heap} {a : Addr} {ty : FieldType} {vs : List Value} (A : Arx Z h a ty vs) (E : Ext h h') : Arx Z h' a ty vs := by obtain ⟨c, A, r⟩ := A; exact ⟨c, A.ext E, r⟩
theorem Arx.other {h' : Heap} {a b : Addr} {sl : Nat} {v : Value} {ty : FieldType} {vs : List Value} (A : Arx Z h b ty vs) (W : Wr h h' a sl v) (q : b ≠ a) : Arx Z h' b ty vs := by obtain ⟨c, A, r⟩ := A; exact ⟨c, A.other W q, r⟩
theorem Arx.lt {a : Addr} {ty : FieldType} {vs : List Value} (A : Arx Z h a ty vs) : a < h.size := by obtain ⟨c, A, r⟩ := A; exact A.lt
theorem Arx.le {a : Addr} {ty : FieldType} {vs : List Value} (A : Arx Z h a ty vs) : vs.length < 2 ^ 31 := by obtain ⟨c, A, r, q⟩ := A; exact q
theorem arx_in {cl : Cell} {vs : List Value} (q : cl.slots.toList = vs) {j : Int32} {i : Nat} (hj : j.toInt = (i : Int)) (hi : i < vs.length) : ¬ (j < 0 ∨ cl.slots.size ≤ j.toNatClampNeg) ∧ j.toNatClampNeg = i := by
  have e1 : j.toNatClampNeg = i := by simp only [Int32.toNatClampNeg, hj]; omega
  have e2 : cl.slots.size = vs.length := by rw [← q]; simp
  refine ⟨?_, e1⟩
  rw [e1, e2, Int32.lt_iff_toInt_lt, hj]
  have : (0 : Int32).toInt = 0 := rfl
  omega
theorem arx_at {cl : Cell} {vs : List Value} (q : cl.slots.toList = vs) {i : Nat} {v : Value} (hv : vs[i]? = some v) : cl.slots[i]? = some v := by rw [← q] at hv; simpa using hv
theorem arx_new (k : ClassId) (ty : FieldType) (n : Int32) : (newA k ty n).slots.toList = List.replicate n.toNatClampNeg (defaultValue ty) := by simp [newA]
theorem g_iaload (X : St Z n0 p l e R s m args below meth c own nm bytes ml ret T locs cells slots h) {a : Addr} {j : Int32} {i : Nat} {v : Value} {vs : List Value} (A : Arx Z h a .int vs) (hj : j.toInt = (i : Int)) (hv : vs[i]? = some v) (hd : decode bytes pc = .ok (.iaload, 1)) (hp : pc + 1 = pc') (k : Go p e below K (T.setTop (mkF m pc' L (v :: S)))) : Go p e below K (T.setTop (mkF m pc L (.int j :: .ref a :: S))) := by
  obtain ⟨cl, A, q, -⟩ := A
  obtain ⟨hin, hi⟩ := arx_in q hj (List.getElem?_eq_some_iff.mp hv).1
  subst hp; exact k.of (fun _ z => X.X.iaload X.hx (by rw [X.eT]; exact A.1) (State.isArrayOf_alike X.hZ.alike A.2.1) A.2.2 hin (by rw [hi]; exact arx_at q hv) (g := mkF m pc L (.int j :: .ref a :: S)) rfl rfl (X.d hd) _ z)
theorem g_laload (X : St Z n0 p l e R s m args below meth c own nm bytes ml ret T locs cells slots h) {a : Addr} {j : Int32} {i : Nat} {v : Value} {vs : List Value} (A : Arx Z h a .long vs) (hj : j.toInt = (i : Int)) (hv : vs[i]? = some v) (hd : decode bytes pc = .ok (.laload, 1)) (hp : pc + 1 = pc') (k : Go p e below K (T.setTop (mkF m pc' L (v :: S)))) : Go p e below K (T.setTop (mkF m pc L (.int j :: .ref a :: S))) := by
  obtain ⟨cl, A, q, -⟩ := A
  obtain ⟨hin, hi⟩ := arx_in q hj (List.getElem?_eq_some_iff.mp hv).1
  subst hp; exact k.of (fun _ z => X.X.laload X.hx (by rw [X.eT]; exact A.1) (State.isArrayOf_alike X.hZ.alike A.2.1) A.2.2 hin (by rw [hi]; exact arx_at q hv) (g := mkF m pc L (.int j :: .ref a :: S)) rfl rfl (X.d hd) _ z)
theorem g_caload (X : St Z n0 p l e R s m args below meth c own nm bytes ml ret T locs cells slots h) {a : Addr} {j : Int32} {i : Nat} {v : Value} {vs : List Value} (A : Arx Z h a .char vs) (hj : j.toInt = (i : Int)) (hv : vs[i]? = some v) (hd : decode bytes pc = .ok (.caload, 1)) (hp : pc + 1 = pc') (k : Go p e below K (T.setTop (mkF m pc' L (v :: S)))) : Go p e below K (T.setTop (mkF m pc L (.int j :: .ref a :: S))) := by
  obtain ⟨cl, A, q, -⟩ := A
  obtain ⟨hin, hi⟩ := arx_in q hj (List.getElem?_eq_some_iff.mp hv).1
  subst hp; exact k.of (fun _ z => X.X.caload X.hx (by rw [X.eT]; exact A.1) (State.isArrayOf_alike X.hZ.alike A.2.1) A.2.2 hin (by rw [hi]; exact arx_at q hv) (g := mkF m pc L (.int j :: .ref a :: S)) rfl rfl (X.d hd) _ z)
theorem g_baload (X : St Z n0 p l e R s m args below meth c own nm bytes ml ret T locs cells slots h) {a : Addr} {j : Int32} {i : Nat} {v : Value} {vs : List Value} (A : Arx Z h a .byte vs) (hj : j.toInt = (i : Int)) (hv : vs[i]? = some v) (hd : decode bytes pc = .ok (.baload, 1)) (hp : pc + 1 = pc') (k : Go p e below K (T.setTop (mkF m pc' L (v :: S)))) : Go p e below K (T.setTop (mkF m pc L (.int j :: .ref a :: S))) := by
  obtain ⟨cl, A, q, -⟩ := A
  obtain ⟨hin, hi⟩ := arx_in q hj (List.getElem?_eq_some_iff.mp hv).1
  subst hp; exact k.of (fun _ z => X.X.baloadBytes X.hx (by rw [X.eT]; exact A.1) (State.isArrayOf_alike X.hZ.alike A.2.1) A.2.2 hin (by rw [hi]; exact arx_at q hv) (g := mkF m pc L (.int j :: .ref a :: S)) rfl rfl (X.d hd) _ z)
theorem g_aaload (X : St Z n0 p l e R s m args below meth c own nm bytes ml ret T locs cells slots h) {a : Addr} {j : Int32} {i : Nat} {v : Value} {ty : FieldType} {vs : List Value} (A : Arx Z h a ty vs) (hty : ty.isReference = true) (hj : j.toInt = (i : Int)) (hv : vs[i]? = some v) (hd : decode bytes pc = .ok (.aaload, 1)) (hp : pc + 1 = pc') (k : Go p e below K (T.setTop (mkF m pc' L (v :: S)))) : Go p e below K (T.setTop (mkF m pc L (.int j :: .ref a :: S))) := by
  obtain ⟨cl, A, q, -⟩ := A
  obtain ⟨hin, hi⟩ := arx_in q hj (List.getElem?_eq_some_iff.mp hv).1
  subst hp; exact k.of (fun _ z => X.X.aaload X.hx (by rw [X.eT]; exact A.1) (State.isArrayOf_alike X.hZ.alike A.2.1) hty A.2.2 hin (by rw [hi]; exact arx_at q hv) (g := mkF m pc L (.int j :: .ref a :: S)) rfl rfl (X.d hd) _ z)
theorem g_arraylength (X : St Z n0 p l e R s m args below meth c own nm bytes ml ret T locs cells slots h) {a : Addr} {ty : FieldType} {vs : List Value} {n : Int32} (A : Arx Z h a ty vs) (hn : vs.length.toInt32 = n) (hd : decode bytes pc = .ok (.arraylength, 1)) (hp : pc + 1 = pc') (k : Go p e below K (T.setTop (mkF m pc' L (.int n :: S)))) : Go p e below K (T.setTop (mkF m pc L (.ref a :: S))) := by
  obtain ⟨cl, A, q, -⟩ := A
  have e2 : cl.slots.size.toInt32 = n := by rw [← hn, ← q]; simp
  subst hp; exact k.of (fun _ z => X.X.arraylength X.hx (by rw [X.eT]; exact A.1) (State.isArrayOf_alike X.hZ.alike A.2.1) (g := mkF m pc L (.ref a :: S)) rfl rfl (X.d hd) _ (by rw [e2]; exact z))
theorem g_iastore (X : St Z n0 p l e R s m args below meth c own nm bytes ml ret T locs cells slots h) {a : Addr} {j : Int32} {i : Nat} {x : Int32} {vs : List Value} (A : Arx Z h a .int vs) (hj : j.toInt = (i : Int)) (hi : i < vs.length) (ga : n0 ≤ a) (hd : decode bytes pc = .ok (.iastore, 1)) (hp : pc + 1 = pc') (k : ∀ T' h', St Z n0 p l e R s m args below meth c own nm bytes ml ret T' (locs ++ [⟨a, i⟩]) cells slots h' → Wr h h' a i (.int x) → Arx Z h' a .int (vs.set i (.int x)) → Go p e below K (T'.setTop (mkF m pc' L S))) : Go p e below K (T.setTop (mkF m pc L (.int x :: .int j :: .ref a :: S))) := by
  obtain ⟨cl, A, q, hl⟩ := A
  obtain ⟨hin, hn⟩ := arx_in q hj hi
  obtain ⟨T', h', X', e', W, st'⟩ := stI X.X X.hx X.hZ X.eT A hin (g := mkF m pc L (.int x :: .int j :: .ref a :: S)) rfl rfl (X.d hd)
  rw [hn] at W X'
  subst hp; exact (k T' h' (X.to X' e' (Fr.snoc X' X.fr ga) (X.old.wr W ga)) W ⟨_, A.same W, by rw [← q]; simp [Cell.setSlot], by simpa using hl⟩).of st'
theorem g_lastore (X : St Z n0 p l e R s m args below meth c own nm bytes ml ret T locs cells slots h) {a : Addr} {j : Int32} {i : Nat} {x : Int64} {vs : List Value} (A : Arx Z h a .long vs) (hj : j.toInt = (i : Int)) (hi : i < vs.length) (ga : n0 ≤ a) (hd : decode bytes pc = .ok (.lastore, 1)) (hp : pc + 1 = pc') (k : ∀ T' h', St Z n0 p l e R s m args below meth c own nm bytes ml ret T' (locs ++ [⟨a, i⟩]) cells slots h' → Wr h h' a i (.long x) → Arx Z h' a .long (vs.set i (.long x)) → Go p e below K (T'.setTop (mkF m pc' L S))) : Go p e below K (T.setTop (mkF m pc L (.long x :: .int j :: .ref a :: S))) := by
  obtain ⟨cl, A, q, hl⟩ := A
  obtain ⟨hin, hn⟩ := arx_in q hj hi
  obtain ⟨T', h', X', e', W, st'⟩ := stJ X.X X.hx X.hZ X.eT A hin (g := mkF m pc L (.long x :: .int j :: .ref a :: S)) rfl rfl (X.d hd)
  rw [hn] at W X'
  subst hp; exact (k T' h' (X.to X' e' (Fr.snoc X' X.fr ga) (X.old.wr W ga)) W ⟨_, A.same W, by rw [← q]; simp [Cell.setSlot], by simpa using hl⟩).of st'
theorem g_castore (X : St Z n0 p l e R s m args below meth c own nm bytes ml ret T locs cells slots h) {a : Addr} {j : Int32} {i : Nat} {x : Int32} {vs : List Value} (A : Arx Z h a .char vs) (hj : j.toInt = (i : Int)) (hi : i < vs.length) (ga : n0 ≤ a) (hd : decode bytes pc = .ok (.castore, 1)) (hp : pc + 1 = pc') (k : ∀ T' h', St Z n0 p l e R s m args below meth c own nm bytes ml ret T' (locs ++ [⟨a, i⟩]) cells slots h' → Wr h h' a i (.int (nar .char x)) → Arx Z h' a .char (vs.set i (.int (nar .char x))) → Go p e below K (T'.setTop (mkF m pc' L S))) : Go p e below K (T.setTop (mkF m pc L (.int x :: .int j :: .ref a :: S))) := by
  obtain ⟨cl, A, q, hl⟩ := A
  obtain ⟨hin, hn⟩ := arx_in q hj hi
  obtain ⟨T', h', X', e', W, st'⟩ := stC X.X X.hx X.hZ X.eT A hin (g := mkF m pc L (.int x :: .int j :: .ref a :: S)) rfl rfl (X.d hd)
  rw [hn] at W X'
  subst hp; exact (k T' h' (X.to X' e' (Fr.snoc X' X.fr ga) (X.old.wr W ga)) W ⟨_, A.same W, by rw [← q]; simp [Cell.setSlot], by simpa using hl⟩).of st'
theorem g_bastore (X : St Z n0 p l e R s m args below meth c own nm bytes ml ret T locs cells slots h) {a : Addr} {j : Int32} {i : Nat} {x : Int32} {vs : List Value} (A : Arx Z h a .byte vs) (hj : j.toInt = (i : Int)) (hi : i < vs.length) (ga : n0 ≤ a) (hd : decode bytes pc = .ok (.bastore, 1)) (hp : pc + 1 = pc') (k : ∀ T' h', St Z n0 p l e R s m args below meth c own nm bytes ml ret T' (locs ++ [⟨a, i⟩]) cells slots h' → Wr h h' a i (.int (nar .byte x)) → Arx Z h' a .byte (vs.set i (.int (nar .byte x))) → Go p e below K (T'.setTop (mkF m pc' L S))) : Go p e below K (T.setTop (mkF m pc L (.int x :: .int j :: .ref a :: S))) := by
  obtain ⟨cl, A, q, hl⟩ := A
  obtain ⟨hin, hn⟩ := arx_in q hj hi
  obtain ⟨T', h', X', e', W, st'⟩ := stB X.X X.hx X.hZ X.eT A hin (g := mkF m pc L (.int x :: .int j :: .ref a :: S)) rfl rfl (X.d hd)
  rw [hn] at W X'
  subst hp; exact (k T' h' (X.to X' e' (Fr.snoc X' X.fr ga) (X.old.wr W ga)) W ⟨_, A.same W, by rw [← q]; simp [Cell.setSlot], by simpa using hl⟩).of st'
theorem g_newarray (X : St Z n0 p l e R s m args below meth c own nm bytes ml ret T locs cells slots h) {aty : ArrayType} {n : Int32} {cap : Nat} {vs : List Value} (w : (Jvm.Cond.arrayClass (newarray.typeOf aty)).before a0 Z = true) (hn : ¬ n < 0) (hcap : n.toNatClampNeg ≤ cap) (hvs : List.replicate n.toNatClampNeg (defaultValue (newarray.typeOf aty)) = vs) (hb : cap * 8 ≤ 536870912) (hd : decode bytes pc = .ok (.newarray aty, 2)) (hp : pc + 2 = pc') (hc : cells + 1 ≤ R.cells) (hl : slots + cap ≤ R.slots)
    (k : ∀ T' h' a, St Z n0 p l e R s m args below meth c own nm bytes ml ret T' locs (cells + 1) (slots + cap) h' → a = h.size → Ext h h' → Arx Z h' a (newarray.typeOf aty) vs → n0 ≤ a → Go p e below K (T'.setTop (mkF m pc' L (.ref a :: S)))) : Go p e below K (T.setTop (mkF m pc L (.int n :: S))) := by
  obtain ⟨T', h', cA, X', e', E, A, st'⟩ := newP X.X X.hx X.hZ w X.eT (g := mkF m pc L (.int n :: S)) rfl (X.d hd) rfl hn hcap hb hc hl
  subst hp; exact (k T' h' _ (X.to X' e' X.fr (X.old.ext E)) rfl E ⟨_, A, (arx_new _ _ _).trans hvs, by rw [← hvs, List.length_replicate]; omega⟩ X.sz).of st'
theorem g_callSB (X : St Z n0 p l e R s m args below meth c own nm bytes ml ret T locs cells slots h) {i : Nat} {y : MethodName} {b' : ByteArray} {ml' : Nat} {ret' : Option FieldType} {cc ss : Nat} {Q : Option Value → Heap → List Loc → Prop} {ps : List FieldType} {r : Option FieldType} {W : Nat} {S0 rest : List Value} (argsL : List Value) (w1 : (Jvm.Cond.methodLink own i y).before a0 Z = true) (w2 : (Jvm.Cond.static y).before a0 Z = true) (w0 : (Jvm.Cond.initialized y.cls).before a0 Z = true) (w4 : (Jvm.Cond.code y b' ml' ret').before a0 Z = true) (Bk : Back l R p e below s args y 3 W (fun A a' => a' = argsL.toArray ∧ A.U.heap = h ∧ A.cells + cc ≤ R.cells ∧ A.slots + ss ≤ R.slots) (fun A _ v B => ∃ L, Q v B.U.heap L ∧ B.locs = A.locs ++ L ∧ B.cells = A.cells + cc ∧ B.slots = A.slots + ss)) (hy : y.cls ≠ "java/lang/invoke/MethodHandle" ∧ y.cls ≠ "java/lang/invoke/VarHandle") (hc : cells + cc ≤ R.cells) (hs : slots + ss ≤ R.slots) (hL : L.size = ml) (hps : parseMethodDescriptor y.desc = some ⟨ps, r⟩) (hlen : argsL.length = ps.length) (hS : S0 = argsL.reverse ++ rest) (hW : (rest.map fun v => v.category).sum = W) (hd : decode bytes pc = .ok (.invokestatic i, 3)) (hp : pc + 3 = pc') (k : ∀ v T' h' L'', (Old Z n0 h' → Fr n0 L'' → St Z n0 p l e R s m args below meth c own nm bytes ml ret T' (locs ++ L'') (cells + cc) (slots + ss) h') → Q v h' L'' → Go p e below K (T'.setTop (mkF m pc' L (v.toList ++ rest)))) : Go p e below K (T.setTop (mkF m pc L S0)) := by
  subst hS hp
  obtain ⟨v, _, ⟨T', L'', k', n'⟩, -, X', ⟨Lc, hQ, l', y', z'⟩, st'⟩ := Jvm.LawKit.callS X.X X.hx (y := y) X.own_ (mvT X.hZ w1) (mvT X.hZ w2) (mvT X.hZ w0) (mvT X.hZ w4) hy Bk (g := mkF m pc L (argsL.reverse ++ rest)) rfl (by rw [X.ml_]; exact hL) (argsL := argsL) (rest := rest) (lenOf hps hlen) rfl (by show 2 * 0 + _ ≤ _; rw [hW, Nat.mul_zero, Nat.zero_add]; exact Nat.le_refl _) (X.d hd) (fun _ _ => ⟨rfl, X.eT, hc, hs⟩)
  dsimp only [Pt.U, Pt.locs, Pt.cells, Pt.slots] at X' l' y' z' st' hQ
  subst l' y' z'
  exact (k v T' T'.heap Lc (fun hz hF => ⟨X', X.2.1, rfl, X.fr.app hF, hz⟩) hQ).of st'
theorem g_callS (X : St Z n0 p l e R s m args below meth c own nm bytes ml ret T locs cells slots h) {i : Nat} {y : MethodName} {b' : ByteArray} {ml' : Nat} {ret' : Option FieldType} {rm : Room} {Q : Option Value → Heap → List Loc → Prop} {ps : List FieldType} {r : Option FieldType} {W : Nat} {S0 rest : List Value} (argsL : List Value) (w1 : (Jvm.Cond.methodLink own i y).before a0 Z = true) (w2 : (Jvm.Cond.static y).before a0 Z = true) (w0 : (Jvm.Cond.initialized y.cls).before a0 Z = true) (w4 : (Jvm.Cond.code y b' ml' ret').before a0 Z = true) (w3 : (Jvm.Cond.initialized y.cls).before a0 Z = true) (C : Con l Z y b' ml' ret' [] rm rm.cells rm.slots argsL.toArray h Q) (hy : y.cls ≠ "java/lang/invoke/MethodHandle" ∧ y.cls ≠ "java/lang/invoke/VarHandle") (hf : rm.frames + 1 ≤ R.frames) (hl : W + (ml' + 11) + rm.locals ≤ R.locals) (hc : cells + rm.cells ≤ R.cells) (hs : slots + rm.slots ≤ R.slots) (hL : L.size = ml) (hps : parseMethodDescriptor y.desc = some ⟨ps, r⟩) (hlen : argsL.length = ps.length) (hS : S0 = argsL.reverse ++ rest) (hW : (rest.map fun v => v.category).sum = W) (hd : decode bytes pc = .ok (.invokestatic i, 3)) (hp : pc + 3 = pc') (k : ∀ v T' h' L'', (Old Z n0 h' → Fr n0 L'' → St Z n0 p l e R s m args below meth c own nm bytes ml ret T' (locs ++ L'') (cells + rm.cells) (slots + rm.slots) h') → Q v h' L'' → Go p e below K (T'.setTop (mkF m pc' L (v.toList ++ rest)))) : Go p e below K (T.setTop (mkF m pc L S0)) :=
  g_callSB X argsL w1 w2 w0 w4 (backOf (W := W) C X.hZ w4 w3 hf hl) hy hc hs hL hps hlen hS hW hd hp k
theorem g_callIB (X : St Z n0 p l e R s m args below meth c own nm bytes ml ret T locs cells slots h) {i : Nat} {y : MethodName} {b' : ByteArray} {ml' : Nat} {ret' : Option FieldType} {cc ss : Nat} {Q : Option Value → Heap → List Loc → Prop} {ps : List FieldType} {r : Option FieldType} {W : Nat} {S0 rest : List Value} (argsL : List Value) {a : Addr} (hinit : y.name = "<init>") (w1 : (Jvm.Cond.methodLink own i y).before a0 Z = true) (w2 : (Jvm.Cond.instanceMethod y).before a0 Z = true) (hr : ret' = none) (w4 : (Jvm.Cond.code y b' ml' ret').before a0 Z = true) (Bk : Back l R p e below s args y 3 W (fun A a' => a' = (.ref a :: argsL).toArray ∧ A.U.heap = h ∧ A.cells + cc ≤ R.cells ∧ A.slots + ss ≤ R.slots) (fun A _ v B => ∃ L, Q v B.U.heap L ∧ B.locs = A.locs ++ L ∧ B.cells = A.cells + cc ∧ B.slots = A.slots + ss)) (hy : y.cls ≠ "java/lang/invoke/MethodHandle" ∧ y.cls ≠ "java/lang/invoke/VarHandle") (hc : cells + cc ≤ R.cells) (hs : slots + ss ≤ R.slots) (hL : L.size = ml) (hps : parseMethodDescriptor y.desc = some ⟨ps, r⟩) (hlen : argsL.length = ps.length) (hS : S0 = argsL.reverse ++ .ref a :: rest) (hW : (rest.map fun v => v.category).sum = W) (hd : decode bytes pc = .ok (.invokespecial i, 3)) (hp : pc + 3 = pc') (k : ∀ v T' h' L'', (Old Z n0 h' → Fr n0 L'' → St Z n0 p l e R s m args below meth c own nm bytes ml ret T' (locs ++ L'') (cells + cc) (slots + ss) h') → Q v h' L'' → Go p e below K (T'.setTop (mkF m pc' L (v.toList ++ rest)))) : Go p e below K (T.setTop (mkF m pc L S0)) := by
  subst hS hp
  subst hr
  obtain ⟨v, _, ⟨T', L'', k', n'⟩, -, X', ⟨Lc, hQ, l', y', z'⟩, st'⟩ := X.X.specialBack X.hx (y := y) hinit X.own_ (mvT X.hZ w1) (mvT X.hZ w2) (mvT X.hZ w4) hy Bk (g := mkF m pc L (argsL.reverse ++ .ref a :: rest)) rfl (by rw [X.ml_]; exact hL) (Steps.refl _) (a := a) (argsL := argsL) (rest := rest) (lenOf hps hlen) rfl (by show 2 * 0 + _ ≤ _; rw [hW, Nat.mul_zero, Nat.zero_add]; exact Nat.le_refl _) (X.d hd) (fun _ _ => ⟨rfl, X.eT, hc, hs⟩)
  dsimp only [Pt.U, Pt.locs, Pt.cells, Pt.slots] at X' l' y' z' st' hQ
  subst l' y' z'
  exact (k v T' T'.heap Lc (fun hz hF => ⟨X', X.2.1, rfl, X.fr.app hF, hz⟩) hQ).of (fun _ q => st'.trans q)
theorem g_callI (X : St Z n0 p l e R s m args below meth c own nm bytes ml ret T locs cells slots h) {i : Nat} {y : MethodName} {b' : ByteArray} {ml' : Nat} {ret' : Option FieldType} {rm : Room} {Q : Option Value → Heap → List Loc → Prop} {ps : List FieldType} {r : Option FieldType} {W : Nat} {S0 rest : List Value} (argsL : List Value) {a : Addr} (hinit : y.name = "<init>") (w1 : (Jvm.Cond.methodLink own i y).before a0 Z = true) (w2 : (Jvm.Cond.instanceMethod y).before a0 Z = true) (hr : ret' = none) (w4 : (Jvm.Cond.code y b' ml' ret').before a0 Z = true) (w3 : (Jvm.Cond.initialized y.cls).before a0 Z = true) (C : Con l Z y b' ml' ret' [] rm rm.cells rm.slots (.ref a :: argsL).toArray h Q) (hy : y.cls ≠ "java/lang/invoke/MethodHandle" ∧ y.cls ≠ "java/lang/invoke/VarHandle") (hf : rm.frames + 1 ≤ R.frames) (hl : W + (ml' + 11) + rm.locals ≤ R.locals) (hc : cells + rm.cells ≤ R.cells) (hs : slots + rm.slots ≤ R.slots) (hL : L.size = ml) (hps : parseMethodDescriptor y.desc = some ⟨ps, r⟩) (hlen : argsL.length = ps.length) (hS : S0 = argsL.reverse ++ .ref a :: rest) (hW : (rest.map fun v => v.category).sum = W) (hd : decode bytes pc = .ok (.invokespecial i, 3)) (hp : pc + 3 = pc') (k : ∀ v T' h' L'', (Old Z n0 h' → Fr n0 L'' → St Z n0 p l e R s m args below meth c own nm bytes ml ret T' (locs ++ L'') (cells + rm.cells) (slots + rm.slots) h') → Q v h' L'' → Go p e below K (T'.setTop (mkF m pc' L (v.toList ++ rest)))) : Go p e below K (T.setTop (mkF m pc L S0)) :=
  g_callIB X argsL hinit w1 w2 hr w4 (backOf (W := W) C X.hZ w4 w3 hf hl) hy hc hs hL hps hlen hS hW hd hp k
theorem g_callVB (X : St Z n0 p l e R s m args below meth c own nm bytes ml ret T locs cells slots h) {i : Nat} {y : MethodName} {b' : ByteArray} {ml' : Nat} {ret' : Option FieldType} {cc ss : Nat} {Q : Option Value → Heap → List Loc → Prop} {ps : List FieldType} {r : Option FieldType} {W : Nat} {S0 rest : List Value} (argsL : List Value) {C0 : String} {z : MethodName} {a : Addr} (w1 : (Jvm.Cond.methodLink own i y).before a0 Z = true) (w2 : (Jvm.Cond.declares y).before a0 Z = true) (nf : NotFace s y) (w5 : (Jvm.Cond.selects C0 y z).before a0 Z = true) (w6 : (Jvm.Cond.instanceMethod z).before a0 Z = true) (E : Exa Z h a C0) (w4 : (Jvm.Cond.code z b' ml' ret').before a0 Z = true) (Bk : Back l R p e below s args z 3 W (fun A a' => a' = (.ref a :: argsL).toArray ∧ A.U.heap = h ∧ A.cells + cc ≤ R.cells ∧ A.slots + ss ≤ R.slots) (fun A _ v B => ∃ L, Q v B.U.heap L ∧ B.locs = A.locs ++ L ∧ B.cells = A.cells + cc ∧ B.slots = A.slots + ss)) (hy : y.cls ≠ "java/lang/invoke/MethodHandle" ∧ y.cls ≠ "java/lang/invoke/VarHandle") (hc : cells + cc ≤ R.cells) (hs : slots + ss ≤ R.slots) (hL : L.size = ml) (hps : parseMethodDescriptor y.desc = some ⟨ps, r⟩) (hlen : argsL.length = ps.length) (hS : S0 = argsL.reverse ++ .ref a :: rest) (hW : (rest.map fun v => v.category).sum = W) (hd : decode bytes pc = .ok (.invokevirtual i, 3)) (hp : pc + 3 = pc') (k : ∀ v T' h' L'', (Old Z n0 h' → Fr n0 L'' → St Z n0 p l e R s m args below meth c own nm bytes ml ret T' (locs ++ L'') (cells + cc) (slots + ss) h') → Q v h' L'' → Go p e below K (T'.setTop (mkF m pc' L (v.toList ++ rest)))) : Go p e below K (T.setTop (mkF m pc L S0)) := by
  subst hS hp
  obtain ⟨cq, kq, q1, q2, q3⟩ := isOf X.hZ X.eT E
  obtain ⟨v, _, ⟨T', L'', k', n'⟩, -, X', ⟨Lc, hQ, l', y', z'⟩, st'⟩ := X.X.virtualBack X.hx (y := y) (z := z) X.own_ (mvT X.hZ w1) (mvT X.hZ w2) nf (mvT X.hZ w5) (mvT X.hZ w6) hy Bk q1 q3 (g := mkF m pc L (argsL.reverse ++ .ref a :: rest)) rfl (by rw [X.ml_]; exact hL) (Steps.refl _) (argsL := argsL) (rest := rest) (lenOf hps hlen) rfl (by show 2 * 0 + _ ≤ _; rw [hW, Nat.mul_zero, Nat.zero_add]; exact Nat.le_refl _) (X.d hd) (fun _ _ => ⟨rfl, X.eT, hc, hs⟩)
  dsimp only [Pt.U, Pt.locs, Pt.cells, Pt.slots] at X' l' y' z' st' hQ
  subst l' y' z'
  exact (k v T' T'.heap Lc (fun hz hF => ⟨X', X.2.1, rfl, X.fr.app hF, hz⟩) hQ).of (fun _ q => st'.trans q)
theorem g_callV (X : St Z n0 p l e R s m args below meth c own nm bytes ml ret T locs cells slots h) {i : Nat} {y : MethodName} {b' : ByteArray} {ml' : Nat} {ret' : Option FieldType} {rm : Room} {Q : Option Value → Heap → List Loc → Prop} {ps : List FieldType} {r : Option FieldType} {W : Nat} {S0 rest : List Value} (argsL : List Value) {C0 : String} {z : MethodName} {a : Addr} (w1 : (Jvm.Cond.methodLink own i y).before a0 Z = true) (w2 : (Jvm.Cond.declares y).before a0 Z = true) (nf : NotFace s y) (w5 : (Jvm.Cond.selects C0 y z).before a0 Z = true) (w6 : (Jvm.Cond.instanceMethod z).before a0 Z = true) (E : Exa Z h a C0) (w4 : (Jvm.Cond.code z b' ml' ret').before a0 Z = true) (w3 : (Jvm.Cond.initialized z.cls).before a0 Z = true) (C : Con l Z z b' ml' ret' [] rm rm.cells rm.slots (.ref a :: argsL).toArray h Q) (hy : y.cls ≠ "java/lang/invoke/MethodHandle" ∧ y.cls ≠ "java/lang/invoke/VarHandle") (hf : rm.frames + 1 ≤ R.frames) (hl : W + (ml' + 11) + rm.locals ≤ R.locals) (hc : cells + rm.cells ≤ R.cells) (hs : slots + rm.slots ≤ R.slots) (hL : L.size = ml) (hps : parseMethodDescriptor y.desc = some ⟨ps, r⟩) (hlen : argsL.length = ps.length) (hS : S0 = argsL.reverse ++ .ref a :: rest) (hW : (rest.map fun v => v.category).sum = W) (hd : decode bytes pc = .ok (.invokevirtual i, 3)) (hp : pc + 3 = pc') (k : ∀ v T' h' L'', (Old Z n0 h' → Fr n0 L'' → St Z n0 p l e R s m args below meth c own nm bytes ml ret T' (locs ++ L'') (cells + rm.cells) (slots + rm.slots) h') → Q v h' L'' → Go p e below K (T'.setTop (mkF m pc' L (v.toList ++ rest)))) : Go p e below K (T.setTop (mkF m pc L S0)) :=
  g_callVB X argsL w1 w2 nf w5 w6 E w4 (backOf (W := W) C X.hZ w4 w3 hf hl) hy hc hs hL hps hlen hS hW hd hp k
theorem g_retI (X : St Z n0 p l e R s m args below meth c own nm bytes ml ret T locs cells slots h) {C N : Nat} {Q : Option Value → Heap → List Loc → Prop} {z : Int32} (hr : ret = some .int) (hd : decode bytes pc = .ok (.ireturn, 1)) (hc : cells ≤ C) (hs : slots ≤ N) (q : Q (some (.int z)) h locs) : Go p e below (Kq s C N Q) (T.setTop (mkF m pc L (.int z :: S))) := by
  obtain ⟨fs, hl, hrun, hended, hW, hsame⟩ := X.X.leave (v := (some (.int z))) (fun h => by rw [X.ret_, hr] at h; cases h) X.lk
  exact ⟨_, _, retOut X.X X.hx (t := .int) (X.ret_.trans hr) rfl (Or.inl ⟨rfl, Or.inl rfl, _, rfl⟩) (X.d hd) hl, hrun, hended, _, _, rfl, (show Q _ T.heap _ by rw [X.eT]; exact q), ⟨_, rfl⟩, hW, hsame.mono hc hs⟩
theorem g_retL (X : St Z n0 p l e R s m args below meth c own nm bytes ml ret T locs cells slots h) {C N : Nat} {Q : Option Value → Heap → List Loc → Prop} {z : Int64} (hr : ret = some .long) (hd : decode bytes pc = .ok (.lreturn, 1)) (hc : cells ≤ C) (hs : slots ≤ N) (q : Q (some (.long z)) h locs) : Go p e below (Kq s C N Q) (T.setTop (mkF m pc L (.long z :: S))) := by
  obtain ⟨fs, hl, hrun, hended, hW, hsame⟩ := X.X.leave (v := (some (.long z))) (fun h => by rw [X.ret_, hr] at h; cases h) X.lk
  exact ⟨_, _, retOut X.X X.hx (t := .long) (X.ret_.trans hr) rfl (Or.inr (Or.inl ⟨rfl, rfl, _, rfl⟩)) (X.d hd) hl, hrun, hended, _, _, rfl, (show Q _ T.heap _ by rw [X.eT]; exact q), ⟨_, rfl⟩, hW, hsame.mono hc hs⟩
theorem g_retA (X : St Z n0 p l e R s m args below meth c own nm bytes ml ret T locs cells slots h) {C N : Nat} {Q : Option Value → Heap → List Loc → Prop} {z : Value} {t : FieldType} (hz : z.isRef = true) (ht : t.isReference = true) (hr : ret = some t) (hd : decode bytes pc = .ok (.areturn, 1)) (hc : cells ≤ C) (hs : slots ≤ N) (q : Q (some z) h locs) : Go p e below (Kq s C N Q) (T.setTop (mkF m pc L (z :: S))) := by
  obtain ⟨fs, hl, hrun, hended, hW, hsame⟩ := X.X.leave (v := (some z)) (fun h => by rw [X.ret_, hr] at h; cases h) X.lk
  exact ⟨_, _, retOut X.X X.hx (t := t) (X.ret_.trans hr) (by cases z <;> cases t <;> simp [Value.isRef, FieldType.isReference, narrow] at hz ht ⊢) (Or.inr (Or.inr (Or.inr (Or.inr ⟨rfl, ht, hz⟩)))) (X.d hd) hl, hrun, hended, _, _, rfl, (show Q _ T.heap _ by rw [X.eT]; exact q), ⟨_, rfl⟩, hW, hsame.mono hc hs⟩
theorem g_retN (X : St Z n0 p l e R s m args below meth c own nm bytes ml ret T locs cells slots h) {C N : Nat} {Q : Option Value → Heap → List Loc → Prop} {z : Int32} {t : FieldType} (ht : t = .boolean ∨ t = .byte ∨ t = .char ∨ t = .short) (hr : ret = some t) (hd : decode bytes pc = .ok (.ireturn, 1)) (hc : cells ≤ C) (hs : slots ≤ N) (q : Q (some (.int (nar t z))) h locs) : Go p e below (Kq s C N Q) (T.setTop (mkF m pc L (.int z :: S))) := by
  obtain ⟨fs, hl, hrun, hended, hW, hsame⟩ := X.X.leave (v := (some (.int (nar t z)))) (fun h => by rw [X.ret_, hr] at h; cases h) X.lk
  exact ⟨_, _, retN X.X X.hx (t := t) (X.ret_.trans hr) ht (X.d hd) hl, hrun, hended, _, _, rfl, (show Q _ T.heap _ by rw [X.eT]; exact q), ⟨_, rfl⟩, hW, hsame.mono hc hs⟩
theorem g_ret (X : St Z n0 p l e R s m args below meth c own nm bytes ml ret T locs cells slots h) {C N : Nat} {Q : Option Value → Heap → List Loc → Prop} (hr : ret = none) (hd : decode bytes pc = .ok (.return_, 1)) (hc : cells ≤ C) (hs : slots ≤ N) (q : Q none h locs) : Go p e below (Kq s C N Q) (T.setTop (mkF m pc L [])) := by
  obtain ⟨fs, hl, hrun, hended, hW, hsame⟩ := X.X.leave (v := none) (fun _ => rfl) X.lk
  exact ⟨_, _, X.X.returnOut X.hx (X.ret_.trans hr) (X.d hd) hl, hrun, hended, _, _, rfl, (show Q _ T.heap _ by rw [X.eT]; exact q), ⟨_, rfl⟩, hW, hsame.mono hc hs⟩
theorem nm0 {a : Addr} : a ∉ ([] : List Addr) := List.not_mem_nil
theorem nm1 {a b : Addr} (h : a ≠ b) : a ∉ [b] := by simpa using h
theorem nm2 {a b d : Addr} (h : a ≠ b) (h' : a ≠ d) : a ∉ [b, d] := by simp [h, h']
theorem keep_ext {h' : Heap} (E : Ext h h') (ws : List Addr) : Keep h h' ws := (Keep.refl h ws).ext E
theorem ne_new {a b k : Nat} (h1 : a < k) (h2 : b = k) : a ≠ b := by omega
theorem ne_new' {a b k : Nat} (h1 : a < k) (h2 : b = k) : b ≠ a := by omega
end Own

theorem m0 : (Jvm.Cond.arrayClass Jvm.ClassFile.FieldType.byte) ∈ tables_1 := List.mem_of_getElem? (i := 0) rfl
theorem m1 : (Jvm.Cond.constant "com/example/indexloom/indexloom/TextsEqualPinLaw" (7 : Nat) (2147483647 : Int32)) ∈ tables_1 := List.mem_of_getElem? (i := 1) rfl
theorem m2 : (Jvm.Cond.methodLink "com/example/indexloom/indexloom/TextsEqualPinLaw" (8 : Nat) ({ cls := "com/example/indexloom/indexloom/TextsEqualPinLaw", name := "pick", desc := "(IIBII)B" } : Jvm.MethodName)) ∈ tables_1 := List.mem_of_getElem? (i := 2) rfl
theorem m3 : (Jvm.Cond.static ({ cls := "com/example/indexloom/indexloom/TextsEqualPinLaw", name := "pick", desc := "(IIBII)B" } : Jvm.MethodName)) ∈ tables_1 := List.mem_of_getElem? (i := 3) rfl
theorem m4 : (Jvm.Cond.initialized "com/example/indexloom/indexloom/TextsEqualPinLaw") ∈ tables_1 := List.mem_of_getElem? (i := 4) rfl
theorem m5 : (Jvm.Cond.code ({ cls := "com/example/indexloom/indexloom/TextsEqualPinLaw", name := "pick", desc := "(IIBII)B" } : Jvm.MethodName) method_2_code (5 : Nat) (Option.some Jvm.ClassFile.FieldType.byte)) ∈ tables_1 := List.mem_of_getElem? (i := 5) rfl
theorem m6 : (Jvm.Cond.methodLink "com/example/indexloom/indexloom/TextsEqualPinLaw" (14 : Nat) ({ cls := "com/example/indexloom/indexloom/Texts", name := "equal", desc := "([B[BII)Z" } : Jvm.MethodName)) ∈ tables_1 := List.mem_of_getElem? (i := 6) rfl
theorem m7 : (Jvm.Cond.static ({ cls := "com/example/indexloom/indexloom/Texts", name := "equal", desc := "([B[BII)Z" } : Jvm.MethodName)) ∈ tables_1 := List.mem_of_getElem? (i := 7) rfl
theorem m8 : (Jvm.Cond.initialized "com/example/indexloom/indexloom/Texts") ∈ tables_1 := List.mem_of_getElem? (i := 8) rfl
theorem m9 : (Jvm.Cond.code ({ cls := "com/example/indexloom/indexloom/Texts", name := "equal", desc := "([B[BII)Z" } : Jvm.MethodName) prog_100_method_9_code (5 : Nat) (Option.some Jvm.ClassFile.FieldType.boolean)) ∈ tables_1 := List.mem_of_getElem? (i := 9) rfl
theorem pd_0 : parseMethodDescriptor "(IIBII)B" = some ⟨[.int, .int, .byte, .int, .int], some .byte⟩ := by decide +kernel
theorem pd_1 : parseMethodDescriptor "([B[BII)Z" = some ⟨[(.array .byte), (.array .byte), .int, .int], some .boolean⟩ := by decide +kernel
theorem pn_0 : plainName "com/example/indexloom/indexloom/TextsEqualPinLaw" = true := by first | (simp [plainName, overriddenIn]; done) | decide +kernel
theorem pn_1 : plainName "com/example/indexloom/indexloom/Texts" = true := by first | (simp [plainName, overriddenIn]; done) | decide +kernel
theorem own_idem (x : Int32) : nar .byte (nar .byte x) = nar .byte x := by simp [nar]
theorem own_small {j : Nat} (h : j < 2 ^ 31) : (Int32.ofNat j).toInt = (j : Int) := Int32.toInt_ofNat_small h
theorem own_succ (j : Nat) : Int32.ofNat j + (1 : Int32) = Int32.ofNat (j + 1) := by rw [Int32.ofNat_add]; rfl
theorem own_at (ks : List Int32) {j : Nat} (h : j < ks.length) : (ks.map Value.int)[j]? = some (.int (ks.getD j 0)) := by simp [List.getD_eq_getElem?_getD, h]
theorem own_rng (g : Nat → Int32) {n j : Nat} (h : j < n) : ((List.range n).map fun i => Value.int (g i))[j]? = some (.int (g j)) := by simp [h]
theorem own_plus {s : Int32} {i j : Nat} (h : s.toInt = (i : Int)) (hb : i + j < 2 ^ 31) : (s + Int32.ofNat j).toInt = ((i + j : Nat) : Int) := by
  have e := own_small (j := j) (by omega)
  rw [Jvm.Kit.i32_add (by omega) (by omega), h, e]; omega
theorem own_lt {j n : Nat} (hn : n < 2 ^ 31) (h : j < n) : ¬ ¬ Int32.ofNat j < n.toInt32 := by
  have e1 := own_small (j := j) (by omega)
  have e2 : n.toInt32.toInt = (n : Int) := Int32.toInt_ofNat_small hn
  rw [Int32.lt_iff_toInt_lt]; omega
theorem own_ge {n : Nat} (hn : n < 2 ^ 31) : ¬ Int32.ofNat n < n.toInt32 := by
  have e1 := own_small (j := n) (by omega)
  have e2 : n.toInt32.toInt = (n : Int) := Int32.toInt_ofNat_small hn
  rw [Int32.lt_iff_toInt_lt]; omega
theorem own_same {P P' : Prop} {z e : Int32} (h : (P ∧ z = 1) ∨ (¬ P ∧ z = 0)) (h' : (P' ∧ e = 1) ∨ (¬ P' ∧ e = 0)) (q : P ↔ P') : z = e := by
  rcases h with ⟨a, rfl⟩ | ⟨a, rfl⟩ <;> rcases h' with ⟨b, rfl⟩ | ⟨b, rfl⟩
  · rfl
  · exact absurd (q.mp a) b
  · exact absurd (q.mpr b) a
  · rfl
theorem d1_0 : decode method_2_code 0 = .ok (.iload_n 0, 1) := by decide +kernel
theorem d1_1 : decode method_2_code 1 = .ok (.iload_n 1, 1) := by decide +kernel
theorem d1_2 : decode method_2_code 2 = .ok (.iushr, 1) := by decide +kernel
theorem d1_3 : decode method_2_code 3 = .ok (.iconst 1, 1) := by decide +kernel
theorem d1_4 : decode method_2_code 4 = .ok (.iand, 1) := by decide +kernel
theorem d1_5 : decode method_2_code 5 = .ok (.ifCond .eq 5, 3) := by decide +kernel
theorem d1_8 : decode method_2_code 8 = .ok (.iload_n 2, 1) := by decide +kernel
theorem d1_9 : decode method_2_code 9 = .ok (.ireturn, 1) := by decide +kernel
theorem d1_10 : decode method_2_code 10 = .ok (.iload_n 3, 1) := by decide +kernel
theorem d1_11 : decode method_2_code 11 = .ok (.bipush 8, 2) := by decide +kernel
theorem d1_13 : decode method_2_code 13 = .ok (.iload 4, 2) := by decide +kernel
theorem d1_15 : decode method_2_code 15 = .ok (.imul, 1) := by decide +kernel
theorem d1_16 : decode method_2_code 16 = .ok (.iushr, 1) := by decide +kernel
theorem d1_17 : decode method_2_code 17 = .ok (.i2b, 1) := by decide +kernel
theorem d1_18 : decode method_2_code 18 = .ok (.ireturn, 1) := by decide +kernel
theorem ef_1 (m : MethodId) (k : Int32) (bit : Int32) (same : Int32) (d : Int32) (i : Int32) : entryFrame m #[(.int k), (.int bit), (.int same), (.int d), (.int i)] 5 = mkF m 0 #[.val (.int k), .val (.int bit), .val (.int same), .val (.int d), .val (.int i)] [] := by first | (simp [entryFrame, mkF, argsToLocals, Value.category]; done) | rfl
def R1 : Room := ({ frames := 0, cells := 0, slots := 0, locals := 0 } : Room)
set_option maxRecDepth 65536 in
set_option maxHeartbeats 40000000 in
theorem rm1 (l : Launch) (Z : State) (a0 : Array Value) (hw : ∀ d ∈ tables_1, d.before a0 Z = true) (k : Int32) (bit : Int32) (same : Int32) (d : Int32) (i : Int32) (h0 : Heap) (n0 : Nat) (hO : Old Z n0 h0)  :
    Con l Z (⟨"com/example/indexloom/indexloom/TextsEqualPinLaw", "pick", "(IIBII)B"⟩ : MethodName) method_2_code 5 (some .byte) [] R1 R1.cells R1.slots #[(.int k), (.int bit), (.int same), (.int d), (.int i)] h0 (fun v h L => ∃ z : Int32, v = some (.int z) ∧ nar .byte z = z ∧ h0 = h ∧ L = []) := by
  refine Con.intro (n0 := n0) (plainFor_of_name pn_0) (fun m => ef_1 m k bit same d i) hO ?_
  intro p e s m below meth c T hs0 X0
  refine g_iloadN X0 d1_0 (pc' := 1) rfl rfl ?_
  refine g_iloadN X0 d1_1 (pc' := 2) rfl rfl ?_
  refine g_iushr X0 d1_2 (pc' := 3) rfl ?_
  refine g_iconst X0 d1_3 (pc' := 4) rfl (v := (1 : Int32)) rfl ?_
  refine g_iand X0 d1_4 (pc' := 5) rfl ?_
  refine g_if_eq X0 d1_5 (pt := 10) (by decide) (pc' := 8) rfl (fun hc5 => ?_) (fun hc5 => ?_)
  · refine g_iloadN X0 d1_10 (pc' := 11) rfl rfl ?_
    refine g_bipush X0 d1_11 (pc' := 13) rfl (v := (8 : Int32)) rfl ?_
    refine g_iload X0 d1_13 (pc' := 15) rfl rfl ?_
    refine g_imul X0 d1_15 (pc' := 16) rfl ?_
    refine g_iushr X0 d1_16 (pc' := 17) rfl ?_
    refine g_i2b X0 d1_17 (pc' := 18) rfl ?_
    exact g_retN X0 (by simp) rfl d1_18 (by decide) (by decide) ⟨_, rfl, own_idem _, rfl, rfl⟩
  · refine g_iloadN X0 d1_8 (pc' := 9) rfl rfl ?_
    exact g_retN X0 (by simp) rfl d1_9 (by decide) (by decide) ⟨_, rfl, own_idem _, rfl, rfl⟩

theorem d2_0 : decode prog_100_method_9_code 0 = .ok (.iload_n 3, 1) := by decide +kernel
theorem d2_1 : decode prog_100_method_9_code 1 = .ok (.iload_n 2, 1) := by decide +kernel
theorem d2_2 : decode prog_100_method_9_code 2 = .ok (.isub, 1) := by decide +kernel
theorem d2_3 : decode prog_100_method_9_code 3 = .ok (.aload_n 0, 1) := by decide +kernel
theorem d2_4 : decode prog_100_method_9_code 4 = .ok (.arraylength, 1) := by decide +kernel
theorem d2_5 : decode prog_100_method_9_code 5 = .ok (.if_icmp .eq 5, 3) := by decide +kernel
theorem d2_8 : decode prog_100_method_9_code 8 = .ok (.iconst 0, 1) := by decide +kernel
theorem d2_9 : decode prog_100_method_9_code 9 = .ok (.ireturn, 1) := by decide +kernel
theorem d2_10 : decode prog_100_method_9_code 10 = .ok (.iconst 0, 1) := by decide +kernel
theorem d2_11 : decode prog_100_method_9_code 11 = .ok (.istore 4, 2) := by decide +kernel
theorem d2_13 : decode prog_100_method_9_code 13 = .ok (.iload 4, 2) := by decide +kernel
theorem d2_15 : decode prog_100_method_9_code 15 = .ok (.aload_n 0, 1) := by decide +kernel
theorem d2_16 : decode prog_100_method_9_code 16 = .ok (.arraylength, 1) := by decide +kernel
theorem d2_17 : decode prog_100_method_9_code 17 = .ok (.if_icmp .ge 24, 3) := by decide +kernel
theorem d2_20 : decode prog_100_method_9_code 20 = .ok (.aload_n 0, 1) := by decide +kernel
theorem d2_21 : decode prog_100_method_9_code 21 = .ok (.iload 4, 2) := by decide +kernel
theorem d2_23 : decode prog_100_method_9_code 23 = .ok (.baload, 1) := by decide +kernel
theorem d2_24 : decode prog_100_method_9_code 24 = .ok (.aload_n 1, 1) := by decide +kernel
theorem d2_25 : decode prog_100_method_9_code 25 = .ok (.iload_n 2, 1) := by decide +kernel
theorem d2_26 : decode prog_100_method_9_code 26 = .ok (.iload 4, 2) := by decide +kernel
theorem d2_28 : decode prog_100_method_9_code 28 = .ok (.iadd, 1) := by decide +kernel
theorem d2_29 : decode prog_100_method_9_code 29 = .ok (.baload, 1) := by decide +kernel
theorem d2_30 : decode prog_100_method_9_code 30 = .ok (.if_icmp .eq 5, 3) := by decide +kernel
theorem d2_33 : decode prog_100_method_9_code 33 = .ok (.iconst 0, 1) := by decide +kernel
theorem d2_34 : decode prog_100_method_9_code 34 = .ok (.ireturn, 1) := by decide +kernel
theorem d2_35 : decode prog_100_method_9_code 35 = .ok (.iinc 4 1, 3) := by decide +kernel
theorem d2_38 : decode prog_100_method_9_code 38 = .ok (.goto (-25), 3) := by decide +kernel
theorem d2_41 : decode prog_100_method_9_code 41 = .ok (.iconst 1, 1) := by decide +kernel
theorem d2_42 : decode prog_100_method_9_code 42 = .ok (.ireturn, 1) := by decide +kernel
theorem ef_2 (m : MethodId) (a : Addr) (b : Addr) (st : Int32) (en : Int32) : entryFrame m #[(.ref a), (.ref b), (.int st), (.int en)] 5 = mkF m 0 #[.val (.ref a), .val (.ref b), .val (.int st), .val (.int en), .unset] [] := by first | (simp [entryFrame, mkF, argsToLocals, Value.category]; done) | rfl
def R2 : Room := ({ frames := 0, cells := 0, slots := 0, locals := 0 } : Room)
set_option maxRecDepth 65536 in
set_option maxHeartbeats 40000000 in
theorem rm2 (l : Launch) (Z : State) (a0 : Array Value) (hw : ∀ d ∈ tables_1, d.before a0 Z = true) (a : Addr) (b : Addr) (st : Int32) (en : Int32) (h0 : Heap) (n0 : Nat) (hO : Old Z n0 h0) (ks : List Int32) (g : Nat → Int32) (i N : Nat) (A_a : Arx Z h0 a .byte (ks.map Value.int)) (A_b : Arx Z h0 b .byte ((List.range N).map fun j => Value.int (g j))) (hi : st.toInt = (i : Int)) (hN : i + ks.length ≤ N) (hN2 : N < 2 ^ 31) :
    Con l Z (⟨"com/example/indexloom/indexloom/Texts", "equal", "([B[BII)Z"⟩ : MethodName) prog_100_method_9_code 5 (some .boolean) [] R2 R2.cells R2.slots #[(.ref a), (.ref b), (.int st), (.int en)] h0 (fun v h L => ∃ z : Int32, v = some (.int z) ∧ (((en - st = ks.length.toInt32 ∧ ∀ t, t < ks.length → ks.getD t 0 = g (i + t)) ∧ z = 1) ∨ (¬ (en - st = ks.length.toInt32 ∧ ∀ t, t < ks.length → ks.getD t 0 = g (i + t)) ∧ z = 0)) ∧ h0 = h ∧ L = []) := by
  refine Con.intro (n0 := n0) (plainFor_of_name pn_1) (fun m => ef_2 m a b st en) hO ?_
  intro p e s m below meth c T hs0 X0
  have hkl : ks.length < 2 ^ 31 := by have := A_a.le; rwa [List.length_map] at this
  have loop : en - st = ks.length.toInt32 → ∀ (r j : Nat), j + r = ks.length → (∀ t, t < j → ks.getD t 0 = g (i + t)) → Go p e below (Kq s R2.cells R2.slots (fun v h L => ∃ z : Int32, v = some (.int z) ∧ (((en - st = ks.length.toInt32 ∧ ∀ t, t < ks.length → ks.getD t 0 = g (i + t)) ∧ z = 1) ∨ (¬ (en - st = ks.length.toInt32 ∧ ∀ t, t < ks.length → ks.getD t 0 = g (i + t)) ∧ z = 0)) ∧ h0 = h ∧ L = [])) (T.setTop (mkF m 13 #[.val (.ref a), .val (.ref b), .val (.int st), .val (.int en), .val (.int (Int32.ofNat j))] [])) := by
    intro hlen r
    induction r with
    | zero =>
      intro j hj hall
      obtain rfl : j = ks.length := by omega
      refine g_iload X0 d2_13 (pc' := 15) rfl rfl ?_
      refine g_aloadN X0 d2_15 (pc' := 16) rfl rfl rfl ?_
      refine g_arraylength X0 (n := ks.length.toInt32) A_a (by rw [List.length_map]) d2_16 (pc' := 17) rfl ?_
      refine g_icmp_ge_t X0 d2_17 (pt := 41) (by decide) (own_ge hkl) ?_
      refine g_iconst X0 d2_41 (pc' := 42) rfl (v := (1 : Int32)) rfl ?_
      exact g_retN X0 (Or.inl rfl) rfl d2_42 (by decide) (by decide) ⟨_, rfl, Or.inl ⟨⟨hlen, fun t ht => hall t (by omega)⟩, rfl⟩, rfl, rfl⟩
    | succ r ih =>
      intro j hj hall
      refine g_iload X0 d2_13 (pc' := 15) rfl rfl ?_
      refine g_aloadN X0 d2_15 (pc' := 16) rfl rfl rfl ?_
      refine g_arraylength X0 (n := ks.length.toInt32) A_a (by rw [List.length_map]) d2_16 (pc' := 17) rfl ?_
      refine g_icmp_ge_f X0 d2_17 (pc' := 20) rfl (Decidable.not_not.mp (own_lt hkl (by omega))) ?_
      refine g_aloadN X0 d2_20 (pc' := 21) rfl rfl rfl ?_
      refine g_iload X0 d2_21 (pc' := 23) rfl rfl ?_
      refine g_baload X0 (i := j) (v := (.int (ks.getD j 0))) A_a (own_small (by omega)) (own_at ks (by omega)) d2_23 (pc' := 24) rfl ?_
      refine g_aloadN X0 d2_24 (pc' := 25) rfl rfl rfl ?_
      refine g_iloadN X0 d2_25 (pc' := 26) rfl rfl ?_
      refine g_iload X0 d2_26 (pc' := 28) rfl rfl ?_
      refine g_iadd X0 d2_28 (pc' := 29) rfl ?_
      refine g_baload X0 (i := (i + j)) (v := (.int (g (i + j)))) A_b (own_plus hi (by omega)) (own_rng g (by omega)) d2_29 (pc' := 30) rfl ?_
      refine g_icmp_eq X0 d2_30 (pt := 35) (by decide) (pc' := 33) rfl (fun hc30 => ?_) (fun hc30 => ?_)
      · refine g_iinc X0 d2_35 (pc' := 38) rfl rfl (L' := #[.val (.ref a), .val (.ref b), .val (.int st), .val (.int en), .val (.int ((Int32.ofNat j) + (1 : Int32)))]) rfl ?_
        refine g_goto X0 d2_38 (pt := 13) (by decide) ?_
        rw [own_succ]
        exact ih (j + 1) (by omega) (fun t ht => by rcases Nat.lt_succ_iff_lt_or_eq.mp ht with q | q; exact hall t q; rw [q]; exact hc30)
      · refine g_iconst X0 d2_33 (pc' := 34) rfl (v := (0 : Int32)) rfl ?_
        exact g_retN X0 (Or.inl rfl) rfl d2_34 (by decide) (by decide) ⟨_, rfl, Or.inr ⟨fun q => hc30 (q.2 j (by omega)), rfl⟩, rfl, rfl⟩
  refine g_iloadN X0 d2_0 (pc' := 1) rfl rfl ?_
  refine g_iloadN X0 d2_1 (pc' := 2) rfl rfl ?_
  refine g_isub X0 d2_2 (pc' := 3) rfl ?_
  refine g_aloadN X0 d2_3 (pc' := 4) rfl rfl rfl ?_
  refine g_arraylength X0 (n := ks.length.toInt32) A_a (by rw [List.length_map]) d2_4 (pc' := 5) rfl ?_
  refine g_icmp_eq X0 d2_5 (pt := 10) (by decide) (pc' := 8) rfl (fun hc5 => ?_) (fun hc5 => ?_)
  · refine g_iconst X0 d2_10 (pc' := 11) rfl (v := (0 : Int32)) rfl ?_
    refine g_istore X0 d2_11 (pc' := 13) rfl (L' := #[.val (.ref a), .val (.ref b), .val (.int st), .val (.int en), .val (.int (0 : Int32))]) rfl ?_
    exact loop hc5 ks.length 0 (by omega) (fun t ht => absurd ht (Nat.not_lt_zero t))
  · refine g_iconst X0 d2_8 (pc' := 9) rfl (v := (0 : Int32)) rfl ?_
    exact g_retN X0 (Or.inl rfl) rfl d2_9 (by decide) (by decide) ⟨_, rfl, Or.inr ⟨fun q => hc5 q.1, rfl⟩, rfl, rfl⟩

theorem own_four (y : Int32) : y &&& (3 : Int32) = (0 : Int32) ∨ y &&& (3 : Int32) = (1 : Int32) ∨ y &&& (3 : Int32) = (2 : Int32) ∨ y &&& (3 : Int32) = (3 : Int32) := by
  have e1 : (y &&& (3 : Int32)).toInt = y.toInt % 2 ^ 2 := Jvm.Kit.i32_mask y 3 (k := 2) (by decide) (by decide)
  have : y.toInt % 2 ^ 2 = 0 ∨ y.toInt % 2 ^ 2 = 1 ∨ y.toInt % 2 ^ 2 = 2 ∨ y.toInt % 2 ^ 2 = 3 := by omega
  rcases this with q | q | q | q <;> rw [q] at e1
  · exact Or.inl (Int32.toInt_inj.mp e1)
  · exact Or.inr (Or.inl (Int32.toInt_inj.mp e1))
  · exact Or.inr (Or.inr (Or.inl (Int32.toInt_inj.mp e1)))
  · exact Or.inr (Or.inr (Or.inr (Int32.toInt_inj.mp e1)))
theorem own_start (y : Int32) : ∃ i : Nat, i ≤ 4 ∧ ((y &&& (2147483647 : Int32)) % (5 : Int32)).toInt = (i : Int) := by
  have e1 : (y &&& (2147483647 : Int32)).toInt = y.toInt % 2 ^ 31 := Jvm.Kit.i32_mask y 2147483647 (k := 31) (by decide) (by decide)
  have h0 : 0 ≤ (y &&& (2147483647 : Int32)).toInt := by rw [e1]; omega
  have e5 : (5 : Int32).toInt = 5 := rfl
  rw [Int32.toInt_mod, Int.tmod_eq_emod_of_nonneg h0, e5]
  generalize (y &&& (2147483647 : Int32)).toInt = u at *
  exact ⟨(u % 5).toNat, by omega, by omega⟩
theorem own_off {s : Int32} {i : Nat} (h : s.toInt = (i : Int)) (h4 : i ≤ 4) (c : Nat) (hc : c ≤ 2) : (s + Int32.ofNat c).toInt = ((i + c : Nat) : Int) := own_plus h (by omega)
theorem ef_0 (m : MethodId) (k : Int32) (sv : Int32) (ev : Int32) (f : Int64) (d : Int32) : entryFrame m #[(.int k), (.int sv), (.int ev), (.long f), (.int d)] maxLocals = mkF m 0 #[.val (.int k), .val (.int sv), .val (.int ev), .val (.long f), .second, .val (.int d), .unset, .unset, .unset, .unset, .unset, .unset, .unset, .unset, .unset, .unset, .unset, .unset, .unset] [] := by first | (simp [entryFrame, mkF, argsToLocals, Value.category, maxLocals]; done) | rfl
set_option maxRecDepth 65536 in
set_option maxHeartbeats 40000000 in
theorem rm0 (l : Launch) (Z : State) (a0 : Array Value) (hw : ∀ d ∈ tables_1, d.before a0 Z = true) (ws : List Jvm.Cond) (k : Int32) (sv : Int32) (ev : Int32) (f : Int64) (d : Int32) (h0 : Heap) (n0 : Nat) (hO : Old Z n0 h0)  :
    Con l Z x code maxLocals ret ws room_1 24 128 #[(.int k), (.int sv), (.int ev), (.long f), (.int d)] h0 (fun v h L => v = some (.int 1) ∧ Fr n0 L) := by
  refine Con.intro (n0 := n0) (plainFor_of_name pn_0) (fun m => ef_0 m k sv ev f d) hO ?_
  intro p e s m below meth c T hs0 X0
  refine g_bipush X0 at_0 (pc' := 2) rfl (v := (7 : Int32)) rfl ?_
  refine g_newarray X0 (aty := .byte) (cap := 7) (vs := [(.int (0 : Int32)), (.int (0 : Int32)), (.int (0 : Int32)), (.int (0 : Int32)), (.int (0 : Int32)), (.int (0 : Int32)), (.int (0 : Int32))]) (hw _ m0) (by decide) (by decide) rfl (by decide) at_2 (pc' := 4) rfl (by decide) (by decide) (fun T1 h1 b1 X1 g1 E1 A1 l1 => ?_)
  refine g_astore X1 at_4 (pc' := 6) rfl rfl (L' := #[.val (.int k), .val (.int sv), .val (.int ev), .val (.long f), .second, .val (.int d), .val (.ref b1), .unset, .unset, .unset, .unset, .unset, .unset, .unset, .unset, .unset, .unset, .unset, .unset]) rfl ?_
  refine g_aload X1 at_6 (pc' := 8) rfl rfl rfl ?_
  refine g_iconst X1 at_8 (pc' := 9) rfl (v := (0 : Int32)) rfl ?_
  refine g_lloadN X1 at_9 (pc' := 10) rfl rfl ?_
  refine g_l2i X1 at_10 (pc' := 11) rfl ?_
  refine g_i2b X1 at_11 (pc' := 12) rfl ?_
  refine g_bastore X1 (i := 0) A1 (by decide) (by simp) l1 at_12 (pc' := 13) rfl (fun T2 h2 X2 W2 A2 => ?_)
  have A2 : Arx Z h2 b1 .byte [(.int (nar .byte ((f.toInt32).toInt8.toInt32))), (.int (0 : Int32)), (.int (0 : Int32)), (.int (0 : Int32)), (.int (0 : Int32)), (.int (0 : Int32)), (.int (0 : Int32))] := A2
  refine g_aload X2 at_13 (pc' := 15) rfl rfl rfl ?_
  refine g_iconst X2 at_15 (pc' := 16) rfl (v := (1 : Int32)) rfl ?_
  refine g_lloadN X2 at_16 (pc' := 17) rfl rfl ?_
  refine g_bipush X2 at_17 (pc' := 19) rfl (v := (8 : Int32)) rfl ?_
  refine g_lushr X2 at_19 (pc' := 20) rfl ?_
  refine g_l2i X2 at_20 (pc' := 21) rfl ?_
  refine g_i2b X2 at_21 (pc' := 22) rfl ?_
  refine g_bastore X2 (i := 1) A2 (by decide) (by simp) l1 at_22 (pc' := 23) rfl (fun T3 h3 X3 W3 A3 => ?_)
  have A3 : Arx Z h3 b1 .byte [(.int (nar .byte ((f.toInt32).toInt8.toInt32))), (.int (nar .byte ((((f.toUInt64 >>> ((8 : Int32) &&& 0x3f).toInt64.toUInt64).toInt64).toInt32).toInt8.toInt32))), (.int (0 : Int32)), (.int (0 : Int32)), (.int (0 : Int32)), (.int (0 : Int32)), (.int (0 : Int32))] := A3
  refine g_aload X3 at_23 (pc' := 25) rfl rfl rfl ?_
  refine g_iconst X3 at_25 (pc' := 26) rfl (v := (2 : Int32)) rfl ?_
  refine g_lloadN X3 at_26 (pc' := 27) rfl rfl ?_
  refine g_bipush X3 at_27 (pc' := 29) rfl (v := (16 : Int32)) rfl ?_
  refine g_lushr X3 at_29 (pc' := 30) rfl ?_
  refine g_l2i X3 at_30 (pc' := 31) rfl ?_
  refine g_i2b X3 at_31 (pc' := 32) rfl ?_
  refine g_bastore X3 (i := 2) A3 (by decide) (by simp) l1 at_32 (pc' := 33) rfl (fun T4 h4 X4 W4 A4 => ?_)
  have A4 : Arx Z h4 b1 .byte [(.int (nar .byte ((f.toInt32).toInt8.toInt32))), (.int (nar .byte ((((f.toUInt64 >>> ((8 : Int32) &&& 0x3f).toInt64.toUInt64).toInt64).toInt32).toInt8.toInt32))), (.int (nar .byte ((((f.toUInt64 >>> ((16 : Int32) &&& 0x3f).toInt64.toUInt64).toInt64).toInt32).toInt8.toInt32))), (.int (0 : Int32)), (.int (0 : Int32)), (.int (0 : Int32)), (.int (0 : Int32))] := A4
  refine g_aload X4 at_33 (pc' := 35) rfl rfl rfl ?_
  refine g_iconst X4 at_35 (pc' := 36) rfl (v := (3 : Int32)) rfl ?_
  refine g_lloadN X4 at_36 (pc' := 37) rfl rfl ?_
  refine g_bipush X4 at_37 (pc' := 39) rfl (v := (24 : Int32)) rfl ?_
  refine g_lushr X4 at_39 (pc' := 40) rfl ?_
  refine g_l2i X4 at_40 (pc' := 41) rfl ?_
  refine g_i2b X4 at_41 (pc' := 42) rfl ?_
  refine g_bastore X4 (i := 3) A4 (by decide) (by simp) l1 at_42 (pc' := 43) rfl (fun T5 h5 X5 W5 A5 => ?_)
  have A5 : Arx Z h5 b1 .byte [(.int (nar .byte ((f.toInt32).toInt8.toInt32))), (.int (nar .byte ((((f.toUInt64 >>> ((8 : Int32) &&& 0x3f).toInt64.toUInt64).toInt64).toInt32).toInt8.toInt32))), (.int (nar .byte ((((f.toUInt64 >>> ((16 : Int32) &&& 0x3f).toInt64.toUInt64).toInt64).toInt32).toInt8.toInt32))), (.int (nar .byte ((((f.toUInt64 >>> ((24 : Int32) &&& 0x3f).toInt64.toUInt64).toInt64).toInt32).toInt8.toInt32))), (.int (0 : Int32)), (.int (0 : Int32)), (.int (0 : Int32))] := A5
  refine g_aload X5 at_43 (pc' := 45) rfl rfl rfl ?_
  refine g_iconst X5 at_45 (pc' := 46) rfl (v := (4 : Int32)) rfl ?_
  refine g_lloadN X5 at_46 (pc' := 47) rfl rfl ?_
  refine g_bipush X5 at_47 (pc' := 49) rfl (v := (32 : Int32)) rfl ?_
  refine g_lushr X5 at_49 (pc' := 50) rfl ?_
  refine g_l2i X5 at_50 (pc' := 51) rfl ?_
  refine g_i2b X5 at_51 (pc' := 52) rfl ?_
  refine g_bastore X5 (i := 4) A5 (by decide) (by simp) l1 at_52 (pc' := 53) rfl (fun T6 h6 X6 W6 A6 => ?_)
  have A6 : Arx Z h6 b1 .byte [(.int (nar .byte ((f.toInt32).toInt8.toInt32))), (.int (nar .byte ((((f.toUInt64 >>> ((8 : Int32) &&& 0x3f).toInt64.toUInt64).toInt64).toInt32).toInt8.toInt32))), (.int (nar .byte ((((f.toUInt64 >>> ((16 : Int32) &&& 0x3f).toInt64.toUInt64).toInt64).toInt32).toInt8.toInt32))), (.int (nar .byte ((((f.toUInt64 >>> ((24 : Int32) &&& 0x3f).toInt64.toUInt64).toInt64).toInt32).toInt8.toInt32))), (.int (nar .byte ((((f.toUInt64 >>> ((32 : Int32) &&& 0x3f).toInt64.toUInt64).toInt64).toInt32).toInt8.toInt32))), (.int (0 : Int32)), (.int (0 : Int32))] := A6
  refine g_aload X6 at_53 (pc' := 55) rfl rfl rfl ?_
  refine g_iconst X6 at_55 (pc' := 56) rfl (v := (5 : Int32)) rfl ?_
  refine g_lloadN X6 at_56 (pc' := 57) rfl rfl ?_
  refine g_bipush X6 at_57 (pc' := 59) rfl (v := (40 : Int32)) rfl ?_
  refine g_lushr X6 at_59 (pc' := 60) rfl ?_
  refine g_l2i X6 at_60 (pc' := 61) rfl ?_
  refine g_i2b X6 at_61 (pc' := 62) rfl ?_
  refine g_bastore X6 (i := 5) A6 (by decide) (by simp) l1 at_62 (pc' := 63) rfl (fun T7 h7 X7 W7 A7 => ?_)
  have A7 : Arx Z h7 b1 .byte [(.int (nar .byte ((f.toInt32).toInt8.toInt32))), (.int (nar .byte ((((f.toUInt64 >>> ((8 : Int32) &&& 0x3f).toInt64.toUInt64).toInt64).toInt32).toInt8.toInt32))), (.int (nar .byte ((((f.toUInt64 >>> ((16 : Int32) &&& 0x3f).toInt64.toUInt64).toInt64).toInt32).toInt8.toInt32))), (.int (nar .byte ((((f.toUInt64 >>> ((24 : Int32) &&& 0x3f).toInt64.toUInt64).toInt64).toInt32).toInt8.toInt32))), (.int (nar .byte ((((f.toUInt64 >>> ((32 : Int32) &&& 0x3f).toInt64.toUInt64).toInt64).toInt32).toInt8.toInt32))), (.int (nar .byte ((((f.toUInt64 >>> ((40 : Int32) &&& 0x3f).toInt64.toUInt64).toInt64).toInt32).toInt8.toInt32))), (.int (0 : Int32))] := A7
  refine g_aload X7 at_63 (pc' := 65) rfl rfl rfl ?_
  refine g_bipush X7 at_65 (pc' := 67) rfl (v := (6 : Int32)) rfl ?_
  refine g_lloadN X7 at_67 (pc' := 68) rfl rfl ?_
  refine g_bipush X7 at_68 (pc' := 70) rfl (v := (48 : Int32)) rfl ?_
  refine g_lushr X7 at_70 (pc' := 71) rfl ?_
  refine g_l2i X7 at_71 (pc' := 72) rfl ?_
  refine g_i2b X7 at_72 (pc' := 73) rfl ?_
  refine g_bastore X7 (i := 6) A7 (by decide) (by simp) l1 at_73 (pc' := 74) rfl (fun T8 h8 X8 W8 A8 => ?_)
  have A8 : Arx Z h8 b1 .byte [(.int (nar .byte ((f.toInt32).toInt8.toInt32))), (.int (nar .byte ((((f.toUInt64 >>> ((8 : Int32) &&& 0x3f).toInt64.toUInt64).toInt64).toInt32).toInt8.toInt32))), (.int (nar .byte ((((f.toUInt64 >>> ((16 : Int32) &&& 0x3f).toInt64.toUInt64).toInt64).toInt32).toInt8.toInt32))), (.int (nar .byte ((((f.toUInt64 >>> ((24 : Int32) &&& 0x3f).toInt64.toUInt64).toInt64).toInt32).toInt8.toInt32))), (.int (nar .byte ((((f.toUInt64 >>> ((32 : Int32) &&& 0x3f).toInt64.toUInt64).toInt64).toInt32).toInt8.toInt32))), (.int (nar .byte ((((f.toUInt64 >>> ((40 : Int32) &&& 0x3f).toInt64.toUInt64).toInt64).toInt32).toInt8.toInt32))), (.int (nar .byte ((((f.toUInt64 >>> ((48 : Int32) &&& 0x3f).toInt64.toUInt64).toInt64).toInt32).toInt8.toInt32)))] := A8
  obtain ⟨g, hg⟩ : ∃ g : Nat → Int32, Arx Z h8 b1 .byte ((List.range 7).map fun j => Value.int (g j)) := ⟨fun j => [(nar .byte ((f.toInt32).toInt8.toInt32)), (nar .byte ((((f.toUInt64 >>> ((8 : Int32) &&& 0x3f).toInt64.toUInt64).toInt64).toInt32).toInt8.toInt32)), (nar .byte ((((f.toUInt64 >>> ((16 : Int32) &&& 0x3f).toInt64.toUInt64).toInt64).toInt32).toInt8.toInt32)), (nar .byte ((((f.toUInt64 >>> ((24 : Int32) &&& 0x3f).toInt64.toUInt64).toInt64).toInt32).toInt8.toInt32)), (nar .byte ((((f.toUInt64 >>> ((32 : Int32) &&& 0x3f).toInt64.toUInt64).toInt64).toInt32).toInt8.toInt32)), (nar .byte ((((f.toUInt64 >>> ((40 : Int32) &&& 0x3f).toInt64.toUInt64).toInt64).toInt32).toInt8.toInt32)), (nar .byte ((((f.toUInt64 >>> ((48 : Int32) &&& 0x3f).toInt64.toUInt64).toInt64).toInt32).toInt8.toInt32))].getD j 0, A8⟩
  obtain ⟨i, hi4, hi⟩ := own_start sv
  refine g_iloadN X8 at_74 (pc' := 75) rfl rfl ?_
  refine g_ldc X8 (hw _ m1) at_75 (pc' := 77) rfl ?_
  refine g_iand X8 at_77 (pc' := 78) rfl ?_
  refine g_iconst X8 at_78 (pc' := 79) rfl (v := (5 : Int32)) rfl ?_
  refine g_irem X8 at_79 (pc' := 80) rfl (by decide) ?_
  obtain ⟨st, hst⟩ : ∃ r, r = ((sv &&& (2147483647 : Int32)) % (5 : Int32)) := ⟨_, rfl⟩
  rw [← hst] at hi ⊢
  refine g_istore X8 at_80 (pc' := 82) rfl (L' := #[.val (.int k), .val (.int sv), .val (.int ev), .val (.long f), .second, .val (.int d), .val (.ref b1), .val (.int st), .unset, .unset, .unset, .unset, .unset, .unset, .unset, .unset, .unset, .unset, .unset]) rfl ?_
  refine g_iloadN X8 at_82 (pc' := 83) rfl rfl ?_
  refine g_iconst X8 at_83 (pc' := 84) rfl (v := (3 : Int32)) rfl ?_
  refine g_iand X8 at_84 (pc' := 85) rfl ?_
  obtain ⟨n, hn⟩ : ∃ n, n = k &&& (3 : Int32) := ⟨_, rfl⟩
  have hn4 : n = 0 ∨ n = 1 ∨ n = 2 ∨ n = 3 := hn ▸ own_four k
  rw [← hn]
  have J109 : ∀ en : Int32, Go p e below (Kq s 24 128 (fun v h L => v = some (.int 1) ∧ Fr n0 L)) (T8.setTop (mkF m 109 #[.val (.int k), .val (.int sv), .val (.int ev), .val (.long f), .second, .val (.int d), .val (.ref b1), .val (.int st), .val (.int n), .val (.int en), .unset, .unset, .unset, .unset, .unset, .unset, .unset, .unset, .unset] [])) := by
    intro en
    refine g_iloadN X8 at_109 (pc' := 110) rfl rfl ?_
    refine g_iconst X8 at_110 (pc' := 111) rfl (v := (2 : Int32)) rfl ?_
    refine g_aload X8 at_111 (pc' := 113) rfl rfl rfl ?_
    refine g_iload X8 at_113 (pc' := 115) rfl rfl ?_
    refine g_baload X8 (i := (i + 0)) (v := (.int (g (i + 0)))) hg hi (own_rng g (by omega)) at_115 (pc' := 116) rfl ?_
    refine g_iload X8 at_116 (pc' := 118) rfl rfl ?_
    refine g_iconst X8 at_118 (pc' := 119) rfl (v := (0 : Int32)) rfl ?_
    refine g_callS X8 (y := (⟨"com/example/indexloom/indexloom/TextsEqualPinLaw", "pick", "(IIBII)B"⟩ : MethodName)) [(.int k), (.int (2 : Int32)), (.int (g (i + 0))), (.int d), (.int (0 : Int32))] (hw _ m2) (hw _ m3) (hw _ m4) (hw _ m5) (hw _ m4) (rm1 l Z a0 hw k (2 : Int32) (g (i + 0)) d (0 : Int32) h8 n0 X8.old) (by decide) (by decide) (by decide) (by decide) (by decide) rfl pd_0 rfl (rest := []) rfl (W := 0) rfl at_119 (pc' := 122) rfl ?_
    rintro _ T9 _ _ Y9 ⟨z9, rfl, q9_, rfl, rfl⟩
    have X9 := Y9 X8.old (Fr.nil _)
    have qb0 := q9_
    show Go p e below _ (State.setTop _ (mkF m 122 #[.val (.int k), .val (.int sv), .val (.int ev), .val (.long f), .second, .val (.int d), .val (.ref b1), .val (.int st), .val (.int n), .val (.int en), .unset, .unset, .unset, .unset, .unset, .unset, .unset, .unset, .unset] [(.int z9)]))
    refine g_istore X9 at_122 (pc' := 124) rfl (L' := #[.val (.int k), .val (.int sv), .val (.int ev), .val (.long f), .second, .val (.int d), .val (.ref b1), .val (.int st), .val (.int n), .val (.int en), .val (.int z9), .unset, .unset, .unset, .unset, .unset, .unset, .unset, .unset]) rfl ?_
    refine g_iloadN X9 at_124 (pc' := 125) rfl rfl ?_
    refine g_iconst X9 at_125 (pc' := 126) rfl (v := (3 : Int32)) rfl ?_
    refine g_aload X9 at_126 (pc' := 128) rfl rfl rfl ?_
    refine g_iload X9 at_128 (pc' := 130) rfl rfl ?_
    refine g_iconst X9 at_130 (pc' := 131) rfl (v := (1 : Int32)) rfl ?_
    refine g_iadd X9 at_131 (pc' := 132) rfl ?_
    refine g_baload X9 (i := (i + 1)) (v := (.int (g (i + 1)))) hg (own_off hi hi4 1 (by decide)) (own_rng g (by omega)) at_132 (pc' := 133) rfl ?_
    refine g_iload X9 at_133 (pc' := 135) rfl rfl ?_
    refine g_iconst X9 at_135 (pc' := 136) rfl (v := (1 : Int32)) rfl ?_
    refine g_callS X9 (y := (⟨"com/example/indexloom/indexloom/TextsEqualPinLaw", "pick", "(IIBII)B"⟩ : MethodName)) [(.int k), (.int (3 : Int32)), (.int (g (i + 1))), (.int d), (.int (1 : Int32))] (hw _ m2) (hw _ m3) (hw _ m4) (hw _ m5) (hw _ m4) (rm1 l Z a0 hw k (3 : Int32) (g (i + 1)) d (1 : Int32) h8 n0 X9.old) (by decide) (by decide) (by decide) (by decide) (by decide) rfl pd_0 rfl (rest := []) rfl (W := 0) rfl at_136 (pc' := 139) rfl ?_
    rintro _ T10 _ _ Y10 ⟨z10, rfl, q10_, rfl, rfl⟩
    have X10 := Y10 X9.old (Fr.nil _)
    have qb1 := q10_
    show Go p e below _ (State.setTop _ (mkF m 139 #[.val (.int k), .val (.int sv), .val (.int ev), .val (.long f), .second, .val (.int d), .val (.ref b1), .val (.int st), .val (.int n), .val (.int en), .val (.int z9), .unset, .unset, .unset, .unset, .unset, .unset, .unset, .unset] [(.int z10)]))
    refine g_istore X10 at_139 (pc' := 141) rfl (L' := #[.val (.int k), .val (.int sv), .val (.int ev), .val (.long f), .second, .val (.int d), .val (.ref b1), .val (.int st), .val (.int n), .val (.int en), .val (.int z9), .val (.int z10), .unset, .unset, .unset, .unset, .unset, .unset, .unset]) rfl ?_
    refine g_iloadN X10 at_141 (pc' := 142) rfl rfl ?_
    refine g_iconst X10 at_142 (pc' := 143) rfl (v := (4 : Int32)) rfl ?_
    refine g_aload X10 at_143 (pc' := 145) rfl rfl rfl ?_
    refine g_iload X10 at_145 (pc' := 147) rfl rfl ?_
    refine g_iconst X10 at_147 (pc' := 148) rfl (v := (2 : Int32)) rfl ?_
    refine g_iadd X10 at_148 (pc' := 149) rfl ?_
    refine g_baload X10 (i := (i + 2)) (v := (.int (g (i + 2)))) hg (own_off hi hi4 2 (by decide)) (own_rng g (by omega)) at_149 (pc' := 150) rfl ?_
    refine g_iload X10 at_150 (pc' := 152) rfl rfl ?_
    refine g_iconst X10 at_152 (pc' := 153) rfl (v := (2 : Int32)) rfl ?_
    refine g_callS X10 (y := (⟨"com/example/indexloom/indexloom/TextsEqualPinLaw", "pick", "(IIBII)B"⟩ : MethodName)) [(.int k), (.int (4 : Int32)), (.int (g (i + 2))), (.int d), (.int (2 : Int32))] (hw _ m2) (hw _ m3) (hw _ m4) (hw _ m5) (hw _ m4) (rm1 l Z a0 hw k (4 : Int32) (g (i + 2)) d (2 : Int32) h8 n0 X10.old) (by decide) (by decide) (by decide) (by decide) (by decide) rfl pd_0 rfl (rest := []) rfl (W := 0) rfl at_153 (pc' := 156) rfl ?_
    rintro _ T11 _ _ Y11 ⟨z11, rfl, q11_, rfl, rfl⟩
    have X11 := Y11 X10.old (Fr.nil _)
    have qb2 := q11_
    show Go p e below _ (State.setTop _ (mkF m 156 #[.val (.int k), .val (.int sv), .val (.int ev), .val (.long f), .second, .val (.int d), .val (.ref b1), .val (.int st), .val (.int n), .val (.int en), .val (.int z9), .val (.int z10), .unset, .unset, .unset, .unset, .unset, .unset, .unset] [(.int z11)]))
    refine g_istore X11 at_156 (pc' := 158) rfl (L' := #[.val (.int k), .val (.int sv), .val (.int ev), .val (.long f), .second, .val (.int d), .val (.ref b1), .val (.int st), .val (.int n), .val (.int en), .val (.int z9), .val (.int z10), .val (.int z11), .unset, .unset, .unset, .unset, .unset, .unset]) rfl ?_
    refine g_iconst X11 at_158 (pc' := 159) rfl (v := (0 : Int32)) rfl ?_
    refine g_newarray X11 (aty := .byte) (cap := 0) (vs := []) (hw _ m0) (by decide) (by decide) rfl (by decide) at_159 (pc' := 161) rfl (by decide) (by decide) (fun T12 h12 b12 X12 g12 E12 A12 l12 => ?_)
    have ne13 : b1 ≠ b12 := ne_new hg.lt g12
    refine g_astore X12 at_161 (pc' := 163) rfl rfl (L' := #[.val (.int k), .val (.int sv), .val (.int ev), .val (.long f), .second, .val (.int d), .val (.ref b1), .val (.int st), .val (.int n), .val (.int en), .val (.int z9), .val (.int z10), .val (.int z11), .val (.ref b12), .unset, .unset, .unset, .unset, .unset]) rfl ?_
    refine g_iconst X12 at_163 (pc' := 164) rfl (v := (1 : Int32)) rfl ?_
    refine g_newarray X12 (aty := .byte) (cap := 1) (vs := [(.int (0 : Int32))]) (hw _ m0) (by decide) (by decide) rfl (by decide) at_164 (pc' := 166) rfl (by decide) (by decide) (fun T14 h14 b14 X14 g14 E14 A14 l14 => ?_)
    have f16 := (hg.ext E12)
    have ne15 : b1 ≠ b14 := ne_new f16.lt g14
    have ne17 : b12 ≠ b14 := ne_new A12.lt g14
    refine g_astore X14 at_166 (pc' := 168) rfl rfl (L' := #[.val (.int k), .val (.int sv), .val (.int ev), .val (.long f), .second, .val (.int d), .val (.ref b1), .val (.int st), .val (.int n), .val (.int en), .val (.int z9), .val (.int z10), .val (.int z11), .val (.ref b12), .val (.ref b14), .unset, .unset, .unset, .unset]) rfl ?_
    refine g_aload X14 at_168 (pc' := 170) rfl rfl rfl ?_
    refine g_iconst X14 at_170 (pc' := 171) rfl (v := (0 : Int32)) rfl ?_
    refine g_iload X14 at_171 (pc' := 173) rfl rfl ?_
    refine g_bastore X14 (i := 0) A14 (by decide) (by simp) l14 at_173 (pc' := 174) rfl (fun T18 h18 X18 W18 A18 => ?_)
    have A18 : Arx Z h18 b14 .byte [(.int (nar .byte z9))] := A18
    refine g_iconst X18 at_174 (pc' := 175) rfl (v := (2 : Int32)) rfl ?_
    refine g_newarray X18 (aty := .byte) (cap := 2) (vs := [(.int (0 : Int32)), (.int (0 : Int32))]) (hw _ m0) (by decide) (by decide) rfl (by decide) at_175 (pc' := 177) rfl (by decide) (by decide) (fun T19 h19 b19 X19 g19 E19 A19 l19 => ?_)
    have f21 := ((f16.ext E14).other W18 ne15)
    have ne20 : b1 ≠ b19 := ne_new f21.lt g19
    have f23 := ((A12.ext E14).other W18 ne17)
    have ne22 : b12 ≠ b19 := ne_new f23.lt g19
    have ne24 : b14 ≠ b19 := ne_new A18.lt g19
    refine g_astore X19 at_177 (pc' := 179) rfl rfl (L' := #[.val (.int k), .val (.int sv), .val (.int ev), .val (.long f), .second, .val (.int d), .val (.ref b1), .val (.int st), .val (.int n), .val (.int en), .val (.int z9), .val (.int z10), .val (.int z11), .val (.ref b12), .val (.ref b14), .val (.ref b19), .unset, .unset, .unset]) rfl ?_
    refine g_aload X19 at_179 (pc' := 181) rfl rfl rfl ?_
    refine g_iconst X19 at_181 (pc' := 182) rfl (v := (0 : Int32)) rfl ?_
    refine g_iload X19 at_182 (pc' := 184) rfl rfl ?_
    refine g_bastore X19 (i := 0) A19 (by decide) (by simp) l19 at_184 (pc' := 185) rfl (fun T25 h25 X25 W25 A25 => ?_)
    have A25 : Arx Z h25 b19 .byte [(.int (nar .byte z9)), (.int (0 : Int32))] := A25
    refine g_aload X25 at_185 (pc' := 187) rfl rfl rfl ?_
    refine g_iconst X25 at_187 (pc' := 188) rfl (v := (1 : Int32)) rfl ?_
    refine g_iload X25 at_188 (pc' := 190) rfl rfl ?_
    refine g_bastore X25 (i := 1) A25 (by decide) (by simp) l19 at_190 (pc' := 191) rfl (fun T26 h26 X26 W26 A26 => ?_)
    have A26 : Arx Z h26 b19 .byte [(.int (nar .byte z9)), (.int (nar .byte z10))] := A26
    refine g_iconst X26 at_191 (pc' := 192) rfl (v := (3 : Int32)) rfl ?_
    refine g_newarray X26 (aty := .byte) (cap := 3) (vs := [(.int (0 : Int32)), (.int (0 : Int32)), (.int (0 : Int32))]) (hw _ m0) (by decide) (by decide) rfl (by decide) at_192 (pc' := 194) rfl (by decide) (by decide) (fun T27 h27 b27 X27 g27 E27 A27 l27 => ?_)
    have f29 := (((f21.ext E19).other W25 ne20).other W26 ne20)
    have ne28 : b1 ≠ b27 := ne_new f29.lt g27
    have f31 := (((f23.ext E19).other W25 ne22).other W26 ne22)
    have ne30 : b12 ≠ b27 := ne_new f31.lt g27
    have f33 := (((A18.ext E19).other W25 ne24).other W26 ne24)
    have ne32 : b14 ≠ b27 := ne_new f33.lt g27
    have ne34 : b19 ≠ b27 := ne_new A26.lt g27
    refine g_astore X27 at_194 (pc' := 196) rfl rfl (L' := #[.val (.int k), .val (.int sv), .val (.int ev), .val (.long f), .second, .val (.int d), .val (.ref b1), .val (.int st), .val (.int n), .val (.int en), .val (.int z9), .val (.int z10), .val (.int z11), .val (.ref b12), .val (.ref b14), .val (.ref b19), .val (.ref b27), .unset, .unset]) rfl ?_
    refine g_aload X27 at_196 (pc' := 198) rfl rfl rfl ?_
    refine g_iconst X27 at_198 (pc' := 199) rfl (v := (0 : Int32)) rfl ?_
    refine g_iload X27 at_199 (pc' := 201) rfl rfl ?_
    refine g_bastore X27 (i := 0) A27 (by decide) (by simp) l27 at_201 (pc' := 202) rfl (fun T35 h35 X35 W35 A35 => ?_)
    have A35 : Arx Z h35 b27 .byte [(.int (nar .byte z9)), (.int (0 : Int32)), (.int (0 : Int32))] := A35
    refine g_aload X35 at_202 (pc' := 204) rfl rfl rfl ?_
    refine g_iconst X35 at_204 (pc' := 205) rfl (v := (1 : Int32)) rfl ?_
    refine g_iload X35 at_205 (pc' := 207) rfl rfl ?_
    refine g_bastore X35 (i := 1) A35 (by decide) (by simp) l27 at_207 (pc' := 208) rfl (fun T36 h36 X36 W36 A36 => ?_)
    have A36 : Arx Z h36 b27 .byte [(.int (nar .byte z9)), (.int (nar .byte z10)), (.int (0 : Int32))] := A36
    refine g_aload X36 at_208 (pc' := 210) rfl rfl rfl ?_
    refine g_iconst X36 at_210 (pc' := 211) rfl (v := (2 : Int32)) rfl ?_
    refine g_iload X36 at_211 (pc' := 213) rfl rfl ?_
    refine g_bastore X36 (i := 2) A36 (by decide) (by simp) l27 at_213 (pc' := 214) rfl (fun T37 h37 X37 W37 A37 => ?_)
    have A37 : Arx Z h37 b27 .byte [(.int (nar .byte z9)), (.int (nar .byte z10)), (.int (nar .byte z11))] := A37
    rcases hn4 with rfl | rfl | rfl | rfl
    · refine g_iload X37 at_214 (pc' := 216) rfl rfl ?_
      refine g_if_ne_f X37 at_216 (pc' := 219) rfl (by decide) ?_
      refine g_aload X37 at_219 (pc' := 221) rfl rfl rfl ?_
      refine g_astore X37 at_221 (pc' := 223) rfl rfl (L' := #[.val (.int k), .val (.int sv), .val (.int ev), .val (.long f), .second, .val (.int d), .val (.ref b1), .val (.int st), .val (.int (0 : Int32)), .val (.int en), .val (.int z9), .val (.int z10), .val (.int z11), .val (.ref b12), .val (.ref b14), .val (.ref b19), .val (.ref b27), .val (.ref b12), .unset]) rfl ?_
      refine g_goto X37 at_223 (pt := 256) (by decide) ?_
      have J323 : ∀ z : Int32, (((en - st = (0 : Int32)) ∧ z = 1) ∨ (¬ (en - st = (0 : Int32)) ∧ z = 0)) → Go p e below (Kq s 24 128 (fun v h L => v = some (.int 1) ∧ Fr n0 L)) (T37.setTop (mkF m 323 #[.val (.int k), .val (.int sv), .val (.int ev), .val (.long f), .second, .val (.int d), .val (.ref b1), .val (.int st), .val (.int (0 : Int32)), .val (.int en), .val (.int z9), .val (.int z10), .val (.int z11), .val (.ref b12), .val (.ref b14), .val (.ref b19), .val (.ref b27), .val (.ref b12), .unset] [.int z])) := by
        intro z hz
        refine g_istore X37 at_323 (pc' := 325) rfl (L' := #[.val (.int k), .val (.int sv), .val (.int ev), .val (.long f), .second, .val (.int d), .val (.ref b1), .val (.int st), .val (.int (0 : Int32)), .val (.int en), .val (.int z9), .val (.int z10), .val (.int z11), .val (.ref b12), .val (.ref b14), .val (.ref b19), .val (.ref b27), .val (.ref b12), .val (.int z)]) rfl ?_
        refine g_aload X37 at_325 (pc' := 327) rfl rfl rfl ?_
        refine g_aload X37 at_327 (pc' := 329) rfl rfl rfl ?_
        refine g_iload X37 at_329 (pc' := 331) rfl rfl ?_
        refine g_iload X37 at_331 (pc' := 333) rfl rfl ?_
        have f38 := ((((f31.ext E27).other W35 ne30).other W36 ne30).other W37 ne30)
        have f39 := ((((f29.ext E27).other W35 ne28).other W36 ne28).other W37 ne28)
        have Ak : Arx Z h37 b12 .byte (([] : List Int32).map Value.int) := by
          exact f38
        refine g_callS X37 (y := (⟨"com/example/indexloom/indexloom/Texts", "equal", "([B[BII)Z"⟩ : MethodName)) [(.ref b12), (.ref b1), (.int st), (.int en)] (hw _ m6) (hw _ m7) (hw _ m8) (hw _ m9) (hw _ m8) (rm2 l Z a0 hw b12 b1 st en h37 n0 X37.old [] g i 7 Ak f39 hi (by simp; omega) (by decide)) (by decide) (by decide) (by decide) (by decide) (by decide) rfl pd_1 rfl (rest := []) rfl (W := 0) rfl at_333 (pc' := 336) rfl ?_
        rintro _ T40 _ _ Y40 ⟨z40, rfl, r40, rfl, rfl⟩
        have X40 := Y40 X37.old (Fr.nil _)
        have iff40 : (en - st = ([] : List Int32).length.toInt32 ∧ ∀ t, t < ([] : List Int32).length → ([] : List Int32).getD t 0 = g (i + t)) ↔ (en - st = (0 : Int32)) := ⟨fun q => q.1, fun q => ⟨q, fun t ht => absurd ht (Nat.not_lt_zero t)⟩⟩
        obtain rfl : z40 = z := own_same r40 hz iff40
        show Go p e below _ (State.setTop _ (mkF m 336 #[.val (.int k), .val (.int sv), .val (.int ev), .val (.long f), .second, .val (.int d), .val (.ref b1), .val (.int st), .val (.int (0 : Int32)), .val (.int en), .val (.int z9), .val (.int z10), .val (.int z11), .val (.ref b12), .val (.ref b14), .val (.ref b19), .val (.ref b27), .val (.ref b12), .val (.int z40)] [(.int z40)]))
        refine g_iload X40 at_336 (pc' := 338) rfl rfl ?_
        refine g_icmp_ne_f X40 at_338 (pc' := 341) rfl rfl ?_
        refine g_iconst X40 at_341 (pc' := 342) rfl (v := (1 : Int32)) rfl ?_
        refine g_goto X40 at_342 (pt := 346) (by decide) ?_
        exact g_retN X40 (Or.inl rfl) rfl at_346 (by decide) (by decide) ⟨rfl, X40.fr⟩
      refine g_iload X37 at_256 (pc' := 258) rfl rfl ?_
      refine g_iload X37 at_258 (pc' := 260) rfl rfl ?_
      refine g_isub X37 at_260 (pc' := 261) rfl ?_
      refine g_iload X37 at_261 (pc' := 263) rfl rfl ?_
      refine g_icmp_ne X37 at_263 (pt := 322) (by decide) (pc' := 266) rfl (fun hc263 => ?_) (fun hc263 => ?_)
      · refine g_iconst X37 at_322 (pc' := 323) rfl (v := (0 : Int32)) rfl ?_
        exact J323 _ (Or.inr ⟨fun q => hc263 q, rfl⟩)
      · refine g_iload X37 at_266 (pc' := 268) rfl rfl ?_
        refine g_iconst X37 at_268 (pc' := 269) rfl (v := (1 : Int32)) rfl ?_
        refine g_icmp_lt_t X37 at_269 (pt := 282) (by decide) (by decide) ?_
        refine g_iload X37 at_282 (pc' := 284) rfl rfl ?_
        refine g_iconst X37 at_284 (pc' := 285) rfl (v := (2 : Int32)) rfl ?_
        refine g_icmp_lt_t X37 at_285 (pt := 300) (by decide) (by decide) ?_
        refine g_iload X37 at_300 (pc' := 302) rfl rfl ?_
        refine g_iconst X37 at_302 (pc' := 303) rfl (v := (3 : Int32)) rfl ?_
        refine g_icmp_lt_t X37 at_303 (pt := 318) (by decide) (by decide) ?_
        refine g_iconst X37 at_318 (pc' := 319) rfl (v := (1 : Int32)) rfl ?_
        refine g_goto X37 at_319 (pt := 323) (by decide) ?_
        exact J323 _ (Or.inl ⟨hc263, rfl⟩)
    · refine g_iload X37 at_214 (pc' := 216) rfl rfl ?_
      refine g_if_ne_t X37 at_216 (pt := 226) (by decide) (by decide) ?_
      refine g_iload X37 at_226 (pc' := 228) rfl rfl ?_
      refine g_iconst X37 at_228 (pc' := 229) rfl (v := (1 : Int32)) rfl ?_
      refine g_icmp_ne_f X37 at_229 (pc' := 232) rfl (by decide) ?_
      refine g_aload X37 at_232 (pc' := 234) rfl rfl rfl ?_
      refine g_astore X37 at_234 (pc' := 236) rfl rfl (L' := #[.val (.int k), .val (.int sv), .val (.int ev), .val (.long f), .second, .val (.int d), .val (.ref b1), .val (.int st), .val (.int (1 : Int32)), .val (.int en), .val (.int z9), .val (.int z10), .val (.int z11), .val (.ref b12), .val (.ref b14), .val (.ref b19), .val (.ref b27), .val (.ref b14), .unset]) rfl ?_
      refine g_goto X37 at_236 (pt := 256) (by decide) ?_
      have J323 : ∀ z : Int32, (((en - st = (1 : Int32) ∧ z9 = g (i + 0)) ∧ z = 1) ∨ (¬ (en - st = (1 : Int32) ∧ z9 = g (i + 0)) ∧ z = 0)) → Go p e below (Kq s 24 128 (fun v h L => v = some (.int 1) ∧ Fr n0 L)) (T37.setTop (mkF m 323 #[.val (.int k), .val (.int sv), .val (.int ev), .val (.long f), .second, .val (.int d), .val (.ref b1), .val (.int st), .val (.int (1 : Int32)), .val (.int en), .val (.int z9), .val (.int z10), .val (.int z11), .val (.ref b12), .val (.ref b14), .val (.ref b19), .val (.ref b27), .val (.ref b14), .unset] [.int z])) := by
        intro z hz
        refine g_istore X37 at_323 (pc' := 325) rfl (L' := #[.val (.int k), .val (.int sv), .val (.int ev), .val (.long f), .second, .val (.int d), .val (.ref b1), .val (.int st), .val (.int (1 : Int32)), .val (.int en), .val (.int z9), .val (.int z10), .val (.int z11), .val (.ref b12), .val (.ref b14), .val (.ref b19), .val (.ref b27), .val (.ref b14), .val (.int z)]) rfl ?_
        refine g_aload X37 at_325 (pc' := 327) rfl rfl rfl ?_
        refine g_aload X37 at_327 (pc' := 329) rfl rfl rfl ?_
        refine g_iload X37 at_329 (pc' := 331) rfl rfl ?_
        refine g_iload X37 at_331 (pc' := 333) rfl rfl ?_
        have f41 := ((((f33.ext E27).other W35 ne32).other W36 ne32).other W37 ne32)
        have f42 := ((((f29.ext E27).other W35 ne28).other W36 ne28).other W37 ne28)
        have Ak : Arx Z h37 b14 .byte (([z9] : List Int32).map Value.int) := by
          simpa [qb0] using f41
        refine g_callS X37 (y := (⟨"com/example/indexloom/indexloom/Texts", "equal", "([B[BII)Z"⟩ : MethodName)) [(.ref b14), (.ref b1), (.int st), (.int en)] (hw _ m6) (hw _ m7) (hw _ m8) (hw _ m9) (hw _ m8) (rm2 l Z a0 hw b14 b1 st en h37 n0 X37.old [z9] g i 7 Ak f42 hi (by simp; omega) (by decide)) (by decide) (by decide) (by decide) (by decide) (by decide) rfl pd_1 rfl (rest := []) rfl (W := 0) rfl at_333 (pc' := 336) rfl ?_
        rintro _ T43 _ _ Y43 ⟨z43, rfl, r43, rfl, rfl⟩
        have X43 := Y43 X37.old (Fr.nil _)
        have iff43 : (en - st = ([z9] : List Int32).length.toInt32 ∧ ∀ t, t < ([z9] : List Int32).length → ([z9] : List Int32).getD t 0 = g (i + t)) ↔ (en - st = (1 : Int32) ∧ z9 = g (i + 0)) := by
          refine ⟨fun q => ⟨q.1, q.2 0 (by simp)⟩, fun q => ⟨q.1, fun t ht => ?_⟩⟩
          have ht' : t < 1 := ht
          obtain rfl := (by omega : t = 0)
          · exact q.2
        obtain rfl : z43 = z := own_same r43 hz iff43
        show Go p e below _ (State.setTop _ (mkF m 336 #[.val (.int k), .val (.int sv), .val (.int ev), .val (.long f), .second, .val (.int d), .val (.ref b1), .val (.int st), .val (.int (1 : Int32)), .val (.int en), .val (.int z9), .val (.int z10), .val (.int z11), .val (.ref b12), .val (.ref b14), .val (.ref b19), .val (.ref b27), .val (.ref b14), .val (.int z43)] [(.int z43)]))
        refine g_iload X43 at_336 (pc' := 338) rfl rfl ?_
        refine g_icmp_ne_f X43 at_338 (pc' := 341) rfl rfl ?_
        refine g_iconst X43 at_341 (pc' := 342) rfl (v := (1 : Int32)) rfl ?_
        refine g_goto X43 at_342 (pt := 346) (by decide) ?_
        exact g_retN X43 (Or.inl rfl) rfl at_346 (by decide) (by decide) ⟨rfl, X43.fr⟩
      refine g_iload X37 at_256 (pc' := 258) rfl rfl ?_
      refine g_iload X37 at_258 (pc' := 260) rfl rfl ?_
      refine g_isub X37 at_260 (pc' := 261) rfl ?_
      refine g_iload X37 at_261 (pc' := 263) rfl rfl ?_
      refine g_icmp_ne X37 at_263 (pt := 322) (by decide) (pc' := 266) rfl (fun hc263 => ?_) (fun hc263 => ?_)
      · refine g_iconst X37 at_322 (pc' := 323) rfl (v := (0 : Int32)) rfl ?_
        exact J323 _ (Or.inr ⟨fun q => hc263 q.1, rfl⟩)
      · refine g_iload X37 at_266 (pc' := 268) rfl rfl ?_
        refine g_iconst X37 at_268 (pc' := 269) rfl (v := (1 : Int32)) rfl ?_
        refine g_icmp_lt_f X37 at_269 (pc' := 272) rfl (by decide) ?_
        refine g_iload X37 at_272 (pc' := 274) rfl rfl ?_
        refine g_aload X37 at_274 (pc' := 276) rfl rfl rfl ?_
        refine g_iload X37 at_276 (pc' := 278) rfl rfl ?_
        have f44 := ((((f29.ext E27).other W35 ne28).other W36 ne28).other W37 ne28)
        refine g_baload X37 (i := (i + 0)) (v := (.int (g (i + 0)))) f44 hi (own_rng g (by omega)) at_278 (pc' := 279) rfl ?_
        refine g_icmp_ne X37 at_279 (pt := 322) (by decide) (pc' := 282) rfl (fun hc279 => ?_) (fun hc279 => ?_)
        · refine g_iconst X37 at_322 (pc' := 323) rfl (v := (0 : Int32)) rfl ?_
          exact J323 _ (Or.inr ⟨fun q => hc279 q.2, rfl⟩)
        · refine g_iload X37 at_282 (pc' := 284) rfl rfl ?_
          refine g_iconst X37 at_284 (pc' := 285) rfl (v := (2 : Int32)) rfl ?_
          refine g_icmp_lt_t X37 at_285 (pt := 300) (by decide) (by decide) ?_
          refine g_iload X37 at_300 (pc' := 302) rfl rfl ?_
          refine g_iconst X37 at_302 (pc' := 303) rfl (v := (3 : Int32)) rfl ?_
          refine g_icmp_lt_t X37 at_303 (pt := 318) (by decide) (by decide) ?_
          refine g_iconst X37 at_318 (pc' := 319) rfl (v := (1 : Int32)) rfl ?_
          refine g_goto X37 at_319 (pt := 323) (by decide) ?_
          exact J323 _ (Or.inl ⟨⟨hc263, hc279⟩, rfl⟩)
    · refine g_iload X37 at_214 (pc' := 216) rfl rfl ?_
      refine g_if_ne_t X37 at_216 (pt := 226) (by decide) (by decide) ?_
      refine g_iload X37 at_226 (pc' := 228) rfl rfl ?_
      refine g_iconst X37 at_228 (pc' := 229) rfl (v := (1 : Int32)) rfl ?_
      refine g_icmp_ne_t X37 at_229 (pt := 239) (by decide) (by decide) ?_
      refine g_iload X37 at_239 (pc' := 241) rfl rfl ?_
      refine g_iconst X37 at_241 (pc' := 242) rfl (v := (2 : Int32)) rfl ?_
      refine g_icmp_ne_f X37 at_242 (pc' := 245) rfl (by decide) ?_
      refine g_aload X37 at_245 (pc' := 247) rfl rfl rfl ?_
      refine g_astore X37 at_247 (pc' := 249) rfl rfl (L' := #[.val (.int k), .val (.int sv), .val (.int ev), .val (.long f), .second, .val (.int d), .val (.ref b1), .val (.int st), .val (.int (2 : Int32)), .val (.int en), .val (.int z9), .val (.int z10), .val (.int z11), .val (.ref b12), .val (.ref b14), .val (.ref b19), .val (.ref b27), .val (.ref b19), .unset]) rfl ?_
      refine g_goto X37 at_249 (pt := 256) (by decide) ?_
      have J323 : ∀ z : Int32, (((en - st = (2 : Int32) ∧ z9 = g (i + 0) ∧ z10 = g (i + 1)) ∧ z = 1) ∨ (¬ (en - st = (2 : Int32) ∧ z9 = g (i + 0) ∧ z10 = g (i + 1)) ∧ z = 0)) → Go p e below (Kq s 24 128 (fun v h L => v = some (.int 1) ∧ Fr n0 L)) (T37.setTop (mkF m 323 #[.val (.int k), .val (.int sv), .val (.int ev), .val (.long f), .second, .val (.int d), .val (.ref b1), .val (.int st), .val (.int (2 : Int32)), .val (.int en), .val (.int z9), .val (.int z10), .val (.int z11), .val (.ref b12), .val (.ref b14), .val (.ref b19), .val (.ref b27), .val (.ref b19), .unset] [.int z])) := by
        intro z hz
        refine g_istore X37 at_323 (pc' := 325) rfl (L' := #[.val (.int k), .val (.int sv), .val (.int ev), .val (.long f), .second, .val (.int d), .val (.ref b1), .val (.int st), .val (.int (2 : Int32)), .val (.int en), .val (.int z9), .val (.int z10), .val (.int z11), .val (.ref b12), .val (.ref b14), .val (.ref b19), .val (.ref b27), .val (.ref b19), .val (.int z)]) rfl ?_
        refine g_aload X37 at_325 (pc' := 327) rfl rfl rfl ?_
        refine g_aload X37 at_327 (pc' := 329) rfl rfl rfl ?_
        refine g_iload X37 at_329 (pc' := 331) rfl rfl ?_
        refine g_iload X37 at_331 (pc' := 333) rfl rfl ?_
        have f45 := ((((A26.ext E27).other W35 ne34).other W36 ne34).other W37 ne34)
        have f46 := ((((f29.ext E27).other W35 ne28).other W36 ne28).other W37 ne28)
        have Ak : Arx Z h37 b19 .byte (([z9, z10] : List Int32).map Value.int) := by
          simpa [qb0, qb1] using f45
        refine g_callS X37 (y := (⟨"com/example/indexloom/indexloom/Texts", "equal", "([B[BII)Z"⟩ : MethodName)) [(.ref b19), (.ref b1), (.int st), (.int en)] (hw _ m6) (hw _ m7) (hw _ m8) (hw _ m9) (hw _ m8) (rm2 l Z a0 hw b19 b1 st en h37 n0 X37.old [z9, z10] g i 7 Ak f46 hi (by simp; omega) (by decide)) (by decide) (by decide) (by decide) (by decide) (by decide) rfl pd_1 rfl (rest := []) rfl (W := 0) rfl at_333 (pc' := 336) rfl ?_
        rintro _ T47 _ _ Y47 ⟨z47, rfl, r47, rfl, rfl⟩
        have X47 := Y47 X37.old (Fr.nil _)
        have iff47 : (en - st = ([z9, z10] : List Int32).length.toInt32 ∧ ∀ t, t < ([z9, z10] : List Int32).length → ([z9, z10] : List Int32).getD t 0 = g (i + t)) ↔ (en - st = (2 : Int32) ∧ z9 = g (i + 0) ∧ z10 = g (i + 1)) := by
          refine ⟨fun q => ⟨q.1, q.2 0 (by simp), q.2 1 (by simp)⟩, fun q => ⟨q.1, fun t ht => ?_⟩⟩
          have ht' : t < 2 := ht
          obtain rfl | rfl := (by omega : t = 0 ∨ t = 1)
          · exact q.2.1
          · exact q.2.2
        obtain rfl : z47 = z := own_same r47 hz iff47
        show Go p e below _ (State.setTop _ (mkF m 336 #[.val (.int k), .val (.int sv), .val (.int ev), .val (.long f), .second, .val (.int d), .val (.ref b1), .val (.int st), .val (.int (2 : Int32)), .val (.int en), .val (.int z9), .val (.int z10), .val (.int z11), .val (.ref b12), .val (.ref b14), .val (.ref b19), .val (.ref b27), .val (.ref b19), .val (.int z47)] [(.int z47)]))
        refine g_iload X47 at_336 (pc' := 338) rfl rfl ?_
        refine g_icmp_ne_f X47 at_338 (pc' := 341) rfl rfl ?_
        refine g_iconst X47 at_341 (pc' := 342) rfl (v := (1 : Int32)) rfl ?_
        refine g_goto X47 at_342 (pt := 346) (by decide) ?_
        exact g_retN X47 (Or.inl rfl) rfl at_346 (by decide) (by decide) ⟨rfl, X47.fr⟩
      refine g_iload X37 at_256 (pc' := 258) rfl rfl ?_
      refine g_iload X37 at_258 (pc' := 260) rfl rfl ?_
      refine g_isub X37 at_260 (pc' := 261) rfl ?_
      refine g_iload X37 at_261 (pc' := 263) rfl rfl ?_
      refine g_icmp_ne X37 at_263 (pt := 322) (by decide) (pc' := 266) rfl (fun hc263 => ?_) (fun hc263 => ?_)
      · refine g_iconst X37 at_322 (pc' := 323) rfl (v := (0 : Int32)) rfl ?_
        exact J323 _ (Or.inr ⟨fun q => hc263 q.1, rfl⟩)
      · refine g_iload X37 at_266 (pc' := 268) rfl rfl ?_
        refine g_iconst X37 at_268 (pc' := 269) rfl (v := (1 : Int32)) rfl ?_
        refine g_icmp_lt_f X37 at_269 (pc' := 272) rfl (by decide) ?_
        refine g_iload X37 at_272 (pc' := 274) rfl rfl ?_
        refine g_aload X37 at_274 (pc' := 276) rfl rfl rfl ?_
        refine g_iload X37 at_276 (pc' := 278) rfl rfl ?_
        have f48 := ((((f29.ext E27).other W35 ne28).other W36 ne28).other W37 ne28)
        refine g_baload X37 (i := (i + 0)) (v := (.int (g (i + 0)))) f48 hi (own_rng g (by omega)) at_278 (pc' := 279) rfl ?_
        refine g_icmp_ne X37 at_279 (pt := 322) (by decide) (pc' := 282) rfl (fun hc279 => ?_) (fun hc279 => ?_)
        · refine g_iconst X37 at_322 (pc' := 323) rfl (v := (0 : Int32)) rfl ?_
          exact J323 _ (Or.inr ⟨fun q => hc279 q.2.1, rfl⟩)
        · refine g_iload X37 at_282 (pc' := 284) rfl rfl ?_
          refine g_iconst X37 at_284 (pc' := 285) rfl (v := (2 : Int32)) rfl ?_
          refine g_icmp_lt_f X37 at_285 (pc' := 288) rfl (by decide) ?_
          refine g_iload X37 at_288 (pc' := 290) rfl rfl ?_
          refine g_aload X37 at_290 (pc' := 292) rfl rfl rfl ?_
          refine g_iload X37 at_292 (pc' := 294) rfl rfl ?_
          refine g_iconst X37 at_294 (pc' := 295) rfl (v := (1 : Int32)) rfl ?_
          refine g_iadd X37 at_295 (pc' := 296) rfl ?_
          refine g_baload X37 (i := (i + 1)) (v := (.int (g (i + 1)))) f48 (own_off hi hi4 1 (by decide)) (own_rng g (by omega)) at_296 (pc' := 297) rfl ?_
          refine g_icmp_ne X37 at_297 (pt := 322) (by decide) (pc' := 300) rfl (fun hc297 => ?_) (fun hc297 => ?_)
          · refine g_iconst X37 at_322 (pc' := 323) rfl (v := (0 : Int32)) rfl ?_
            exact J323 _ (Or.inr ⟨fun q => hc297 q.2.2, rfl⟩)
          · refine g_iload X37 at_300 (pc' := 302) rfl rfl ?_
            refine g_iconst X37 at_302 (pc' := 303) rfl (v := (3 : Int32)) rfl ?_
            refine g_icmp_lt_t X37 at_303 (pt := 318) (by decide) (by decide) ?_
            refine g_iconst X37 at_318 (pc' := 319) rfl (v := (1 : Int32)) rfl ?_
            refine g_goto X37 at_319 (pt := 323) (by decide) ?_
            exact J323 _ (Or.inl ⟨⟨hc263, hc279, hc297⟩, rfl⟩)
    · refine g_iload X37 at_214 (pc' := 216) rfl rfl ?_
      refine g_if_ne_t X37 at_216 (pt := 226) (by decide) (by decide) ?_
      refine g_iload X37 at_226 (pc' := 228) rfl rfl ?_
      refine g_iconst X37 at_228 (pc' := 229) rfl (v := (1 : Int32)) rfl ?_
      refine g_icmp_ne_t X37 at_229 (pt := 239) (by decide) (by decide) ?_
      refine g_iload X37 at_239 (pc' := 241) rfl rfl ?_
      refine g_iconst X37 at_241 (pc' := 242) rfl (v := (2 : Int32)) rfl ?_
      refine g_icmp_ne_t X37 at_242 (pt := 252) (by decide) (by decide) ?_
      refine g_aload X37 at_252 (pc' := 254) rfl rfl rfl ?_
      refine g_astore X37 at_254 (pc' := 256) rfl rfl (L' := #[.val (.int k), .val (.int sv), .val (.int ev), .val (.long f), .second, .val (.int d), .val (.ref b1), .val (.int st), .val (.int (3 : Int32)), .val (.int en), .val (.int z9), .val (.int z10), .val (.int z11), .val (.ref b12), .val (.ref b14), .val (.ref b19), .val (.ref b27), .val (.ref b27), .unset]) rfl ?_
      have J323 : ∀ z : Int32, (((en - st = (3 : Int32) ∧ z9 = g (i + 0) ∧ z10 = g (i + 1) ∧ z11 = g (i + 2)) ∧ z = 1) ∨ (¬ (en - st = (3 : Int32) ∧ z9 = g (i + 0) ∧ z10 = g (i + 1) ∧ z11 = g (i + 2)) ∧ z = 0)) → Go p e below (Kq s 24 128 (fun v h L => v = some (.int 1) ∧ Fr n0 L)) (T37.setTop (mkF m 323 #[.val (.int k), .val (.int sv), .val (.int ev), .val (.long f), .second, .val (.int d), .val (.ref b1), .val (.int st), .val (.int (3 : Int32)), .val (.int en), .val (.int z9), .val (.int z10), .val (.int z11), .val (.ref b12), .val (.ref b14), .val (.ref b19), .val (.ref b27), .val (.ref b27), .unset] [.int z])) := by
        intro z hz
        refine g_istore X37 at_323 (pc' := 325) rfl (L' := #[.val (.int k), .val (.int sv), .val (.int ev), .val (.long f), .second, .val (.int d), .val (.ref b1), .val (.int st), .val (.int (3 : Int32)), .val (.int en), .val (.int z9), .val (.int z10), .val (.int z11), .val (.ref b12), .val (.ref b14), .val (.ref b19), .val (.ref b27), .val (.ref b27), .val (.int z)]) rfl ?_
        refine g_aload X37 at_325 (pc' := 327) rfl rfl rfl ?_
        refine g_aload X37 at_327 (pc' := 329) rfl rfl rfl ?_
        refine g_iload X37 at_329 (pc' := 331) rfl rfl ?_
        refine g_iload X37 at_331 (pc' := 333) rfl rfl ?_
        have f49 := ((((f29.ext E27).other W35 ne28).other W36 ne28).other W37 ne28)
        have Ak : Arx Z h37 b27 .byte (([z9, z10, z11] : List Int32).map Value.int) := by
          simpa [qb0, qb1, qb2] using A37
        refine g_callS X37 (y := (⟨"com/example/indexloom/indexloom/Texts", "equal", "([B[BII)Z"⟩ : MethodName)) [(.ref b27), (.ref b1), (.int st), (.int en)] (hw _ m6) (hw _ m7) (hw _ m8) (hw _ m9) (hw _ m8) (rm2 l Z a0 hw b27 b1 st en h37 n0 X37.old [z9, z10, z11] g i 7 Ak f49 hi (by simp; omega) (by decide)) (by decide) (by decide) (by decide) (by decide) (by decide) rfl pd_1 rfl (rest := []) rfl (W := 0) rfl at_333 (pc' := 336) rfl ?_
        rintro _ T50 _ _ Y50 ⟨z50, rfl, r50, rfl, rfl⟩
        have X50 := Y50 X37.old (Fr.nil _)
        have iff50 : (en - st = ([z9, z10, z11] : List Int32).length.toInt32 ∧ ∀ t, t < ([z9, z10, z11] : List Int32).length → ([z9, z10, z11] : List Int32).getD t 0 = g (i + t)) ↔ (en - st = (3 : Int32) ∧ z9 = g (i + 0) ∧ z10 = g (i + 1) ∧ z11 = g (i + 2)) := by
          refine ⟨fun q => ⟨q.1, q.2 0 (by simp), q.2 1 (by simp), q.2 2 (by simp)⟩, fun q => ⟨q.1, fun t ht => ?_⟩⟩
          have ht' : t < 3 := ht
          obtain rfl | rfl | rfl := (by omega : t = 0 ∨ t = 1 ∨ t = 2)
          · exact q.2.1
          · exact q.2.2.1
          · exact q.2.2.2
        obtain rfl : z50 = z := own_same r50 hz iff50
        show Go p e below _ (State.setTop _ (mkF m 336 #[.val (.int k), .val (.int sv), .val (.int ev), .val (.long f), .second, .val (.int d), .val (.ref b1), .val (.int st), .val (.int (3 : Int32)), .val (.int en), .val (.int z9), .val (.int z10), .val (.int z11), .val (.ref b12), .val (.ref b14), .val (.ref b19), .val (.ref b27), .val (.ref b27), .val (.int z50)] [(.int z50)]))
        refine g_iload X50 at_336 (pc' := 338) rfl rfl ?_
        refine g_icmp_ne_f X50 at_338 (pc' := 341) rfl rfl ?_
        refine g_iconst X50 at_341 (pc' := 342) rfl (v := (1 : Int32)) rfl ?_
        refine g_goto X50 at_342 (pt := 346) (by decide) ?_
        exact g_retN X50 (Or.inl rfl) rfl at_346 (by decide) (by decide) ⟨rfl, X50.fr⟩
      refine g_iload X37 at_256 (pc' := 258) rfl rfl ?_
      refine g_iload X37 at_258 (pc' := 260) rfl rfl ?_
      refine g_isub X37 at_260 (pc' := 261) rfl ?_
      refine g_iload X37 at_261 (pc' := 263) rfl rfl ?_
      refine g_icmp_ne X37 at_263 (pt := 322) (by decide) (pc' := 266) rfl (fun hc263 => ?_) (fun hc263 => ?_)
      · refine g_iconst X37 at_322 (pc' := 323) rfl (v := (0 : Int32)) rfl ?_
        exact J323 _ (Or.inr ⟨fun q => hc263 q.1, rfl⟩)
      · refine g_iload X37 at_266 (pc' := 268) rfl rfl ?_
        refine g_iconst X37 at_268 (pc' := 269) rfl (v := (1 : Int32)) rfl ?_
        refine g_icmp_lt_f X37 at_269 (pc' := 272) rfl (by decide) ?_
        refine g_iload X37 at_272 (pc' := 274) rfl rfl ?_
        refine g_aload X37 at_274 (pc' := 276) rfl rfl rfl ?_
        refine g_iload X37 at_276 (pc' := 278) rfl rfl ?_
        have f51 := ((((f29.ext E27).other W35 ne28).other W36 ne28).other W37 ne28)
        refine g_baload X37 (i := (i + 0)) (v := (.int (g (i + 0)))) f51 hi (own_rng g (by omega)) at_278 (pc' := 279) rfl ?_
        refine g_icmp_ne X37 at_279 (pt := 322) (by decide) (pc' := 282) rfl (fun hc279 => ?_) (fun hc279 => ?_)
        · refine g_iconst X37 at_322 (pc' := 323) rfl (v := (0 : Int32)) rfl ?_
          exact J323 _ (Or.inr ⟨fun q => hc279 q.2.1, rfl⟩)
        · refine g_iload X37 at_282 (pc' := 284) rfl rfl ?_
          refine g_iconst X37 at_284 (pc' := 285) rfl (v := (2 : Int32)) rfl ?_
          refine g_icmp_lt_f X37 at_285 (pc' := 288) rfl (by decide) ?_
          refine g_iload X37 at_288 (pc' := 290) rfl rfl ?_
          refine g_aload X37 at_290 (pc' := 292) rfl rfl rfl ?_
          refine g_iload X37 at_292 (pc' := 294) rfl rfl ?_
          refine g_iconst X37 at_294 (pc' := 295) rfl (v := (1 : Int32)) rfl ?_
          refine g_iadd X37 at_295 (pc' := 296) rfl ?_
          refine g_baload X37 (i := (i + 1)) (v := (.int (g (i + 1)))) f51 (own_off hi hi4 1 (by decide)) (own_rng g (by omega)) at_296 (pc' := 297) rfl ?_
          refine g_icmp_ne X37 at_297 (pt := 322) (by decide) (pc' := 300) rfl (fun hc297 => ?_) (fun hc297 => ?_)
          · refine g_iconst X37 at_322 (pc' := 323) rfl (v := (0 : Int32)) rfl ?_
            exact J323 _ (Or.inr ⟨fun q => hc297 q.2.2.1, rfl⟩)
          · refine g_iload X37 at_300 (pc' := 302) rfl rfl ?_
            refine g_iconst X37 at_302 (pc' := 303) rfl (v := (3 : Int32)) rfl ?_
            refine g_icmp_lt_f X37 at_303 (pc' := 306) rfl (by decide) ?_
            refine g_iload X37 at_306 (pc' := 308) rfl rfl ?_
            refine g_aload X37 at_308 (pc' := 310) rfl rfl rfl ?_
            refine g_iload X37 at_310 (pc' := 312) rfl rfl ?_
            refine g_iconst X37 at_312 (pc' := 313) rfl (v := (2 : Int32)) rfl ?_
            refine g_iadd X37 at_313 (pc' := 314) rfl ?_
            refine g_baload X37 (i := (i + 2)) (v := (.int (g (i + 2)))) f51 (own_off hi hi4 2 (by decide)) (own_rng g (by omega)) at_314 (pc' := 315) rfl ?_
            refine g_icmp_ne X37 at_315 (pt := 322) (by decide) (pc' := 318) rfl (fun hc315 => ?_) (fun hc315 => ?_)
            · refine g_iconst X37 at_322 (pc' := 323) rfl (v := (0 : Int32)) rfl ?_
              exact J323 _ (Or.inr ⟨fun q => hc315 q.2.2.2, rfl⟩)
            · refine g_iconst X37 at_318 (pc' := 319) rfl (v := (1 : Int32)) rfl ?_
              refine g_goto X37 at_319 (pt := 323) (by decide) ?_
              exact J323 _ (Or.inl ⟨⟨hc263, hc279, hc297, hc315⟩, rfl⟩)
  refine g_istore X8 at_85 (pc' := 87) rfl (L' := #[.val (.int k), .val (.int sv), .val (.int ev), .val (.long f), .second, .val (.int d), .val (.ref b1), .val (.int st), .val (.int n), .unset, .unset, .unset, .unset, .unset, .unset, .unset, .unset, .unset, .unset]) rfl ?_
  refine g_iloadN X8 at_87 (pc' := 88) rfl rfl ?_
  refine g_iconst X8 at_88 (pc' := 89) rfl (v := (5 : Int32)) rfl ?_
  refine g_iushr X8 at_89 (pc' := 90) rfl ?_
  refine g_iconst X8 at_90 (pc' := 91) rfl (v := (1 : Int32)) rfl ?_
  refine g_iand X8 at_91 (pc' := 92) rfl ?_
  refine g_if_eq X8 at_92 (pt := 101) (by decide) (pc' := 95) rfl (fun hc92 => ?_) (fun hc92 => ?_)
  · refine g_iload X8 at_101 (pc' := 103) rfl rfl ?_
    refine g_iloadN X8 at_103 (pc' := 104) rfl rfl ?_
    refine g_iconst X8 at_104 (pc' := 105) rfl (v := (3 : Int32)) rfl ?_
    refine g_iand X8 at_105 (pc' := 106) rfl ?_
    refine g_iadd X8 at_106 (pc' := 107) rfl ?_
    refine g_istore X8 at_107 (pc' := 109) rfl (L' := #[.val (.int k), .val (.int sv), .val (.int ev), .val (.long f), .second, .val (.int d), .val (.ref b1), .val (.int st), .val (.int n), .val (.int (st + (ev &&& (3 : Int32)))), .unset, .unset, .unset, .unset, .unset, .unset, .unset, .unset, .unset]) rfl ?_
    exact J109 _
  · refine g_iloadN X8 at_95 (pc' := 96) rfl rfl ?_
    refine g_istore X8 at_96 (pc' := 98) rfl (L' := #[.val (.int k), .val (.int sv), .val (.int ev), .val (.long f), .second, .val (.int d), .val (.ref b1), .val (.int st), .val (.int n), .val (.int ev), .unset, .unset, .unset, .unset, .unset, .unset, .unset, .unset, .unset]) rfl ?_
    refine g_goto X8 at_98 (pt := 109) (by decide) ?_
    exact J109 _

set_option maxRecDepth 65536 in
set_option maxHeartbeats 40000000 in
theorem comes_1 {Post : Tables → Env → Array Value → State → Outcome → State → Prop} (hpost : ∀ tb e args s v u, (limb_1_1.after args s (.returned v) u = true ∧ limb_1_2.after args s (.returned v) u = true ∧ True) → FrameEnd s (.returned v) u (Jvm.fieldLocs frame_1_writes args s ++ Jvm.arrayLocs frame_1_arrays args s ++ Jvm.staticLocs frame_1_statics s) 24 128 → Post tb e args s (.returned v) u) :
    ArmFor flags0 classFile x code maxLocals ret World_1 tables_1 room_1 Calls_1 rest_1 Pre_1 Post := by
  intro l hfl _ _ p e ha hc hk s m args below hf hA hF happ hP
  obtain ⟨hcalls, hrest, hpre⟩ := hP
  obtain ⟨-, -, -, hnamed, -, -, -, hat⟩ := (Spec.applies_iff hf).mp happ
  obtain ⟨hg, hn⟩ := and_e (Cond.before_iff.mp (show (Jvm.Cond.and given_1 narrow_1).before args s = true from hpre))
  obtain ⟨hcount, hg⟩ := and_e hg
  obtain ⟨k0, hg⟩ := and_e hg
  obtain ⟨k1, hg⟩ := and_e hg
  obtain ⟨k2, hg⟩ := and_e hg
  obtain ⟨k3, hg⟩ := and_e hg
  have k4 := hg
  obtain ⟨w0, w1, w2, w3, w4, rfl⟩ : ∃ w0 w1 w2 w3 w4 : Value, args = #[w0, w1, w2, w3, w4] := by
    have hs : args.size = 5 := by simpa [Cond.value, given_1] using hcount
    obtain ⟨L⟩ := args
    match L, hs with
    | [w0, w1, w2, w3, w4], _ => exact ⟨w0, w1, w2, w3, w4, rfl⟩
  have hw := fun d (hd : d ∈ tables_1) => atoms_spec (ws := Jvm.Cond.code x code maxLocals ret :: tables_1) hat d (List.mem_cons_of_mem _ hd)
  obtain ⟨i0, e0⟩ := is_v k0
  obtain rfl : w0 = (.int i0) := Option.some.inj e0
  obtain ⟨i1, e1⟩ := is_v k1
  obtain rfl : w1 = (.int i1) := Option.some.inj e1
  obtain ⟨i2, e2⟩ := is_v k2
  obtain rfl : w2 = (.int i2) := Option.some.inj e2
  obtain ⟨i3, e3⟩ := isL_v k3
  obtain rfl : w3 = (.long i3) := Option.some.inj e3
  obtain ⟨i4, e4⟩ := is_v k4
  obtain rfl : w4 = (.int i4) := Option.some.inj e4
  obtain ⟨n, o, h1, h2, h3, _, L, rfl, ⟨rfl, N⟩, hq⟩ := rm0 l s _ hw tables_1 i0 i1 i2 i3 i4 s.heap s.heap.size (Old.start s)  p e ha hc hk s m _ below hf ((Spec.applies_iff_loose hf).mp happ).1 ⟨rfl, State.Warmed39.refl s, rfl⟩ trivial
  refine ⟨n, _, h1, h2, h3, hpost _ _ _ _ _ _ ⟨Cond.after_iff.mpr rfl, Cond.after_iff.mpr (eq_i res_at (Term.int_eval (1)) rfl), trivial⟩ ⟨hq.1, hq.2.1, (hq.2.2.sift fun y hy => Or.inr (N y hy)).mono (by decide) (by decide)⟩⟩
theorem main_1_1 : Claimed_1_1 := comes_1 fun _ _ _ _ _ _ h hF => ⟨h.1, hF⟩
theorem main_1_2 : Claimed_1_2 := comes_1 fun _ _ _ _ _ _ h hF => ⟨h.2.1, hF⟩
end Jvm.Pilot.@@N@@
namespace Jvm.Pilot.@@N@@
open Jvm Jvm.ClassFile Sem Op Lib Jvm.Free Jvm.Stand Jvm.Pilot.@@N@@.Jvm.D
/-! MADE BY PROGRAM (witnessworld.py) out of the Statement's table words and the real class files: 9 classes; the members and pool entries that the words name. The judged class is class 1, her method 2. -/
namespace start1
open Jvm.ClassFile
def u (s : String) : CpInfo := .utf8 (stringToUtf16 s)
/-- a pool by its gaps: so many unusable entries, then the entry; so many at the end -/
def gap : Nat → List CpInfo → List CpInfo
  | 0, r => r
  | n + 1, r => .unusable :: gap n r
def poolList (es : List (Nat × CpInfo)) (last : Nat) : List CpInfo := es.foldr (fun e r => gap e.1 (e.2 :: r)) (gap last [])
def pool (es : List (Nat × CpInfo)) (last : Nat) : Array CpInfo := ⟨poolList es last⟩
def fileOf (pool : Array CpInfo) (this : Nat) (attrs : Array Attribute := #[]) (ms : Array MethodInfo := #[]) (fl : Nat := 33) (sup : Nat := 0) (ifs : Array Nat := #[]) (fds : Array FieldInfo := #[]) : ClassFile where
  minorVersion := 0
  majorVersion := 65
  constantPool := pool
  accessFlags := fl
  thisClass := this
  superClass := sup
  interfaces := ifs
  fields := fds
  methods := ms
  attributes := attrs
def plain (name : String) (sup : Option ClassId) : Class where
  name := name
  kind := .ordinary
  loader := none
  accessFlags := 33
  super := sup
  interfaces := #[]
  cf := none
  fields := #[]
  methods := #[]
  instanceTypes := #[]
  staticTypes := #[]
  resolved := #[]
  callSites := []
  init := .initialized
  statics := none
  mirror := none

def pool0 : Array CpInfo := pool [(5, u "<init>"), (0, u "()V"), (1, .class_ 10), (1, u "java/lang/Object")] 113

def k0m0 : Method := { name := "<init>", desc := "()V", sig := { parameters := [], returnType := none }, accessFlags := 1, code := none }
/-- java/lang/Object -/
def k0 : Class := { plain "java/lang/Object" none with
  accessFlags := 33
  interfaces := #[]
  cf := some (fileOf pool0 8 #[] #[{ accessFlags := 1, nameIndex := 5, descriptorIndex := 6, attributes := #[] }] 33 0 #[] #[])
  fields := #[]
  methods := #[k0m0]
  instanceTypes := #[]
  staticTypes := #[]
  resolved := Array.replicate 124 none
  statics := none }

def pool1 : Array CpInfo := pool [(2, .class_ 4), (1, u "java/lang/Object"), (0, u "<init>"), (0, u "()V"), (0, .integer 2147483647), (0, .methodref 9 10), (0, .class_ 11), (0, .nameAndType 12 13), (0, u "com/example/indexloom/indexloom/TextsEqualPinLaw"), (0, u "pick"), (0, u "(IIBII)B"), (0, .methodref 15 16), (0, .class_ 17), (0, .nameAndType 18 19), (0, u "com/example/indexloom/indexloom/Texts"), (0, u "equal"), (0, u "([B[BII)Z"), (3, u "law"), (0, u "(IIIJI)Z")] 4

def k1m0 : Method := { name := "<init>", desc := "()V", sig := { parameters := [], returnType := none }, accessFlags := 1, code := none }
def k1c1 : Code := { maxStack := 3, maxLocals := 5, code := method_2_code, exceptionTable := #[], attributes := #[] }
def k1m1 : Method := { name := "pick", desc := "(IIBII)B", sig := { parameters := [.int, .int, .byte, .int, .int], returnType := some .byte }, accessFlags := 10, code := some k1c1 }
def k1c2 : Code := { maxStack := 5, maxLocals := 19, code := code, exceptionTable := #[], attributes := #[] }
def k1m2 : Method := { name := "law", desc := "(IIIJI)Z", sig := { parameters := [.int, .int, .int, .long, .int], returnType := some .boolean }, accessFlags := 9, code := some k1c2 }
/-- com/example/indexloom/indexloom/TextsEqualPinLaw -/
def k1 : Class := { plain "com/example/indexloom/indexloom/TextsEqualPinLaw" (some 0) with
  accessFlags := 49
  interfaces := #[]
  cf := some (fileOf pool1 9 #[] #[{ accessFlags := 1, nameIndex := 5, descriptorIndex := 6, attributes := #[] }, { accessFlags := 10, nameIndex := 12, descriptorIndex := 13, attributes := #[] }, { accessFlags := 9, nameIndex := 23, descriptorIndex := 24, attributes := #[] }] 49 2 #[] #[])
  fields := #[]
  methods := #[k1m0, k1m1, k1m2]
  instanceTypes := #[]
  staticTypes := #[]
  resolved := Array.replicate 29 none
  statics := none }

def pool2 : Array CpInfo := pool [(2, .class_ 4), (1, u "java/lang/Object"), (0, u "<init>"), (0, u "()V"), (0, .class_ 8), (0, u "com/example/indexloom/indexloom/Texts"), (2, u "slots"), (0, u "[I"), (4, u "bytes"), (0, u "[[B"), (2, u "hashes"), (4, u "texts"), (0, u "[Ljava/lang/String;"), (2, u "following"), (2, u "last"), (0, u "I"), (2, u "size"), (2, u "equal"), (0, u "([B[BII)Z"), (39, u "FIRST_SLOTS")] 12

def k2m0 : Method := { name := "<init>", desc := "()V", sig := { parameters := [], returnType := none }, accessFlags := 0, code := none }
def k2c1 : Code := { maxStack := 4, maxLocals := 5, code := prog_100_method_9_code, exceptionTable := #[], attributes := #[] }
def k2m1 : Method := { name := "equal", desc := "([B[BII)Z", sig := { parameters := [(.array .byte), (.array .byte), .int, .int], returnType := some .boolean }, accessFlags := 8, code := some k2c1 }
/-- com/example/indexloom/indexloom/Texts -/
def k2 : Class := { plain "com/example/indexloom/indexloom/Texts" (some 0) with
  accessFlags := 48
  interfaces := #[]
  cf := some (fileOf pool2 7 #[] #[{ accessFlags := 0, nameIndex := 5, descriptorIndex := 6, attributes := #[] }, { accessFlags := 8, nameIndex := 40, descriptorIndex := 41, attributes := #[] }] 48 2 #[] #[{ accessFlags := 26, nameIndex := 81, descriptorIndex := 34, attributes := #[] }, { accessFlags := 2, nameIndex := 11, descriptorIndex := 12, attributes := #[] }, { accessFlags := 2, nameIndex := 17, descriptorIndex := 18, attributes := #[] }, { accessFlags := 2, nameIndex := 21, descriptorIndex := 12, attributes := #[] }, { accessFlags := 2, nameIndex := 26, descriptorIndex := 27, attributes := #[] }, { accessFlags := 2, nameIndex := 30, descriptorIndex := 12, attributes := #[] }, { accessFlags := 2, nameIndex := 33, descriptorIndex := 34, attributes := #[] }, { accessFlags := 2, nameIndex := 37, descriptorIndex := 34, attributes := #[] }])
  fields := #[{ name := "FIRST_SLOTS", type := .int, accessFlags := 26, slot := 0, constantValue := 0 }, { name := "slots", type := (.array .int), accessFlags := 2, slot := 0, constantValue := 0 }, { name := "bytes", type := (.array (.array .byte)), accessFlags := 2, slot := 1, constantValue := 0 }, { name := "hashes", type := (.array .int), accessFlags := 2, slot := 2, constantValue := 0 }, { name := "texts", type := (.array (.object "java/lang/String")), accessFlags := 2, slot := 3, constantValue := 0 }, { name := "following", type := (.array .int), accessFlags := 2, slot := 4, constantValue := 0 }, { name := "last", type := .int, accessFlags := 2, slot := 5, constantValue := 0 }, { name := "size", type := .int, accessFlags := 2, slot := 6, constantValue := 0 }]
  methods := #[k2m0, k2m1]
  instanceTypes := #[(.array .int), (.array (.array .byte)), (.array .int), (.array (.object "java/lang/String")), (.array .int), .int, .int]
  staticTypes := #[.int]
  resolved := Array.replicate 94 none
  statics := none }

def pool3 : Array CpInfo := pool [(1, u "java/lang/Cloneable"), (0, .class_ 1), (0, u "java/lang/Object"), (0, .class_ 3)] 3

/-- java/lang/Cloneable -/
def k3 : Class := { plain "java/lang/Cloneable" (some 0) with
  accessFlags := 1537
  interfaces := #[]
  cf := some (fileOf pool3 2 #[] #[] 1537 4 #[] #[])
  fields := #[]
  methods := #[]
  instanceTypes := #[]
  staticTypes := #[]
  resolved := Array.replicate 8 none
  statics := none }

def pool4 : Array CpInfo := pool [(1, u "java/io/Serializable"), (0, .class_ 1), (0, u "java/lang/Object"), (0, .class_ 3)] 3

/-- java/io/Serializable -/
def k4 : Class := { plain "java/io/Serializable" (some 0) with
  accessFlags := 1537
  interfaces := #[]
  cf := some (fileOf pool4 2 #[] #[] 1537 4 #[] #[])
  fields := #[]
  methods := #[]
  instanceTypes := #[]
  staticTypes := #[]
  resolved := Array.replicate 8 none
  statics := none }

/-- the primitive byte -/
def k5 : Class := { plain "byte" none with kind := .primitive 'B', accessFlags := 0x411 }
/-- [B -/
def k6 : Class := { plain "[B" (some 0) with kind := .array 5 .byte, interfaces := #[3, 4], accessFlags := 1041 }

/-- the primitive int -/
def k7 : Class := { plain "int" none with kind := .primitive 'I', accessFlags := 0x411 }
/-- [I -/
def k8 : Class := { plain "[I" (some 0) with kind := .array 7 .int, interfaces := #[3, 4], accessFlags := 1041 }

def heap : Heap := #[]
def classes : Array Class := #[k0, k1, k2, k3, k4, k5, k6, k7, k8]
def interned : List (Array UInt16 × Addr) := []
def slotsUsed : Nat := 0
def theMethod : MethodId := ⟨1, 2⟩
def args0 : Array Value := #[.int 3, .int 5, .int 6, .long 7, .int 8]
def aboutOver (below : List Frame) : State where
  vm := { classes := classes, interned := interned.toArray }
  heap := heap
  slotsUsed := slotsUsed
  threads := #[{ frames := .invoking theMethod args0 :: below }]
def below0 : List Frame := [.native { method := ⟨0, 0⟩, args := #[] }]
def about1 : State := aboutOver below0
def p0 : Program := .bare "" "" ""
def e0 : Env := launch0.env 0 0 0
theorem w_frames : about1.frames = Frame.invoking theMethod args0 :: below0 := rfl
set_option maxRecDepth 65536 in
theorem w_args : argsFit about1.vm theMethod args0 = true := by decide +kernel
set_option maxRecDepth 65536 in
theorem w_heap : heapFits about1 = true := by decide +kernel
set_option maxRecDepth 65536 in
theorem w_runnable : about1.curStatus? = some .runnable := by decide +kernel
set_option maxRecDepth 65536 in
theorem w_alone : about1.alone = true := by decide +kernel
set_option maxRecDepth 65536 in
theorem w_named : about1.methodNamed? x = some theMethod := by decide +kernel
set_option maxRecDepth 65536 in
theorem w_hears : about1.hears theMethod below0 = true := by decide +kernel
set_option maxRecDepth 65536 in
theorem w_ripe : about1.ripe theMethod args0 below0 = true := by decide +kernel
theorem w_running : about1.status = .running := rfl
set_option maxRecDepth 65536 in
theorem w_room : about1.hasRoom e0.platform room_1 = true :=
  launch0.hasRoom_least _ room_1 (by decide +kernel) (by decide +kernel) (by decide +kernel) (by decide +kernel) (by decide +kernel) (by decide +kernel)
theorem allAtoms_all (ts : List Jvm.Cond) (a : Array Jvm.Value) (st : Jvm.State) : (allAtoms ts).before a st = ts.all (fun c => c.before a st) := by
  induction ts with
  | nil => rfl
  | cons c t ih =>
    show (Jvm.Cond.and c (allAtoms t)).before a st = _
    rw [Jvm.Cond.before_and, ih, List.all_cons]
def words1 : List Jvm.Cond := Jvm.Cond.code x code maxLocals ret :: tables_1
/-- a 'code' word, met by the world's own term for the bytes: nothing is compared byte by byte -/
theorem code_word {y : MethodName} {bytes : ByteArray} {mx : Nat} {rt : Option FieldType} {a : Array Value} {s : State} {m : MethodId} {meth : Method} {c : Code} (h1 : s.methodNamed? y = some m) (h2 : s.vm.method? m = some meth) (h3 : meth.code = some c) (h4 : c.code = bytes)
    (h5 : (c.maxLocals == mx && c.exceptionTable.isEmpty && decide (c.maxStack ≤ mostOperands) && decide (meth.sig.returnType = rt) && !meth.locks && decide (parseMethodDescriptor y.desc = some meth.sig)) = true) : (Jvm.Cond.code y bytes mx rt).before a s = true := by
  simp only [Bool.and_eq_true, beq_iff_eq, Bool.not_eq_true', decide_eq_true_eq] at h5
  obtain ⟨⟨⟨⟨⟨g1, g2⟩, g3⟩, g4⟩, g5⟩, g6⟩ := h5
  simp [Cond.before, Cond.holds, Cond.value, h1, h2, h3, h4, g1, g2, g3, g4, g5, g6]
def isCode : Jvm.Cond → Bool
  | .code _ _ _ _ => true
  | _ => false
theorem all_split {L : List Jvm.Cond} {P : Jvm.Cond → Bool} (h1 : L.all (fun c => isCode c || P c) = true) (h2 : ∀ c ∈ L.filter isCode, P c = true) : L.all P = true := by
  refine List.all_eq_true.mpr fun c hc => ?_
  have h := List.all_eq_true.mp h1 c hc
  rcases Bool.eq_false_or_eq_true (isCode c) with hi | hi
  · exact h2 c (List.mem_filter.mpr ⟨hc, hi⟩)
  · simpa [hi] using h
set_option maxRecDepth 65536 in
theorem w_c0 : (Jvm.Cond.code x code maxLocals ret).before args0 about1 = true := code_word (m := ⟨1, 2⟩) (meth := k1m2) (c := k1c2) (by decide +kernel) rfl rfl rfl (by decide +kernel)
set_option maxRecDepth 65536 in
theorem w_c1 : (Jvm.Cond.code ({ cls := "com/example/indexloom/indexloom/TextsEqualPinLaw", name := "pick", desc := "(IIBII)B" } : Jvm.MethodName) method_2_code (5 : Nat) (Option.some Jvm.ClassFile.FieldType.byte)).before args0 about1 = true := code_word (m := ⟨1, 1⟩) (meth := k1m1) (c := k1c1) (by decide +kernel) rfl rfl rfl (by decide +kernel)
set_option maxRecDepth 65536 in
theorem w_c2 : (Jvm.Cond.code ({ cls := "com/example/indexloom/indexloom/Texts", name := "equal", desc := "([B[BII)Z" } : Jvm.MethodName) prog_100_method_9_code (5 : Nat) (Option.some Jvm.ClassFile.FieldType.boolean)).before args0 about1 = true := code_word (m := ⟨2, 1⟩) (meth := k2m1) (c := k2c1) (by decide +kernel) rfl rfl rfl (by decide +kernel)
def codes1 : List Jvm.Cond := [Jvm.Cond.code x code maxLocals ret, Jvm.Cond.code ({ cls := "com/example/indexloom/indexloom/TextsEqualPinLaw", name := "pick", desc := "(IIBII)B" } : Jvm.MethodName) method_2_code (5 : Nat) (Option.some Jvm.ClassFile.FieldType.byte), Jvm.Cond.code ({ cls := "com/example/indexloom/indexloom/Texts", name := "equal", desc := "([B[BII)Z" } : Jvm.MethodName) prog_100_method_9_code (5 : Nat) (Option.some Jvm.ClassFile.FieldType.boolean)]
set_option maxRecDepth 65536 in
theorem codes_eq : words1.filter isCode = codes1 := rfl
theorem w_codes : ∀ c ∈ words1.filter isCode, c.before args0 about1 = true := by
  rw [codes_eq]
  intro c hc
  simp only [codes1, List.mem_cons, List.not_mem_nil, or_false] at hc
  rcases hc with rfl | rfl | rfl
  · exact w_c0
  · exact w_c1
  · exact w_c2
set_option maxRecDepth 65536 in
theorem w_t1 : words1.all (fun c => isCode c || c.before args0 about1) = true := by decide +kernel
theorem w_tables : (allAtoms (Jvm.Cond.code x code maxLocals ret :: tables_1)).before args0 about1 = true := by
  rw [allAtoms_all]
  show words1.all (fun c => c.before args0 about1) = true
  refine all_split ?_ w_codes
  rw [w_t1]
set_option maxRecDepth 65536 in
theorem w_case : (Jvm.Cond.and given_1 narrow_1).before args0 about1 = true := by decide +kernel
theorem w_applies : (headSpec (Jvm.Cond.code x code maxLocals ret :: tables_1) room_1).applies x e0.platform about1 = true :=
  (Spec.applies_iff w_frames).mpr ⟨w_running, w_runnable, w_alone, w_named, w_hears, w_ripe, w_room, w_tables⟩
theorem atStart : AtStart classFile x code maxLocals ret World_1 tables_1 room_1 Calls_1 rest_1 Pre_1 launch0 p0 e0 about1 theMethod args0 below0 :=
  ⟨lists_1, trivial, launch0.admits_env _ _ _, launch0.least_env, fairChoices_fair.cas, fairChoices_fair.clock, w_frames, w_args, w_heap, w_applies, trivial, trivial, w_case⟩
end start1
theorem witness_1 : WitnessClaimed_1 := ⟨start1.p0, start1.e0, start1.about1, start1.theMethod, start1.args0, start1.below0, start1.atStart⟩
end Jvm.Pilot.@@N@@
