import JvmDerived
import JvmDerived.Pilot.@@N@@Statement
import JvmDerived.Pilot.@@N@@Code
set_option linter.unusedVariables false
set_option linter.unusedSimpArgs false
@@BLOCK:NumsL.lean.txt@@
namespace Jvm.Pilot.@@N@@
open Jvm Jvm.ClassFile Sem Op Lib Jvm.Free Jvm.Stand Jvm.LawKit Jvm.RoadKit Bundle Jvm.Pilot.@@N@@.Jvm.D
section Own
variable {p : Program} {l : Launch} {e : Env} {R : Room} {s : State} {m : MethodId} {args : Array Value} {below : List Frame} {meth : Method} {c : Code} {own nm : String} {bytes : ByteArray} {ml : Nat} {ret : Option FieldType} {T : State} {locs : List Loc} {cells slots : Nat} {Z : State} {a0 : Array Value} {h : Heap} {n0 : Nat} {K : State → Outcome → Prop} {pc pc' pt : Nat} {L L' : Array Slot} {S : List Value}
/-- what is left of a run, from a state on -/
def Go (p : Program) (e : Env) (below : List Frame) (K : State → Outcome → Prop) (U : State) : Prop := ∃ s₂ o, Steps p.tables e below U s₂ ∧ s₂.status = .running ∧ Ended s₂ below o ∧ K s₂ o
theorem Go.of {U U' : State} (g : Go p e below K U') (st : ∀ t, Steps p.tables e below U' t → Steps p.tables e below U t) : Go p e below K U := by
  obtain ⟨s₂, o, h1, h2⟩ := g; exact ⟨s₂, o, st _ h1, h2⟩
/-- where a walk stands -/
def St (Z : State) (n0 : Nat) (p : Program) (l : Launch) (e : Env) (R : Room) (s : State) (m : MethodId) (args : Array Value) (below : List Frame) (meth : Method) (c : Code) (own nm : String) (bytes : ByteArray) (ml : Nat) (ret : Option FieldType) (T : State) (locs : List Loc) (cells slots : Nat) (h : Heap) : Prop :=
  Stand p l e R s m args below meth c T locs cells slots ∧ (p.tables.exec = Jvm.exec ∧ c.code = bytes ∧ c.maxLocals = ml ∧ s.vm.findClass own = some m.cls ∧ Z.Warmed39 s.vm ∧ meth.sig.returnType = ret ∧ meth.locks = false ∧ meth.name = nm) ∧ T.heap = h ∧ Fr n0 locs ∧ Old Z n0 h
theorem St.X (X : St Z n0 p l e R s m args below meth c own nm bytes ml ret T locs cells slots h) : Stand p l e R s m args below meth c T locs cells slots := X.1
theorem St.hx (X : St Z n0 p l e R s m args below meth c own nm bytes ml ret T locs cells slots h) : p.tables.exec = Jvm.exec := X.2.1.1
theorem St.by_ (X : St Z n0 p l e R s m args below meth c own nm bytes ml ret T locs cells slots h) : c.code = bytes := X.2.1.2.1
theorem St.ml_ (X : St Z n0 p l e R s m args below meth c own nm bytes ml ret T locs cells slots h) : c.maxLocals = ml := X.2.1.2.2.1
theorem St.own_ (X : St Z n0 p l e R s m args below meth c own nm bytes ml ret T locs cells slots h) : s.vm.findClass own = some m.cls := X.2.1.2.2.2.1
theorem St.hZ (X : St Z n0 p l e R s m args below meth c own nm bytes ml ret T locs cells slots h) : Z.Warmed39 s.vm := X.2.1.2.2.2.2.1
theorem St.ret_ (X : St Z n0 p l e R s m args below meth c own nm bytes ml ret T locs cells slots h) : meth.sig.returnType = ret := X.2.1.2.2.2.2.2.1
theorem St.lk (X : St Z n0 p l e R s m args below meth c own nm bytes ml ret T locs cells slots h) : meth.locks = false := X.2.1.2.2.2.2.2.2.1
theorem St.nm_ (X : St Z n0 p l e R s m args below meth c own nm bytes ml ret T locs cells slots h) : meth.name = nm := X.2.1.2.2.2.2.2.2.2
theorem St.eT (X : St Z n0 p l e R s m args below meth c own nm bytes ml ret T locs cells slots h) : T.heap = h := X.2.2.1
theorem St.fr (X : St Z n0 p l e R s m args below meth c own nm bytes ml ret T locs cells slots h) : Fr n0 locs := X.2.2.2.1
theorem St.old (X : St Z n0 p l e R s m args below meth c own nm bytes ml ret T locs cells slots h) : Old Z n0 h := X.2.2.2.2
theorem St.sz (X : St Z n0 p l e R s m args below meth c own nm bytes ml ret T locs cells slots h) : n0 ≤ h.size := X.2.2.2.2.1 ▸ X.2.2.2.2.2.1
theorem St.to (X : St Z n0 p l e R s m args below meth c own nm bytes ml ret T locs cells slots h) {T' : State} {locs' : List Loc} {cells' slots' : Nat} {h' : Heap} (Y : Stand p l e R s m args below meth c T' locs' cells' slots') (e' : T'.heap = h') (N : Fr n0 locs') (z : Old Z n0 h') : St Z n0 p l e R s m args below meth c own nm bytes ml ret T' locs' cells' slots' h' := ⟨Y, X.2.1, e', N, z⟩
theorem St.more (X : St Z n0 p l e R s m args below meth c own nm bytes ml ret T locs cells slots h) {c' n' : Nat} (q1 : cells ≤ c') (q2 : slots ≤ n') : St Z n0 p l e R s m args below meth c own nm bytes ml ret T locs c' n' h := ⟨X.X.mono q1 q2, X.2⟩
theorem St.d (X : St Z n0 p l e R s m args below meth c own nm bytes ml ret T locs cells slots h) {r : Except DecodeError (Instr × Nat)} (hd : decode bytes pc = r) : decode c.code pc = r := hb X.by_ hd
/-- a body's contract -/
def Con (l : Launch) (Z : State) (y : MethodName) (bytes : ByteArray) (ml : Nat) (ret : Option FieldType) (ws : List Jvm.Cond) (rm : Room) (C N : Nat) (as' : Array Value) (h : Heap) (Q : Option Value → Heap → List Loc → Prop) : Prop :=
  MetFree l y (head1 (Jvm.Cond.code y bytes ml ret :: ws) rm) (fun a U => a = as' ∧ Z.Warmed39 U.vm ∧ U.heap = h) (fun _ _ _ _ _ => True) (fun _ U o U' => ∃ v L, o = .returned v ∧ Q v U'.heap L ∧ FrameEnd U o U' L C N)
def Kq (s : State) (C N : Nat) (Q : Option Value → Heap → List Loc → Prop) (t : State) (o : Outcome) : Prop := ∃ v L, o = .returned v ∧ Q v t.heap L ∧ FrameEnd s o t L C N
theorem Con.intro {y : MethodName} {ws : List Jvm.Cond} {rm : Room} {C N : Nat} {as' : Array Value} {Q : Option Value → Heap → List Loc → Prop} (hy : plainFor y = true) (ef : ∀ m, entryFrame m as' ml = mkF m 0 L []) (hz : Old Z n0 h)
    (body : ∀ p e s m below meth c T, s.heap = h → St Z n0 p l e rm s m as' below meth c y.cls y.name bytes ml ret T [] 0 0 h → Go p e below (Kq s C N Q) (T.setTop (mkF m 0 L []))) : Con l Z y bytes ml ret ws rm C N as' h Q := by
  refine MetFree.of_bodySF hy hisR ?_
  intro p e s m args below meth c s₁ Bd hml0 hP hK
  obtain ⟨rfl, hZ, hh⟩ := hP
  have e0 : s₁.heap = h := by rw [← hh, Bd.state]; rfl
  obtain ⟨s₂, o, h1, h2, h3, h4⟩ := body p e s m below meth c s₁ hh ⟨Stand.of_body Bd, ⟨Bd.exec, Bd.bytes, hml0, findClass_of_methodNamed Bd.named, hZ, Bd.returns, Bd.notSynchronized, (name_of_methodNamed Bd.named Bd.method).1⟩, e0, Fr.nil n0, hz⟩
  exact ⟨s₂, o, castTop (ef m) h1, h2, h3, h4⟩
theorem go_eq {f g : JFrame} (q : f = g) (k : Go p e below K (T.setTop g)) : Go p e below K (T.setTop f) := q ▸ k
theorem g_iloadN (X : St Z n0 p l e R s m args below meth c own nm bytes ml ret T locs cells slots h) {k : Fin 4} {v : Int32} (hd : decode bytes pc = .ok (.iload_n k, 1)) (hp : pc + 1 = pc') (hl : L[k.val]? = some (.val (.int v))) (k : Go p e below K (T.setTop (mkF m pc' L (.int v :: S)))) : Go p e below K (T.setTop (mkF m pc L S)) := by
  subst hp; exact k.of (fun _ q => XS.iloadN X.X.here X.hx rfl (X.d hd) hl q)
theorem g_iload (X : St Z n0 p l e R s m args below meth c own nm bytes ml ret T locs cells slots h) {k : Nat} {v : Int32} (hd : decode bytes pc = .ok (.iload k, 2)) (hp : pc + 2 = pc') (hl : L[k]? = some (.val (.int v))) (k : Go p e below K (T.setTop (mkF m pc' L (.int v :: S)))) : Go p e below K (T.setTop (mkF m pc L S)) := by
  subst hp; exact k.of (fun _ q => XS.iload X.X.here X.hx rfl (X.d hd) hl q)
theorem g_lloadN (X : St Z n0 p l e R s m args below meth c own nm bytes ml ret T locs cells slots h) {k : Fin 4} {v : Int64} (hd : decode bytes pc = .ok (.lload_n k, 1)) (hp : pc + 1 = pc') (hl : L[k.val]? = some (.val (.long v))) (k : Go p e below K (T.setTop (mkF m pc' L (.long v :: S)))) : Go p e below K (T.setTop (mkF m pc L S)) := by
  subst hp; exact k.of (fun _ q => XS.lloadN X.X.here X.hx rfl (X.d hd) hl q)
theorem g_lload (X : St Z n0 p l e R s m args below meth c own nm bytes ml ret T locs cells slots h) {k : Nat} {v : Int64} (hd : decode bytes pc = .ok (.lload k, 2)) (hp : pc + 2 = pc') (hl : L[k]? = some (.val (.long v))) (k : Go p e below K (T.setTop (mkF m pc' L (.long v :: S)))) : Go p e below K (T.setTop (mkF m pc L S)) := by
  subst hp; exact k.of (fun _ q => XS.lload X.X.here X.hx rfl (X.d hd) hl q)
theorem g_aloadN (X : St Z n0 p l e R s m args below meth c own nm bytes ml ret T locs cells slots h) {k : Fin 4} {v : Value} (hd : decode bytes pc = .ok (.aload_n k, 1)) (hp : pc + 1 = pc') (hl : L[k.val]? = some (.val v)) (hv : v.isRef = true) (k : Go p e below K (T.setTop (mkF m pc' L (v :: S)))) : Go p e below K (T.setTop (mkF m pc L S)) := by
  subst hp; exact k.of (fun _ q => XS.aloadN X.X.here X.hx rfl (X.d hd) hl hv q)
theorem g_aload (X : St Z n0 p l e R s m args below meth c own nm bytes ml ret T locs cells slots h) {k : Nat} {v : Value} (hd : decode bytes pc = .ok (.aload k, 2)) (hp : pc + 2 = pc') (hl : L[k]? = some (.val v)) (hv : v.isRef = true) (k : Go p e below K (T.setTop (mkF m pc' L (v :: S)))) : Go p e below K (T.setTop (mkF m pc L S)) := by
  subst hp; exact k.of (fun _ q => XS.aload X.X.here X.hx rfl (X.d hd) hl hv q)
theorem g_istoreN (X : St Z n0 p l e R s m args below meth c own nm bytes ml ret T locs cells slots h) {k : Fin 4} {v : Int32} (hd : decode bytes pc = .ok (.istore_n k, 1)) (hp : pc + 1 = pc') (hl : storeLocals L k.val (.int v) = some L') (k : Go p e below K (T.setTop (mkF m pc' L' S))) : Go p e below K (T.setTop (mkF m pc L (.int v :: S))) := by
  subst hp; exact k.of (fun _ q => XS.istoreN X.X.here X.hx rfl (X.d hd) rfl hl q)
theorem g_istore (X : St Z n0 p l e R s m args below meth c own nm bytes ml ret T locs cells slots h) {k : Nat} {v : Int32} (hd : decode bytes pc = .ok (.istore k, 2)) (hp : pc + 2 = pc') (hl : storeLocals L k (.int v) = some L') (k : Go p e below K (T.setTop (mkF m pc' L' S))) : Go p e below K (T.setTop (mkF m pc L (.int v :: S))) := by
  subst hp; exact k.of (fun _ q => XS.istore X.X.here X.hx rfl (X.d hd) rfl hl q)
theorem g_lstoreN (X : St Z n0 p l e R s m args below meth c own nm bytes ml ret T locs cells slots h) {k : Fin 4} {v : Int64} (hd : decode bytes pc = .ok (.lstore_n k, 1)) (hp : pc + 1 = pc') (hl : storeLocals L k.val (.long v) = some L') (k : Go p e below K (T.setTop (mkF m pc' L' S))) : Go p e below K (T.setTop (mkF m pc L (.long v :: S))) := by
  subst hp; exact k.of (fun _ q => XS.lstoreN X.X.here X.hx rfl (X.d hd) rfl hl q)
theorem g_lstore (X : St Z n0 p l e R s m args below meth c own nm bytes ml ret T locs cells slots h) {k : Nat} {v : Int64} (hd : decode bytes pc = .ok (.lstore k, 2)) (hp : pc + 2 = pc') (hl : storeLocals L k (.long v) = some L') (k : Go p e below K (T.setTop (mkF m pc' L' S))) : Go p e below K (T.setTop (mkF m pc L (.long v :: S))) := by
  subst hp; exact k.of (fun _ q => XS.lstore X.X.here X.hx rfl (X.d hd) rfl hl q)
theorem g_astoreN (X : St Z n0 p l e R s m args below meth c own nm bytes ml ret T locs cells slots h) {k : Fin 4} {v : Value} (hd : decode bytes pc = .ok (.astore_n k, 1)) (hp : pc + 1 = pc') (hv : v.isRef = true) (hl : storeLocals L k.val v = some L') (k : Go p e below K (T.setTop (mkF m pc' L' S))) : Go p e below K (T.setTop (mkF m pc L (v :: S))) := by
  subst hp; exact k.of (fun _ q => XS.astoreN X.X.here X.hx rfl (X.d hd) rfl hv hl q)
theorem g_astore (X : St Z n0 p l e R s m args below meth c own nm bytes ml ret T locs cells slots h) {k : Nat} {v : Value} (hd : decode bytes pc = .ok (.astore k, 2)) (hp : pc + 2 = pc') (hv : v.isRef = true) (hl : storeLocals L k v = some L') (k : Go p e below K (T.setTop (mkF m pc' L' S))) : Go p e below K (T.setTop (mkF m pc L (v :: S))) := by
  subst hp; exact k.of (fun _ q => XS.astore X.X.here X.hx rfl (X.d hd) rfl hv hl q)
theorem g_iinc (X : St Z n0 p l e R s m args below meth c own nm bytes ml ret T locs cells slots h) {k : Nat} {z : Int} {v : Int32} (hd : decode bytes pc = .ok (.iinc k z, 3)) (hp : pc + 3 = pc') (hl : L[k]? = some (.val (.int v))) (hl' : storeLocals L k (.int (v + Int32.ofInt z)) = some L') (k : Go p e below K (T.setTop (mkF m pc' L' S))) : Go p e below K (T.setTop (mkF m pc L S)) := by
  subst hp; exact k.of (fun _ q => XS.iinc X.X.here X.hx rfl (X.d hd) hl hl' q)
theorem g_iconst (X : St Z n0 p l e R s m args below meth c own nm bytes ml ret T locs cells slots h) {i : Int} {v : Int32} (hd : decode bytes pc = .ok (.iconst i, 1)) (hp : pc + 1 = pc') (hv : Int32.ofInt i = v) (k : Go p e below K (T.setTop (mkF m pc' L (.int v :: S)))) : Go p e below K (T.setTop (mkF m pc L S)) := by
  subst hp; exact k.of (fun _ q => XS.iconst X.X.here X.hx rfl (X.d hd) (hv ▸ q))
theorem g_bipush (X : St Z n0 p l e R s m args below meth c own nm bytes ml ret T locs cells slots h) {i : Int} {v : Int32} (hd : decode bytes pc = .ok (.bipush i, 2)) (hp : pc + 2 = pc') (hv : (Int8.ofInt i).toInt32 = v) (k : Go p e below K (T.setTop (mkF m pc' L (.int v :: S)))) : Go p e below K (T.setTop (mkF m pc L S)) := by
  subst hp; exact k.of (fun _ q => XS.bipush X.X.here X.hx rfl (X.d hd) (hv ▸ q))
theorem g_sipush (X : St Z n0 p l e R s m args below meth c own nm bytes ml ret T locs cells slots h) {i : Int} {v : Int32} (hd : decode bytes pc = .ok (.sipush i, 3)) (hp : pc + 3 = pc') (hv : (Int16.ofInt i).toInt32 = v) (k : Go p e below K (T.setTop (mkF m pc' L (.int v :: S)))) : Go p e below K (T.setTop (mkF m pc L S)) := by
  subst hp; exact k.of (fun _ q => XS.sipush X.X.here X.hx rfl (X.d hd) (hv ▸ q))
theorem g_lconst (X : St Z n0 p l e R s m args below meth c own nm bytes ml ret T locs cells slots h) {i : Fin 2} {v : Int64} (hd : decode bytes pc = .ok (.lconst i, 1)) (hp : pc + 1 = pc') (hv : Int64.ofNat i = v) (k : Go p e below K (T.setTop (mkF m pc' L (.long v :: S)))) : Go p e below K (T.setTop (mkF m pc L S)) := by
  subst hp; exact k.of (fun _ q => XS.lconst X.X.here X.hx rfl (X.d hd) (hv ▸ q))
theorem g_aconst_null (X : St Z n0 p l e R s m args below meth c own nm bytes ml ret T locs cells slots h) (hd : decode bytes pc = .ok (.aconst_null, 1)) (hp : pc + 1 = pc') (k : Go p e below K (T.setTop (mkF m pc' L (.null :: S)))) : Go p e below K (T.setTop (mkF m pc L S)) := by
  subst hp; exact k.of (fun _ q => XS.aconstNull X.X.here X.hx rfl (X.d hd) q)
theorem g_iadd (X : St Z n0 p l e R s m args below meth c own nm bytes ml ret T locs cells slots h) {x y : Int32} (hd : decode bytes pc = .ok (.iadd, 1)) (hp : pc + 1 = pc') (k : Go p e below K (T.setTop (mkF m pc' L (.int (x + y) :: S)))) : Go p e below K (T.setTop (mkF m pc L (.int y :: .int x :: S))) := by
  subst hp; exact k.of (fun _ q => XS.iadd X.X.here X.hx rfl (X.d hd) rfl q)
theorem g_isub (X : St Z n0 p l e R s m args below meth c own nm bytes ml ret T locs cells slots h) {x y : Int32} (hd : decode bytes pc = .ok (.isub, 1)) (hp : pc + 1 = pc') (k : Go p e below K (T.setTop (mkF m pc' L (.int (x - y) :: S)))) : Go p e below K (T.setTop (mkF m pc L (.int y :: .int x :: S))) := by
  subst hp; exact k.of (fun _ q => XS.isub X.X.here X.hx rfl (X.d hd) rfl q)
theorem g_imul (X : St Z n0 p l e R s m args below meth c own nm bytes ml ret T locs cells slots h) {x y : Int32} (hd : decode bytes pc = .ok (.imul, 1)) (hp : pc + 1 = pc') (k : Go p e below K (T.setTop (mkF m pc' L (.int (x * y) :: S)))) : Go p e below K (T.setTop (mkF m pc L (.int y :: .int x :: S))) := by
  subst hp; exact k.of (fun _ q => XS.imul X.X.here X.hx rfl (X.d hd) rfl q)
theorem g_iand (X : St Z n0 p l e R s m args below meth c own nm bytes ml ret T locs cells slots h) {x y : Int32} (hd : decode bytes pc = .ok (.iand, 1)) (hp : pc + 1 = pc') (k : Go p e below K (T.setTop (mkF m pc' L (.int (x &&& y) :: S)))) : Go p e below K (T.setTop (mkF m pc L (.int y :: .int x :: S))) := by
  subst hp; exact k.of (fun _ q => XS.iand X.X.here X.hx rfl (X.d hd) rfl q)
theorem g_ior (X : St Z n0 p l e R s m args below meth c own nm bytes ml ret T locs cells slots h) {x y : Int32} (hd : decode bytes pc = .ok (.ior, 1)) (hp : pc + 1 = pc') (k : Go p e below K (T.setTop (mkF m pc' L (.int (x ||| y) :: S)))) : Go p e below K (T.setTop (mkF m pc L (.int y :: .int x :: S))) := by
  subst hp; exact k.of (fun _ q => XS.ior X.X.here X.hx rfl (X.d hd) rfl q)
theorem g_ixor (X : St Z n0 p l e R s m args below meth c own nm bytes ml ret T locs cells slots h) {x y : Int32} (hd : decode bytes pc = .ok (.ixor, 1)) (hp : pc + 1 = pc') (k : Go p e below K (T.setTop (mkF m pc' L (.int (x ^^^ y) :: S)))) : Go p e below K (T.setTop (mkF m pc L (.int y :: .int x :: S))) := by
  subst hp; exact k.of (fun _ q => XS.ixor X.X.here X.hx rfl (X.d hd) rfl q)
theorem g_ishl (X : St Z n0 p l e R s m args below meth c own nm bytes ml ret T locs cells slots h) {x y : Int32} (hd : decode bytes pc = .ok (.ishl, 1)) (hp : pc + 1 = pc') (k : Go p e below K (T.setTop (mkF m pc' L (.int (x <<< (y &&& 31)) :: S)))) : Go p e below K (T.setTop (mkF m pc L (.int y :: .int x :: S))) := by
  subst hp; exact k.of (fun _ q => XS.ishl X.X.here X.hx rfl (X.d hd) rfl q)
theorem g_ishr (X : St Z n0 p l e R s m args below meth c own nm bytes ml ret T locs cells slots h) {x y : Int32} (hd : decode bytes pc = .ok (.ishr, 1)) (hp : pc + 1 = pc') (k : Go p e below K (T.setTop (mkF m pc' L (.int (x >>> (y &&& 31)) :: S)))) : Go p e below K (T.setTop (mkF m pc L (.int y :: .int x :: S))) := by
  subst hp; exact k.of (fun _ q => XS.ishr X.X.here X.hx rfl (X.d hd) rfl q)
theorem g_iushr (X : St Z n0 p l e R s m args below meth c own nm bytes ml ret T locs cells slots h) {x y : Int32} (hd : decode bytes pc = .ok (.iushr, 1)) (hp : pc + 1 = pc') (k : Go p e below K (T.setTop (mkF m pc' L (.int ((x.toUInt32 >>> (y &&& 31).toUInt32).toInt32) :: S)))) : Go p e below K (T.setTop (mkF m pc L (.int y :: .int x :: S))) := by
  subst hp; exact k.of (fun _ q => XS.iushr X.X.here X.hx rfl (X.d hd) rfl q)
theorem g_idiv (X : St Z n0 p l e R s m args below meth c own nm bytes ml ret T locs cells slots h) {x y : Int32} (hd : decode bytes pc = .ok (.idiv, 1)) (hp : pc + 1 = pc') (hy : y ≠ 0) (k : Go p e below K (T.setTop (mkF m pc' L (.int (x / y) :: S)))) : Go p e below K (T.setTop (mkF m pc L (.int y :: .int x :: S))) := by
  subst hp; exact k.of (fun _ q => XS.idiv X.X.here X.hx rfl (X.d hd) rfl hy q)
theorem g_irem (X : St Z n0 p l e R s m args below meth c own nm bytes ml ret T locs cells slots h) {x y : Int32} (hd : decode bytes pc = .ok (.irem, 1)) (hp : pc + 1 = pc') (hy : y ≠ 0) (k : Go p e below K (T.setTop (mkF m pc' L (.int (x % y) :: S)))) : Go p e below K (T.setTop (mkF m pc L (.int y :: .int x :: S))) := by
  subst hp; exact k.of (fun _ q => iremM X.X X.hx rfl (X.d hd) rfl hy q)
theorem g_ladd (X : St Z n0 p l e R s m args below meth c own nm bytes ml ret T locs cells slots h) {x y : Int64} (hd : decode bytes pc = .ok (.ladd, 1)) (hp : pc + 1 = pc') (k : Go p e below K (T.setTop (mkF m pc' L (.long (x + y) :: S)))) : Go p e below K (T.setTop (mkF m pc L (.long y :: .long x :: S))) := by
  subst hp; exact k.of (fun _ q => XS.ladd X.X.here X.hx rfl (X.d hd) rfl q)
theorem g_lsub (X : St Z n0 p l e R s m args below meth c own nm bytes ml ret T locs cells slots h) {x y : Int64} (hd : decode bytes pc = .ok (.lsub, 1)) (hp : pc + 1 = pc') (k : Go p e below K (T.setTop (mkF m pc' L (.long (x - y) :: S)))) : Go p e below K (T.setTop (mkF m pc L (.long y :: .long x :: S))) := by
  subst hp; exact k.of (fun _ q => XS.lsub X.X.here X.hx rfl (X.d hd) rfl q)
theorem g_lmul (X : St Z n0 p l e R s m args below meth c own nm bytes ml ret T locs cells slots h) {x y : Int64} (hd : decode bytes pc = .ok (.lmul, 1)) (hp : pc + 1 = pc') (k : Go p e below K (T.setTop (mkF m pc' L (.long (x * y) :: S)))) : Go p e below K (T.setTop (mkF m pc L (.long y :: .long x :: S))) := by
  subst hp; exact k.of (fun _ q => XS.lmul X.X.here X.hx rfl (X.d hd) rfl q)
theorem g_land (X : St Z n0 p l e R s m args below meth c own nm bytes ml ret T locs cells slots h) {x y : Int64} (hd : decode bytes pc = .ok (.land, 1)) (hp : pc + 1 = pc') (k : Go p e below K (T.setTop (mkF m pc' L (.long (x &&& y) :: S)))) : Go p e below K (T.setTop (mkF m pc L (.long y :: .long x :: S))) := by
  subst hp; exact k.of (fun _ q => XS.land X.X.here X.hx rfl (X.d hd) rfl q)
theorem g_lor (X : St Z n0 p l e R s m args below meth c own nm bytes ml ret T locs cells slots h) {x y : Int64} (hd : decode bytes pc = .ok (.lor, 1)) (hp : pc + 1 = pc') (k : Go p e below K (T.setTop (mkF m pc' L (.long (x ||| y) :: S)))) : Go p e below K (T.setTop (mkF m pc L (.long y :: .long x :: S))) := by
  subst hp; exact k.of (fun _ q => XS.lor X.X.here X.hx rfl (X.d hd) rfl q)
theorem g_lxor (X : St Z n0 p l e R s m args below meth c own nm bytes ml ret T locs cells slots h) {x y : Int64} (hd : decode bytes pc = .ok (.lxor, 1)) (hp : pc + 1 = pc') (k : Go p e below K (T.setTop (mkF m pc' L (.long (x ^^^ y) :: S)))) : Go p e below K (T.setTop (mkF m pc L (.long y :: .long x :: S))) := by
  subst hp; exact k.of (fun _ q => XS.lxor X.X.here X.hx rfl (X.d hd) rfl q)
theorem g_ldiv (X : St Z n0 p l e R s m args below meth c own nm bytes ml ret T locs cells slots h) {x y : Int64} (hd : decode bytes pc = .ok (.ldiv, 1)) (hp : pc + 1 = pc') (hy : y ≠ 0) (k : Go p e below K (T.setTop (mkF m pc' L (.long (x / y) :: S)))) : Go p e below K (T.setTop (mkF m pc L (.long y :: .long x :: S))) := by
  subst hp; exact k.of (fun _ q => XS.ldiv X.X.here X.hx rfl (X.d hd) rfl hy q)
theorem g_lrem (X : St Z n0 p l e R s m args below meth c own nm bytes ml ret T locs cells slots h) {x y : Int64} (hd : decode bytes pc = .ok (.lrem, 1)) (hp : pc + 1 = pc') (hy : y ≠ 0) (k : Go p e below K (T.setTop (mkF m pc' L (.long (x - (x / y) * y) :: S)))) : Go p e below K (T.setTop (mkF m pc L (.long y :: .long x :: S))) := by
  subst hp; exact k.of (fun _ q => XS.lrem X.X.here X.hx rfl (X.d hd) rfl hy q)
theorem g_lshl (X : St Z n0 p l e R s m args below meth c own nm bytes ml ret T locs cells slots h) {x : Int64} {y : Int32} (hd : decode bytes pc = .ok (.lshl, 1)) (hp : pc + 1 = pc') (k : Go p e below K (T.setTop (mkF m pc' L (.long (x <<< (y &&& 0x3f).toInt64) :: S)))) : Go p e below K (T.setTop (mkF m pc L (.int y :: .long x :: S))) := by
  subst hp; exact k.of (fun _ q => XS.lshl X.X.here X.hx rfl (X.d hd) rfl q)
theorem g_lshr (X : St Z n0 p l e R s m args below meth c own nm bytes ml ret T locs cells slots h) {x : Int64} {y : Int32} (hd : decode bytes pc = .ok (.lshr, 1)) (hp : pc + 1 = pc') (k : Go p e below K (T.setTop (mkF m pc' L (.long (x >>> (y &&& 0x3f).toInt64) :: S)))) : Go p e below K (T.setTop (mkF m pc L (.int y :: .long x :: S))) := by
  subst hp; exact k.of (fun _ q => XS.lshr X.X.here X.hx rfl (X.d hd) rfl q)
theorem g_lushr (X : St Z n0 p l e R s m args below meth c own nm bytes ml ret T locs cells slots h) {x : Int64} {y : Int32} (hd : decode bytes pc = .ok (.lushr, 1)) (hp : pc + 1 = pc') (k : Go p e below K (T.setTop (mkF m pc' L (.long ((x.toUInt64 >>> (y &&& 0x3f).toInt64.toUInt64).toInt64) :: S)))) : Go p e below K (T.setTop (mkF m pc L (.int y :: .long x :: S))) := by
  subst hp; exact k.of (fun _ q => XS.lushr X.X.here X.hx rfl (X.d hd) rfl q)
theorem g_i2b (X : St Z n0 p l e R s m args below meth c own nm bytes ml ret T locs cells slots h) {v : Int32} (hd : decode bytes pc = .ok (.i2b, 1)) (hp : pc + 1 = pc') (k : Go p e below K (T.setTop (mkF m pc' L (.int (v.toInt8.toInt32) :: S)))) : Go p e below K (T.setTop (mkF m pc L (.int v :: S))) := by
  subst hp; exact k.of (fun _ q => XS.i2b X.X.here X.hx rfl (X.d hd) rfl q)
theorem g_i2c (X : St Z n0 p l e R s m args below meth c own nm bytes ml ret T locs cells slots h) {v : Int32} (hd : decode bytes pc = .ok (.i2c, 1)) (hp : pc + 1 = pc') (k : Go p e below K (T.setTop (mkF m pc' L (.int (v.toUInt32.toUInt16.toUInt32.toInt32) :: S)))) : Go p e below K (T.setTop (mkF m pc L (.int v :: S))) := by
  subst hp; exact k.of (fun _ q => XS.i2c X.X.here X.hx rfl (X.d hd) rfl q)
theorem g_i2s (X : St Z n0 p l e R s m args below meth c own nm bytes ml ret T locs cells slots h) {v : Int32} (hd : decode bytes pc = .ok (.i2s, 1)) (hp : pc + 1 = pc') (k : Go p e below K (T.setTop (mkF m pc' L (.int (v.toInt16.toInt32) :: S)))) : Go p e below K (T.setTop (mkF m pc L (.int v :: S))) := by
  subst hp; exact k.of (fun _ q => XS.i2s X.X.here X.hx rfl (X.d hd) rfl q)
theorem g_ineg (X : St Z n0 p l e R s m args below meth c own nm bytes ml ret T locs cells slots h) {v : Int32} (hd : decode bytes pc = .ok (.ineg, 1)) (hp : pc + 1 = pc') (k : Go p e below K (T.setTop (mkF m pc' L (.int (-v) :: S)))) : Go p e below K (T.setTop (mkF m pc L (.int v :: S))) := by
  subst hp; exact k.of (fun _ q => XS.ineg X.X.here X.hx rfl (X.d hd) rfl q)
theorem g_i2l (X : St Z n0 p l e R s m args below meth c own nm bytes ml ret T locs cells slots h) {v : Int32} (hd : decode bytes pc = .ok (.i2l, 1)) (hp : pc + 1 = pc') (k : Go p e below K (T.setTop (mkF m pc' L (.long (v.toInt64) :: S)))) : Go p e below K (T.setTop (mkF m pc L (.int v :: S))) := by
  subst hp; exact k.of (fun _ q => XS.i2l X.X.here X.hx rfl (X.d hd) rfl q)
theorem g_l2i (X : St Z n0 p l e R s m args below meth c own nm bytes ml ret T locs cells slots h) {v : Int64} (hd : decode bytes pc = .ok (.l2i, 1)) (hp : pc + 1 = pc') (k : Go p e below K (T.setTop (mkF m pc' L (.int (v.toInt32) :: S)))) : Go p e below K (T.setTop (mkF m pc L (.long v :: S))) := by
  subst hp; exact k.of (fun _ q => XS.l2i X.X.here X.hx rfl (X.d hd) rfl q)
theorem g_lneg (X : St Z n0 p l e R s m args below meth c own nm bytes ml ret T locs cells slots h) {v : Int64} (hd : decode bytes pc = .ok (.lneg, 1)) (hp : pc + 1 = pc') (k : Go p e below K (T.setTop (mkF m pc' L (.long (-v) :: S)))) : Go p e below K (T.setTop (mkF m pc L (.long v :: S))) := by
  subst hp; exact k.of (fun _ q => XS.lneg X.X.here X.hx rfl (X.d hd) rfl q)
theorem g_lcmp (X : St Z n0 p l e R s m args below meth c own nm bytes ml ret T locs cells slots h) {x y : Int64} (hd : decode bytes pc = .ok (.lcmp, 1)) (hp : pc + 1 = pc') (k : Go p e below K (T.setTop (mkF m pc' L (.int (lcmpW x y) :: S)))) : Go p e below K (T.setTop (mkF m pc L (.long y :: .long x :: S))) := by
  subst hp; exact k.of (fun _ q => XS.lcmp X.X.here X.hx rfl (X.d hd) rfl q)
theorem g_dup (X : St Z n0 p l e R s m args below meth c own nm bytes ml ret T locs cells slots h) {v : Value} (hd : decode bytes pc = .ok (.dup, 1)) (hp : pc + 1 = pc') (hc : v.category = 1) (k : Go p e below K (T.setTop (mkF m pc' L (v :: v :: S)))) : Go p e below K (T.setTop (mkF m pc L (v :: S))) := by
  subst hp; exact k.of (fun _ q => XS.dup X.X.here X.hx rfl (X.d hd) rfl hc q)
theorem g_pop (X : St Z n0 p l e R s m args below meth c own nm bytes ml ret T locs cells slots h) {v : Value} (hd : decode bytes pc = .ok (.pop, 1)) (hp : pc + 1 = pc') (hc : v.category = 1) (k : Go p e below K (T.setTop (mkF m pc' L S))) : Go p e below K (T.setTop (mkF m pc L (v :: S))) := by
  subst hp; exact k.of (fun _ q => XS.pop X.X.here X.hx rfl (X.d hd) rfl hc q)
theorem g_dup_x1 (X : St Z n0 p l e R s m args below meth c own nm bytes ml ret T locs cells slots h) {v w : Value} (hd : decode bytes pc = .ok (.dup_x1, 1)) (hp : pc + 1 = pc') (hc : v.category = 1) (hc2 : w.category = 1) (k : Go p e below K (T.setTop (mkF m pc' L (v :: w :: v :: S)))) : Go p e below K (T.setTop (mkF m pc L (v :: w :: S))) := by
  subst hp; exact k.of (fun _ q => XS.dupX1 X.X.here X.hx rfl (X.d hd) rfl hc hc2 q)
theorem g_dloadN (X : St Z n0 p l e R s m args below meth c own nm bytes ml ret T locs cells slots h) {k : Fin 4} {v : UInt64} (hd : decode bytes pc = .ok (.dload_n k, 1)) (hp : pc + 1 = pc') (hl : L[k.val]? = some (.val (.double v))) (k : Go p e below K (T.setTop (mkF m pc' L (.double v :: S)))) : Go p e below K (T.setTop (mkF m pc L S)) := by
  subst hp; exact k.of (fun _ q => XS.dloadN X.X.here X.hx rfl (X.d hd) hl q)
theorem g_dload (X : St Z n0 p l e R s m args below meth c own nm bytes ml ret T locs cells slots h) {k : Nat} {v : UInt64} (hd : decode bytes pc = .ok (.dload k, 2)) (hp : pc + 2 = pc') (hl : L[k]? = some (.val (.double v))) (k : Go p e below K (T.setTop (mkF m pc' L (.double v :: S)))) : Go p e below K (T.setTop (mkF m pc L S)) := by
  subst hp; exact k.of (fun _ q => XS.dload X.X.here X.hx rfl (X.d hd) hl q)
theorem g_dstoreN (X : St Z n0 p l e R s m args below meth c own nm bytes ml ret T locs cells slots h) {k : Fin 4} {v : UInt64} (hd : decode bytes pc = .ok (.dstore_n k, 1)) (hp : pc + 1 = pc') (hl : storeLocals L k.val (.double v) = some L') (k : Go p e below K (T.setTop (mkF m pc' L' S))) : Go p e below K (T.setTop (mkF m pc L (.double v :: S))) := by
  subst hp; exact k.of (fun _ q => XS.dstoreN X.X.here X.hx rfl (X.d hd) rfl hl q)
theorem g_dstore (X : St Z n0 p l e R s m args below meth c own nm bytes ml ret T locs cells slots h) {k : Nat} {v : UInt64} (hd : decode bytes pc = .ok (.dstore k, 2)) (hp : pc + 2 = pc') (hl : storeLocals L k (.double v) = some L') (k : Go p e below K (T.setTop (mkF m pc' L' S))) : Go p e below K (T.setTop (mkF m pc L (.double v :: S))) := by
  subst hp; exact k.of (fun _ q => XS.dstore X.X.here X.hx rfl (X.d hd) rfl hl q)
theorem g_dconst0 (X : St Z n0 p l e R s m args below meth c own nm bytes ml ret T locs cells slots h) (hd : decode bytes pc = .ok (.dconst 0, 1)) (hp : pc + 1 = pc') (k : Go p e below K (T.setTop (mkF m pc' L (.double FP.dconst0 :: S)))) : Go p e below K (T.setTop (mkF m pc L S)) := by
  subst hp; exact k.of (fun _ q => XS.dconst0 X.X.here X.hx rfl (X.d hd) rfl q)
theorem g_dconst1 (X : St Z n0 p l e R s m args below meth c own nm bytes ml ret T locs cells slots h) (hd : decode bytes pc = .ok (.dconst 1, 1)) (hp : pc + 1 = pc') (k : Go p e below K (T.setTop (mkF m pc' L (.double FP.dconst1 :: S)))) : Go p e below K (T.setTop (mkF m pc L S)) := by
  subst hp; exact k.of (fun _ q => XS.dconst1 X.X.here X.hx rfl (X.d hd) rfl q)
theorem g_i2d (X : St Z n0 p l e R s m args below meth c own nm bytes ml ret T locs cells slots h) {v : Int32} (hd : decode bytes pc = .ok (.i2d, 1)) (hp : pc + 1 = pc') (k : Go p e below K (T.setTop (mkF m pc' L (.double (FP.i2d v) :: S)))) : Go p e below K (T.setTop (mkF m pc L (.int v :: S))) := by
  subst hp; exact k.of (fun _ q => XS.i2dS X.X.here X.hx rfl (X.d hd) rfl rfl q)
theorem g_ddiv (X : St Z n0 p l e R s m args below meth c own nm bytes ml ret T locs cells slots h) {x y : UInt64} (hd : decode bytes pc = .ok (.ddiv, 1)) (hp : pc + 1 = pc') (hn : Jvm.Free.Fl.NoNaN64 (FP.ddiv x y)) (k : Go p e below K (T.setTop (mkF m pc' L (.double (FP.ddiv x y) :: S)))) : Go p e below K (T.setTop (mkF m pc L (.double y :: .double x :: S))) := by
  subst hp; exact k.of (fun _ q => XS.ddivS X.X.here X.hx rfl (X.d hd) rfl hn rfl q)
theorem g_dadd (X : St Z n0 p l e R s m args below meth c own nm bytes ml ret T locs cells slots h) {x y : UInt64} (hd : decode bytes pc = .ok (.dadd, 1)) (hp : pc + 1 = pc') (hn : Jvm.Free.Fl.NoNaN64 (FP.dadd x y)) (k : Go p e below K (T.setTop (mkF m pc' L (.double (FP.dadd x y) :: S)))) : Go p e below K (T.setTop (mkF m pc L (.double y :: .double x :: S))) := by
  subst hp; exact k.of (fun _ q => XS.daddS X.X.here X.hx rfl (X.d hd) rfl hn rfl q)
theorem g_dsub (X : St Z n0 p l e R s m args below meth c own nm bytes ml ret T locs cells slots h) {x y : UInt64} (hd : decode bytes pc = .ok (.dsub, 1)) (hp : pc + 1 = pc') (hn : Jvm.Free.Fl.NoNaN64 (FP.dsub x y)) (k : Go p e below K (T.setTop (mkF m pc' L (.double (FP.dsub x y) :: S)))) : Go p e below K (T.setTop (mkF m pc L (.double y :: .double x :: S))) := by
  subst hp; exact k.of (fun _ q => XS.dsubS X.X.here X.hx rfl (X.d hd) rfl hn rfl q)
theorem g_dmul (X : St Z n0 p l e R s m args below meth c own nm bytes ml ret T locs cells slots h) {x y : UInt64} (hd : decode bytes pc = .ok (.dmul, 1)) (hp : pc + 1 = pc') (hn : Jvm.Free.Fl.NoNaN64 (FP.dmul x y)) (k : Go p e below K (T.setTop (mkF m pc' L (.double (FP.dmul x y) :: S)))) : Go p e below K (T.setTop (mkF m pc L (.double y :: .double x :: S))) := by
  subst hp; exact k.of (fun _ q => XS.dmulS X.X.here X.hx rfl (X.d hd) rfl hn rfl q)
theorem g_dcmp (X : St Z n0 p l e R s m args below meth c own nm bytes ml ret T locs cells slots h) {x y : UInt64} {o : CmpOp} (hd : decode bytes pc = .ok (.dcmp o, 1)) (hp : pc + 1 = pc') (k : Go p e below K (T.setTop (mkF m pc' L (.int (cmpValue (FP.dcmp x y) o) :: S)))) : Go p e below K (T.setTop (mkF m pc L (.double y :: .double x :: S))) := by
  subst hp; exact k.of (fun _ q => XS.dcmpS X.X.here X.hx rfl (X.d hd) rfl rfl q)
theorem g_dneg (X : St Z n0 p l e R s m args below meth c own nm bytes ml ret T locs cells slots h) {x : UInt64} (hd : decode bytes pc = .ok (.dneg, 1)) (hp : pc + 1 = pc') (k : Go p e below K (T.setTop (mkF m pc' L (.double (FP.dneg x) :: S)))) : Go p e below K (T.setTop (mkF m pc L (.double x :: S))) := by
  subst hp; exact k.of (fun _ q => XS.dnegS X.X.here X.hx rfl (X.d hd) rfl rfl q)
theorem g_ldc2D (X : St Z n0 p l e R s m args below meth c own nm bytes ml ret T locs cells slots h) {i : Nat} {v : UInt64} (w : (Jvm.Cond.constantDouble own i v).before a0 Z = true) (hd : decode bytes pc = .ok (.ldc2_w i, 3)) (hp : pc + 3 = pc') (k : Go p e below K (T.setTop (mkF m pc' L (.double v :: S)))) : Go p e below K (T.setTop (mkF m pc L S)) := by
  subst hp; exact k.of (X.X.ldc2DoubleC X.hx X.own_ (mvT X.hZ w) (g := mkF m pc L S) rfl (X.d hd))
theorem g_goto (X : St Z n0 p l e R s m args below meth c own nm bytes ml ret T locs cells slots h) {o : Int} (hd : decode bytes pc = .ok (.goto o, 3)) (ho : (pc : Int) + o = (pt : Int)) (k : Go p e below K (T.setTop (mkF m pt L S))) : Go p e below K (T.setTop (mkF m pc L S)) :=
  k.of (fun _ q => XS.goto X.X.here X.hx rfl rfl (X.d hd) (ho ▸ Int.natCast_nonneg _) (by rw [ho]; rfl) q)
theorem g_icmp_eq_t (X : St Z n0 p l e R s m args below meth c own nm bytes ml ret T locs cells slots h) {x y : Int32} {o : Int} (hd : decode bytes pc = .ok (.if_icmp .eq o, 3)) (ho : (pc : Int) + o = (pt : Int)) (hc : x = y) (k : Go p e below K (T.setTop (mkF m pt L S))) : Go p e below K (T.setTop (mkF m pc L (.int y :: .int x :: S))) :=
  k.of (fun _ q => XS.icmpYes X.X.here X.hx rfl rfl (X.d hd) rfl ((teq hc).1) (ho ▸ Int.natCast_nonneg _) (by rw [ho]; rfl) q)
theorem g_icmp_eq_f (X : St Z n0 p l e R s m args below meth c own nm bytes ml ret T locs cells slots h) {x y : Int32} {o : Int} (hd : decode bytes pc = .ok (.if_icmp .eq o, 3)) (hp : pc + 3 = pc') (hc : ¬ x = y) (k : Go p e below K (T.setTop (mkF m pc' L S))) : Go p e below K (T.setTop (mkF m pc L (.int y :: .int x :: S))) := by
  subst hp; exact k.of (fun _ q => XS.icmpNo X.X.here X.hx rfl (X.d hd) rfl ((feq hc).1) q)
theorem g_icmp_eq (X : St Z n0 p l e R s m args below meth c own nm bytes ml ret T locs cells slots h) {x y : Int32} {o : Int} (hd : decode bytes pc = .ok (.if_icmp .eq o, 3)) (ho : (pc : Int) + o = (pt : Int)) (hp : pc + 3 = pc') (yes : x = y → Go p e below K (T.setTop (mkF m pt L S))) (no : ¬ x = y → Go p e below K (T.setTop (mkF m pc' L S))) : Go p e below K (T.setTop (mkF m pc L (.int y :: .int x :: S))) := by
  by_cases hc : x = y
  · exact g_icmp_eq_t X hd ho hc (yes hc)
  · exact g_icmp_eq_f X hd hp hc (no hc)
theorem g_if_eq_t (X : St Z n0 p l e R s m args below meth c own nm bytes ml ret T locs cells slots h) {x : Int32} {o : Int} (hd : decode bytes pc = .ok (.ifCond .eq o, 3)) (ho : (pc : Int) + o = (pt : Int)) (hc : x = 0) (k : Go p e below K (T.setTop (mkF m pt L S))) : Go p e below K (T.setTop (mkF m pc L (.int x :: S))) :=
  k.of (fun _ q => XS.ifYes X.X.here X.hx rfl rfl (X.d hd) rfl ((if0 _ _).trans ((teq hc).1)) (ho ▸ Int.natCast_nonneg _) (by rw [ho]; rfl) q)
theorem g_if_eq_f (X : St Z n0 p l e R s m args below meth c own nm bytes ml ret T locs cells slots h) {x : Int32} {o : Int} (hd : decode bytes pc = .ok (.ifCond .eq o, 3)) (hp : pc + 3 = pc') (hc : ¬ x = 0) (k : Go p e below K (T.setTop (mkF m pc' L S))) : Go p e below K (T.setTop (mkF m pc L (.int x :: S))) := by
  subst hp; exact k.of (fun _ q => XS.ifNo X.X.here X.hx rfl (X.d hd) rfl ((if0 _ _).trans ((feq hc).1)) q)
theorem g_if_eq (X : St Z n0 p l e R s m args below meth c own nm bytes ml ret T locs cells slots h) {x : Int32} {o : Int} (hd : decode bytes pc = .ok (.ifCond .eq o, 3)) (ho : (pc : Int) + o = (pt : Int)) (hp : pc + 3 = pc') (yes : x = 0 → Go p e below K (T.setTop (mkF m pt L S))) (no : ¬ x = 0 → Go p e below K (T.setTop (mkF m pc' L S))) : Go p e below K (T.setTop (mkF m pc L (.int x :: S))) := by
  by_cases hc : x = 0
  · exact g_if_eq_t X hd ho hc (yes hc)
  · exact g_if_eq_f X hd hp hc (no hc)
theorem g_icmp_ne_t (X : St Z n0 p l e R s m args below meth c own nm bytes ml ret T locs cells slots h) {x y : Int32} {o : Int} (hd : decode bytes pc = .ok (.if_icmp .ne o, 3)) (ho : (pc : Int) + o = (pt : Int)) (hc : ¬ x = y) (k : Go p e below K (T.setTop (mkF m pt L S))) : Go p e below K (T.setTop (mkF m pc L (.int y :: .int x :: S))) :=
  k.of (fun _ q => XS.icmpYes X.X.here X.hx rfl rfl (X.d hd) rfl ((feq hc).2) (ho ▸ Int.natCast_nonneg _) (by rw [ho]; rfl) q)
theorem g_icmp_ne_f (X : St Z n0 p l e R s m args below meth c own nm bytes ml ret T locs cells slots h) {x y : Int32} {o : Int} (hd : decode bytes pc = .ok (.if_icmp .ne o, 3)) (hp : pc + 3 = pc') (hc : x = y) (k : Go p e below K (T.setTop (mkF m pc' L S))) : Go p e below K (T.setTop (mkF m pc L (.int y :: .int x :: S))) := by
  subst hp; exact k.of (fun _ q => XS.icmpNo X.X.here X.hx rfl (X.d hd) rfl ((teq hc).2) q)
theorem g_icmp_ne (X : St Z n0 p l e R s m args below meth c own nm bytes ml ret T locs cells slots h) {x y : Int32} {o : Int} (hd : decode bytes pc = .ok (.if_icmp .ne o, 3)) (ho : (pc : Int) + o = (pt : Int)) (hp : pc + 3 = pc') (yes : ¬ x = y → Go p e below K (T.setTop (mkF m pt L S))) (no : x = y → Go p e below K (T.setTop (mkF m pc' L S))) : Go p e below K (T.setTop (mkF m pc L (.int y :: .int x :: S))) := by
  by_cases hc : x = y
  · exact g_icmp_ne_f X hd hp hc (no hc)
  · exact g_icmp_ne_t X hd ho hc (yes hc)
theorem g_if_ne_t (X : St Z n0 p l e R s m args below meth c own nm bytes ml ret T locs cells slots h) {x : Int32} {o : Int} (hd : decode bytes pc = .ok (.ifCond .ne o, 3)) (ho : (pc : Int) + o = (pt : Int)) (hc : ¬ x = 0) (k : Go p e below K (T.setTop (mkF m pt L S))) : Go p e below K (T.setTop (mkF m pc L (.int x :: S))) :=
  k.of (fun _ q => XS.ifYes X.X.here X.hx rfl rfl (X.d hd) rfl ((if0 _ _).trans ((feq hc).2)) (ho ▸ Int.natCast_nonneg _) (by rw [ho]; rfl) q)
theorem g_if_ne_f (X : St Z n0 p l e R s m args below meth c own nm bytes ml ret T locs cells slots h) {x : Int32} {o : Int} (hd : decode bytes pc = .ok (.ifCond .ne o, 3)) (hp : pc + 3 = pc') (hc : x = 0) (k : Go p e below K (T.setTop (mkF m pc' L S))) : Go p e below K (T.setTop (mkF m pc L (.int x :: S))) := by
  subst hp; exact k.of (fun _ q => XS.ifNo X.X.here X.hx rfl (X.d hd) rfl ((if0 _ _).trans ((teq hc).2)) q)
theorem g_if_ne (X : St Z n0 p l e R s m args below meth c own nm bytes ml ret T locs cells slots h) {x : Int32} {o : Int} (hd : decode bytes pc = .ok (.ifCond .ne o, 3)) (ho : (pc : Int) + o = (pt : Int)) (hp : pc + 3 = pc') (yes : ¬ x = 0 → Go p e below K (T.setTop (mkF m pt L S))) (no : x = 0 → Go p e below K (T.setTop (mkF m pc' L S))) : Go p e below K (T.setTop (mkF m pc L (.int x :: S))) := by
  by_cases hc : x = 0
  · exact g_if_ne_f X hd hp hc (no hc)
  · exact g_if_ne_t X hd ho hc (yes hc)
theorem g_icmp_lt_t (X : St Z n0 p l e R s m args below meth c own nm bytes ml ret T locs cells slots h) {x y : Int32} {o : Int} (hd : decode bytes pc = .ok (.if_icmp .lt o, 3)) (ho : (pc : Int) + o = (pt : Int)) (hc : x < y) (k : Go p e below K (T.setTop (mkF m pt L S))) : Go p e below K (T.setTop (mkF m pc L (.int y :: .int x :: S))) :=
  k.of (fun _ q => XS.icmpYes X.X.here X.hx rfl rfl (X.d hd) rfl ((tlt hc).1) (ho ▸ Int.natCast_nonneg _) (by rw [ho]; rfl) q)
theorem g_icmp_lt_f (X : St Z n0 p l e R s m args below meth c own nm bytes ml ret T locs cells slots h) {x y : Int32} {o : Int} (hd : decode bytes pc = .ok (.if_icmp .lt o, 3)) (hp : pc + 3 = pc') (hc : ¬ x < y) (k : Go p e below K (T.setTop (mkF m pc' L S))) : Go p e below K (T.setTop (mkF m pc L (.int y :: .int x :: S))) := by
  subst hp; exact k.of (fun _ q => XS.icmpNo X.X.here X.hx rfl (X.d hd) rfl ((flt hc).1) q)
theorem g_icmp_lt (X : St Z n0 p l e R s m args below meth c own nm bytes ml ret T locs cells slots h) {x y : Int32} {o : Int} (hd : decode bytes pc = .ok (.if_icmp .lt o, 3)) (ho : (pc : Int) + o = (pt : Int)) (hp : pc + 3 = pc') (yes : x < y → Go p e below K (T.setTop (mkF m pt L S))) (no : ¬ x < y → Go p e below K (T.setTop (mkF m pc' L S))) : Go p e below K (T.setTop (mkF m pc L (.int y :: .int x :: S))) := by
  by_cases hc : x < y
  · exact g_icmp_lt_t X hd ho hc (yes hc)
  · exact g_icmp_lt_f X hd hp hc (no hc)
theorem g_if_lt_t (X : St Z n0 p l e R s m args below meth c own nm bytes ml ret T locs cells slots h) {x : Int32} {o : Int} (hd : decode bytes pc = .ok (.ifCond .lt o, 3)) (ho : (pc : Int) + o = (pt : Int)) (hc : x < 0) (k : Go p e below K (T.setTop (mkF m pt L S))) : Go p e below K (T.setTop (mkF m pc L (.int x :: S))) :=
  k.of (fun _ q => XS.ifYes X.X.here X.hx rfl rfl (X.d hd) rfl ((if0 _ _).trans ((tlt hc).1)) (ho ▸ Int.natCast_nonneg _) (by rw [ho]; rfl) q)
theorem g_if_lt_f (X : St Z n0 p l e R s m args below meth c own nm bytes ml ret T locs cells slots h) {x : Int32} {o : Int} (hd : decode bytes pc = .ok (.ifCond .lt o, 3)) (hp : pc + 3 = pc') (hc : ¬ x < 0) (k : Go p e below K (T.setTop (mkF m pc' L S))) : Go p e below K (T.setTop (mkF m pc L (.int x :: S))) := by
  subst hp; exact k.of (fun _ q => XS.ifNo X.X.here X.hx rfl (X.d hd) rfl ((if0 _ _).trans ((flt hc).1)) q)
theorem g_if_lt (X : St Z n0 p l e R s m args below meth c own nm bytes ml ret T locs cells slots h) {x : Int32} {o : Int} (hd : decode bytes pc = .ok (.ifCond .lt o, 3)) (ho : (pc : Int) + o = (pt : Int)) (hp : pc + 3 = pc') (yes : x < 0 → Go p e below K (T.setTop (mkF m pt L S))) (no : ¬ x < 0 → Go p e below K (T.setTop (mkF m pc' L S))) : Go p e below K (T.setTop (mkF m pc L (.int x :: S))) := by
  by_cases hc : x < 0
  · exact g_if_lt_t X hd ho hc (yes hc)
  · exact g_if_lt_f X hd hp hc (no hc)
theorem g_icmp_ge_t (X : St Z n0 p l e R s m args below meth c own nm bytes ml ret T locs cells slots h) {x y : Int32} {o : Int} (hd : decode bytes pc = .ok (.if_icmp .ge o, 3)) (ho : (pc : Int) + o = (pt : Int)) (hc : ¬ x < y) (k : Go p e below K (T.setTop (mkF m pt L S))) : Go p e below K (T.setTop (mkF m pc L (.int y :: .int x :: S))) :=
  k.of (fun _ q => XS.icmpYes X.X.here X.hx rfl rfl (X.d hd) rfl ((flt hc).2.1) (ho ▸ Int.natCast_nonneg _) (by rw [ho]; rfl) q)
theorem g_icmp_ge_f (X : St Z n0 p l e R s m args below meth c own nm bytes ml ret T locs cells slots h) {x y : Int32} {o : Int} (hd : decode bytes pc = .ok (.if_icmp .ge o, 3)) (hp : pc + 3 = pc') (hc : x < y) (k : Go p e below K (T.setTop (mkF m pc' L S))) : Go p e below K (T.setTop (mkF m pc L (.int y :: .int x :: S))) := by
  subst hp; exact k.of (fun _ q => XS.icmpNo X.X.here X.hx rfl (X.d hd) rfl ((tlt hc).2.1) q)
theorem g_icmp_ge (X : St Z n0 p l e R s m args below meth c own nm bytes ml ret T locs cells slots h) {x y : Int32} {o : Int} (hd : decode bytes pc = .ok (.if_icmp .ge o, 3)) (ho : (pc : Int) + o = (pt : Int)) (hp : pc + 3 = pc') (yes : ¬ x < y → Go p e below K (T.setTop (mkF m pt L S))) (no : x < y → Go p e below K (T.setTop (mkF m pc' L S))) : Go p e below K (T.setTop (mkF m pc L (.int y :: .int x :: S))) := by
  by_cases hc : x < y
  · exact g_icmp_ge_f X hd hp hc (no hc)
  · exact g_icmp_ge_t X hd ho hc (yes hc)
theorem g_if_ge_t (X : St Z n0 p l e R s m args below meth c own nm bytes ml ret T locs cells slots h) {x : Int32} {o : Int} (hd : decode bytes pc = .ok (.ifCond .ge o, 3)) (ho : (pc : Int) + o = (pt : Int)) (hc : ¬ x < 0) (k : Go p e below K (T.setTop (mkF m pt L S))) : Go p e below K (T.setTop (mkF m pc L (.int x :: S))) :=
  k.of (fun _ q => XS.ifYes X.X.here X.hx rfl rfl (X.d hd) rfl ((if0 _ _).trans ((flt hc).2.1)) (ho ▸ Int.natCast_nonneg _) (by rw [ho]; rfl) q)
theorem g_if_ge_f (X : St Z n0 p l e R s m args below meth c own nm bytes ml ret T locs cells slots h) {x : Int32} {o : Int} (hd : decode bytes pc = .ok (.ifCond .ge o, 3)) (hp : pc + 3 = pc') (hc : x < 0) (k : Go p e below K (T.setTop (mkF m pc' L S))) : Go p e below K (T.setTop (mkF m pc L (.int x :: S))) := by
  subst hp; exact k.of (fun _ q => XS.ifNo X.X.here X.hx rfl (X.d hd) rfl ((if0 _ _).trans ((tlt hc).2.1)) q)
theorem g_if_ge (X : St Z n0 p l e R s m args below meth c own nm bytes ml ret T locs cells slots h) {x : Int32} {o : Int} (hd : decode bytes pc = .ok (.ifCond .ge o, 3)) (ho : (pc : Int) + o = (pt : Int)) (hp : pc + 3 = pc') (yes : ¬ x < 0 → Go p e below K (T.setTop (mkF m pt L S))) (no : x < 0 → Go p e below K (T.setTop (mkF m pc' L S))) : Go p e below K (T.setTop (mkF m pc L (.int x :: S))) := by
  by_cases hc : x < 0
  · exact g_if_ge_f X hd hp hc (no hc)
  · exact g_if_ge_t X hd ho hc (yes hc)
theorem g_icmp_gt_t (X : St Z n0 p l e R s m args below meth c own nm bytes ml ret T locs cells slots h) {x y : Int32} {o : Int} (hd : decode bytes pc = .ok (.if_icmp .gt o, 3)) (ho : (pc : Int) + o = (pt : Int)) (hc : y < x) (k : Go p e below K (T.setTop (mkF m pt L S))) : Go p e below K (T.setTop (mkF m pc L (.int y :: .int x :: S))) :=
  k.of (fun _ q => XS.icmpYes X.X.here X.hx rfl rfl (X.d hd) rfl ((tlt hc).2.2.1) (ho ▸ Int.natCast_nonneg _) (by rw [ho]; rfl) q)
theorem g_icmp_gt_f (X : St Z n0 p l e R s m args below meth c own nm bytes ml ret T locs cells slots h) {x y : Int32} {o : Int} (hd : decode bytes pc = .ok (.if_icmp .gt o, 3)) (hp : pc + 3 = pc') (hc : ¬ y < x) (k : Go p e below K (T.setTop (mkF m pc' L S))) : Go p e below K (T.setTop (mkF m pc L (.int y :: .int x :: S))) := by
  subst hp; exact k.of (fun _ q => XS.icmpNo X.X.here X.hx rfl (X.d hd) rfl ((flt hc).2.2.1) q)
theorem g_icmp_gt (X : St Z n0 p l e R s m args below meth c own nm bytes ml ret T locs cells slots h) {x y : Int32} {o : Int} (hd : decode bytes pc = .ok (.if_icmp .gt o, 3)) (ho : (pc : Int) + o = (pt : Int)) (hp : pc + 3 = pc') (yes : y < x → Go p e below K (T.setTop (mkF m pt L S))) (no : ¬ y < x → Go p e below K (T.setTop (mkF m pc' L S))) : Go p e below K (T.setTop (mkF m pc L (.int y :: .int x :: S))) := by
  by_cases hc : y < x
  · exact g_icmp_gt_t X hd ho hc (yes hc)
  · exact g_icmp_gt_f X hd hp hc (no hc)
theorem g_if_gt_t (X : St Z n0 p l e R s m args below meth c own nm bytes ml ret T locs cells slots h) {x : Int32} {o : Int} (hd : decode bytes pc = .ok (.ifCond .gt o, 3)) (ho : (pc : Int) + o = (pt : Int)) (hc : 0 < x) (k : Go p e below K (T.setTop (mkF m pt L S))) : Go p e below K (T.setTop (mkF m pc L (.int x :: S))) :=
  k.of (fun _ q => XS.ifYes X.X.here X.hx rfl rfl (X.d hd) rfl ((if0 _ _).trans ((tlt hc).2.2.1)) (ho ▸ Int.natCast_nonneg _) (by rw [ho]; rfl) q)
theorem g_if_gt_f (X : St Z n0 p l e R s m args below meth c own nm bytes ml ret T locs cells slots h) {x : Int32} {o : Int} (hd : decode bytes pc = .ok (.ifCond .gt o, 3)) (hp : pc + 3 = pc') (hc : ¬ 0 < x) (k : Go p e below K (T.setTop (mkF m pc' L S))) : Go p e below K (T.setTop (mkF m pc L (.int x :: S))) := by
  subst hp; exact k.of (fun _ q => XS.ifNo X.X.here X.hx rfl (X.d hd) rfl ((if0 _ _).trans ((flt hc).2.2.1)) q)
theorem g_if_gt (X : St Z n0 p l e R s m args below meth c own nm bytes ml ret T locs cells slots h) {x : Int32} {o : Int} (hd : decode bytes pc = .ok (.ifCond .gt o, 3)) (ho : (pc : Int) + o = (pt : Int)) (hp : pc + 3 = pc') (yes : 0 < x → Go p e below K (T.setTop (mkF m pt L S))) (no : ¬ 0 < x → Go p e below K (T.setTop (mkF m pc' L S))) : Go p e below K (T.setTop (mkF m pc L (.int x :: S))) := by
  by_cases hc : 0 < x
  · exact g_if_gt_t X hd ho hc (yes hc)
  · exact g_if_gt_f X hd hp hc (no hc)
theorem g_icmp_le_t (X : St Z n0 p l e R s m args below meth c own nm bytes ml ret T locs cells slots h) {x y : Int32} {o : Int} (hd : decode bytes pc = .ok (.if_icmp .le o, 3)) (ho : (pc : Int) + o = (pt : Int)) (hc : ¬ y < x) (k : Go p e below K (T.setTop (mkF m pt L S))) : Go p e below K (T.setTop (mkF m pc L (.int y :: .int x :: S))) :=
  k.of (fun _ q => XS.icmpYes X.X.here X.hx rfl rfl (X.d hd) rfl ((flt hc).2.2.2) (ho ▸ Int.natCast_nonneg _) (by rw [ho]; rfl) q)
theorem g_icmp_le_f (X : St Z n0 p l e R s m args below meth c own nm bytes ml ret T locs cells slots h) {x y : Int32} {o : Int} (hd : decode bytes pc = .ok (.if_icmp .le o, 3)) (hp : pc + 3 = pc') (hc : y < x) (k : Go p e below K (T.setTop (mkF m pc' L S))) : Go p e below K (T.setTop (mkF m pc L (.int y :: .int x :: S))) := by
  subst hp; exact k.of (fun _ q => XS.icmpNo X.X.here X.hx rfl (X.d hd) rfl ((tlt hc).2.2.2) q)
theorem g_icmp_le (X : St Z n0 p l e R s m args below meth c own nm bytes ml ret T locs cells slots h) {x y : Int32} {o : Int} (hd : decode bytes pc = .ok (.if_icmp .le o, 3)) (ho : (pc : Int) + o = (pt : Int)) (hp : pc + 3 = pc') (yes : ¬ y < x → Go p e below K (T.setTop (mkF m pt L S))) (no : y < x → Go p e below K (T.setTop (mkF m pc' L S))) : Go p e below K (T.setTop (mkF m pc L (.int y :: .int x :: S))) := by
  by_cases hc : y < x
  · exact g_icmp_le_f X hd hp hc (no hc)
  · exact g_icmp_le_t X hd ho hc (yes hc)
theorem g_if_le_t (X : St Z n0 p l e R s m args below meth c own nm bytes ml ret T locs cells slots h) {x : Int32} {o : Int} (hd : decode bytes pc = .ok (.ifCond .le o, 3)) (ho : (pc : Int) + o = (pt : Int)) (hc : ¬ 0 < x) (k : Go p e below K (T.setTop (mkF m pt L S))) : Go p e below K (T.setTop (mkF m pc L (.int x :: S))) :=
  k.of (fun _ q => XS.ifYes X.X.here X.hx rfl rfl (X.d hd) rfl ((if0 _ _).trans ((flt hc).2.2.2)) (ho ▸ Int.natCast_nonneg _) (by rw [ho]; rfl) q)
theorem g_if_le_f (X : St Z n0 p l e R s m args below meth c own nm bytes ml ret T locs cells slots h) {x : Int32} {o : Int} (hd : decode bytes pc = .ok (.ifCond .le o, 3)) (hp : pc + 3 = pc') (hc : 0 < x) (k : Go p e below K (T.setTop (mkF m pc' L S))) : Go p e below K (T.setTop (mkF m pc L (.int x :: S))) := by
  subst hp; exact k.of (fun _ q => XS.ifNo X.X.here X.hx rfl (X.d hd) rfl ((if0 _ _).trans ((tlt hc).2.2.2)) q)
theorem g_if_le (X : St Z n0 p l e R s m args below meth c own nm bytes ml ret T locs cells slots h) {x : Int32} {o : Int} (hd : decode bytes pc = .ok (.ifCond .le o, 3)) (ho : (pc : Int) + o = (pt : Int)) (hp : pc + 3 = pc') (yes : ¬ 0 < x → Go p e below K (T.setTop (mkF m pt L S))) (no : 0 < x → Go p e below K (T.setTop (mkF m pc' L S))) : Go p e below K (T.setTop (mkF m pc L (.int x :: S))) := by
  by_cases hc : 0 < x
  · exact g_if_le_f X hd hp hc (no hc)
  · exact g_if_le_t X hd ho hc (yes hc)
theorem g_lcmp_eq (X : St Z n0 p l e R s m args below meth c own nm bytes ml ret T locs cells slots h) {x y : Int64} {o : Int} (hd : decode bytes pc = .ok (.lcmp, 1)) (hd' : decode bytes (pc + 1) = .ok (.ifCond .eq o, 3)) (ho : ((pc + 1 : Nat) : Int) + o = (pt : Int)) (hp : pc + 1 + 3 = pc') (yes : x = y → Go p e below K (T.setTop (mkF m pt L S))) (no : ¬ x = y → Go p e below K (T.setTop (mkF m pc' L S))) : Go p e below K (T.setTop (mkF m pc L (.long y :: .long x :: S))) := by
  refine g_lcmp X hd rfl ?_
  refine g_if_eq X hd' ho hp (fun q => yes ?_) (fun q => no ?_)
  · rwa [lw_eq] at q
  · rwa [lw_eq] at q
theorem g_lcmp_ne (X : St Z n0 p l e R s m args below meth c own nm bytes ml ret T locs cells slots h) {x y : Int64} {o : Int} (hd : decode bytes pc = .ok (.lcmp, 1)) (hd' : decode bytes (pc + 1) = .ok (.ifCond .ne o, 3)) (ho : ((pc + 1 : Nat) : Int) + o = (pt : Int)) (hp : pc + 1 + 3 = pc') (yes : ¬ x = y → Go p e below K (T.setTop (mkF m pt L S))) (no : x = y → Go p e below K (T.setTop (mkF m pc' L S))) : Go p e below K (T.setTop (mkF m pc L (.long y :: .long x :: S))) := by
  refine g_lcmp X hd rfl ?_
  refine g_if_ne X hd' ho hp (fun q => yes ?_) (fun q => no ?_)
  · rwa [lw_eq] at q
  · rwa [lw_eq] at q
theorem g_lcmp_lt (X : St Z n0 p l e R s m args below meth c own nm bytes ml ret T locs cells slots h) {x y : Int64} {o : Int} (hd : decode bytes pc = .ok (.lcmp, 1)) (hd' : decode bytes (pc + 1) = .ok (.ifCond .lt o, 3)) (ho : ((pc + 1 : Nat) : Int) + o = (pt : Int)) (hp : pc + 1 + 3 = pc') (yes : x < y → Go p e below K (T.setTop (mkF m pt L S))) (no : ¬ x < y → Go p e below K (T.setTop (mkF m pc' L S))) : Go p e below K (T.setTop (mkF m pc L (.long y :: .long x :: S))) := by
  refine g_lcmp X hd rfl ?_
  refine g_if_lt X hd' ho hp (fun q => yes ?_) (fun q => no ?_)
  · rwa [lw_lt] at q
  · rwa [lw_lt] at q
theorem g_lcmp_ge (X : St Z n0 p l e R s m args below meth c own nm bytes ml ret T locs cells slots h) {x y : Int64} {o : Int} (hd : decode bytes pc = .ok (.lcmp, 1)) (hd' : decode bytes (pc + 1) = .ok (.ifCond .ge o, 3)) (ho : ((pc + 1 : Nat) : Int) + o = (pt : Int)) (hp : pc + 1 + 3 = pc') (yes : ¬ x < y → Go p e below K (T.setTop (mkF m pt L S))) (no : x < y → Go p e below K (T.setTop (mkF m pc' L S))) : Go p e below K (T.setTop (mkF m pc L (.long y :: .long x :: S))) := by
  refine g_lcmp X hd rfl ?_
  refine g_if_ge X hd' ho hp (fun q => yes ?_) (fun q => no ?_)
  · rwa [lw_lt] at q
  · rwa [lw_lt] at q
theorem g_lcmp_gt (X : St Z n0 p l e R s m args below meth c own nm bytes ml ret T locs cells slots h) {x y : Int64} {o : Int} (hd : decode bytes pc = .ok (.lcmp, 1)) (hd' : decode bytes (pc + 1) = .ok (.ifCond .gt o, 3)) (ho : ((pc + 1 : Nat) : Int) + o = (pt : Int)) (hp : pc + 1 + 3 = pc') (yes : y < x → Go p e below K (T.setTop (mkF m pt L S))) (no : ¬ y < x → Go p e below K (T.setTop (mkF m pc' L S))) : Go p e below K (T.setTop (mkF m pc L (.long y :: .long x :: S))) := by
  refine g_lcmp X hd rfl ?_
  refine g_if_gt X hd' ho hp (fun q => yes ?_) (fun q => no ?_)
  · rwa [lw_gt] at q
  · rwa [lw_gt] at q
theorem g_lcmp_le (X : St Z n0 p l e R s m args below meth c own nm bytes ml ret T locs cells slots h) {x y : Int64} {o : Int} (hd : decode bytes pc = .ok (.lcmp, 1)) (hd' : decode bytes (pc + 1) = .ok (.ifCond .le o, 3)) (ho : ((pc + 1 : Nat) : Int) + o = (pt : Int)) (hp : pc + 1 + 3 = pc') (yes : ¬ y < x → Go p e below K (T.setTop (mkF m pt L S))) (no : y < x → Go p e below K (T.setTop (mkF m pc' L S))) : Go p e below K (T.setTop (mkF m pc L (.long y :: .long x :: S))) := by
  refine g_lcmp X hd rfl ?_
  refine g_if_le X hd' ho hp (fun q => yes ?_) (fun q => no ?_)
  · rwa [lw_gt] at q
  · rwa [lw_gt] at q
theorem g_ifnull_t (X : St Z n0 p l e R s m args below meth c own nm bytes ml ret T locs cells slots h) {o : Int} (hd : decode bytes pc = .ok (.ifnull o, 3)) (ho : (pc : Int) + o = (pt : Int)) (k : Go p e below K (T.setTop (mkF m pt L S))) : Go p e below K (T.setTop (mkF m pc L (.null :: S))) :=
  k.of (fun _ q => XS.ifnullYes X.X.here X.hx rfl rfl (X.d hd) rfl (ho ▸ Int.natCast_nonneg _) (by rw [ho]; rfl) q)
theorem g_ifnull_f (X : St Z n0 p l e R s m args below meth c own nm bytes ml ret T locs cells slots h) {o : Int} {a : Addr} (hd : decode bytes pc = .ok (.ifnull o, 3)) (hp : pc + 3 = pc') (k : Go p e below K (T.setTop (mkF m pc' L S))) : Go p e below K (T.setTop (mkF m pc L (.ref a :: S))) := by
  subst hp; exact k.of (fun _ q => XS.ifnullNo X.X.here X.hx rfl (X.d hd) rfl q)
theorem g_ifnonnull_t (X : St Z n0 p l e R s m args below meth c own nm bytes ml ret T locs cells slots h) {o : Int} {a : Addr} (hd : decode bytes pc = .ok (.ifnonnull o, 3)) (ho : (pc : Int) + o = (pt : Int)) (k : Go p e below K (T.setTop (mkF m pt L S))) : Go p e below K (T.setTop (mkF m pc L (.ref a :: S))) :=
  k.of (fun _ q => XS.ifnonnullYes X.X.here X.hx rfl rfl (X.d hd) rfl (ho ▸ Int.natCast_nonneg _) (by rw [ho]; rfl) q)
theorem g_ifnonnull_f (X : St Z n0 p l e R s m args below meth c own nm bytes ml ret T locs cells slots h) {o : Int} (hd : decode bytes pc = .ok (.ifnonnull o, 3)) (hp : pc + 3 = pc') (k : Go p e below K (T.setTop (mkF m pc' L S))) : Go p e below K (T.setTop (mkF m pc L (.null :: S))) := by
  subst hp; exact k.of (fun _ q => XS.ifnonnullNo X.X.here X.hx rfl (X.d hd) rfl q)
theorem g_acmp (X : St Z n0 p l e R s m args below meth c own nm bytes ml ret T locs cells slots h) {cd : ACond} {x y : Value} {o : Int} {same : Bool} (h1 : x.isRef = true) (h2 : y.isRef = true) (hd : decode bytes pc = .ok (.if_acmp cd o, 3)) (ho : (pc : Int) + o = (pt : Int)) (hq : decide (x = y) = same) (hp : pc' = if acV cd same = true then pt else pc + 3) (k : Go p e below K (T.setTop (mkF m pc' L S))) : Go p e below K (T.setTop (mkF m pc L (y :: x :: S))) :=
  k.of (fun _ q => Jvm.RoadKit.acmp X.X X.hx rfl h1 h2 rfl (X.d hd) rfl hq (ho ▸ Int.natCast_nonneg _) (by rw [hp, ho]; rfl) q)
theorem g_acmp_eq (X : St Z n0 p l e R s m args below meth c own nm bytes ml ret T locs cells slots h) {a b : Addr} {o : Int} (hd : decode bytes pc = .ok (.if_acmp .eq o, 3)) (ho : (pc : Int) + o = (pt : Int)) (hp : pc + 3 = pc') (yes : a = b → Go p e below K (T.setTop (mkF m pt L S))) (no : ¬ a = b → Go p e below K (T.setTop (mkF m pc' L S))) : Go p e below K (T.setTop (mkF m pc L (.ref b :: .ref a :: S))) := by
  subst hp
  by_cases hc : a = b
  · exact g_acmp X (same := true) rfl rfl hd ho (decide_eq_true (congrArg Value.ref hc)) rfl (yes hc)
  · exact g_acmp X (same := false) rfl rfl hd ho (decide_eq_false fun q => hc (Value.ref.inj q)) rfl (no hc)
theorem g_acmp_ne (X : St Z n0 p l e R s m args below meth c own nm bytes ml ret T locs cells slots h) {a b : Addr} {o : Int} (hd : decode bytes pc = .ok (.if_acmp .ne o, 3)) (ho : (pc : Int) + o = (pt : Int)) (hp : pc + 3 = pc') (yes : ¬ a = b → Go p e below K (T.setTop (mkF m pt L S))) (no : a = b → Go p e below K (T.setTop (mkF m pc' L S))) : Go p e below K (T.setTop (mkF m pc L (.ref b :: .ref a :: S))) := by
  subst hp
  by_cases hc : a = b
  · exact g_acmp X (same := true) rfl rfl hd ho (decide_eq_true (congrArg Value.ref hc)) rfl (no hc)
  · exact g_acmp X (same := false) rfl rfl hd ho (decide_eq_false fun q => hc (Value.ref.inj q)) rfl (yes hc)
theorem g_ldc (X : St Z n0 p l e R s m args below meth c own nm bytes ml ret T locs cells slots h) {i : Nat} {v : Int32} (w : (Jvm.Cond.constant own i v).before a0 Z = true) (hd : decode bytes pc = .ok (.ldc i, 2)) (hp : pc + 2 = pc') (k : Go p e below K (T.setTop (mkF m pc' L (.int v :: S)))) : Go p e below K (T.setTop (mkF m pc L S)) := by
  subst hp; exact k.of (X.X.ldcInt X.hx X.own_ (mvT X.hZ w) (g := mkF m pc L S) rfl (X.d hd))
theorem g_ldc2 (X : St Z n0 p l e R s m args below meth c own nm bytes ml ret T locs cells slots h) {i : Nat} {v : Int64} (w : (Jvm.Cond.constantLong own i v).before a0 Z = true) (hd : decode bytes pc = .ok (.ldc2_w i, 3)) (hp : pc + 3 = pc') (k : Go p e below K (T.setTop (mkF m pc' L (.long v :: S)))) : Go p e below K (T.setTop (mkF m pc L S)) := by
  subst hp; exact k.of (X.X.ldc2Long X.hx X.own_ (mvT X.hZ w) (g := mkF m pc L S) rfl (X.d hd))
theorem g_getF (X : St Z n0 p l e R s m args below meth c own nm bytes ml ret T locs cells slots h) {R0 O n d host : String} {i : Nat} {a : Addr} {v : Value} (w : (Jvm.Cond.fieldLink own i R0 n d).before a0 Z = true ∨ (Jvm.Cond.fieldLinkNest own i R0 n d host).before a0 Z = true) (via : Via Z R0 O n d) (F : Fld Z h a O n d v) (hd : decode bytes pc = .ok (.getfield i, 3)) (hp : pc + 3 = pc') (k : ∀ T', St Z n0 p l e R s m args below meth c own nm bytes ml ret T' locs cells slots h → Go p e below K (T'.setTop (mkF m pc' L (v :: S)))) : Go p e below K (T.setTop (mkF m pc L (.ref a :: S))) := by
  obtain ⟨T', X', e', st'⟩ := getF X.X X.hx X.hZ X.own_ w via X.eT F (g := mkF m pc L (.ref a :: S)) rfl rfl (X.d hd)
  subst hp; exact (k T' (X.to X' e' X.fr X.old)).of st'
theorem g_getS (X : St Z n0 p l e R s m args below meth c own nm bytes ml ret T locs cells slots h) {O n d : String} {i : Nat} {v : Value} (w : (Jvm.Cond.fieldLink own i O n d).before a0 Z = true) (F : Sta Z h O n d v) (hd : decode bytes pc = .ok (.getstatic i, 3)) (hp : pc + 3 = pc') (k : ∀ T', St Z n0 p l e R s m args below meth c own nm bytes ml ret T' locs cells slots h → Go p e below K (T'.setTop (mkF m pc' L (v :: S)))) : Go p e below K (T.setTop (mkF m pc L S)) := by
  obtain ⟨T', X', e', st'⟩ := getS X.X X.hx X.hZ (host := "") X.own_ w Via.refl X.eT F (g := mkF m pc L S) rfl (X.d hd)
  subst hp; exact (k T' (X.to X' e' X.fr X.old)).of st'
theorem g_putF (X : St Z n0 p l e R s m args below meth c own nm bytes ml ret T locs cells slots h) {R0 O n d host C : String} {i kk : Nat} {ty : FieldType} {a : Addr} {v old : Value} (w : (Jvm.Cond.fieldLink own i R0 n d).before a0 Z = true ∨ (Jvm.Cond.fieldLinkNest own i R0 n d host).before a0 Z = true) (via : Via Z R0 O n d) (F : Fld Z h a O n d old) (E : Exa Z h a C)
    (La : (Jvm.Cond.lays C O n d).before a0 Z = true ∨ ((Jvm.Cond.laysFinal C O n d).before a0 Z = true ∧ own = O ∧ nm = "<init>")) (wi : (Jvm.Cond.instantiable C kk).before a0 Z = true) (hty : parseFieldDescriptor d = some ty) (hn : narrow ty v = v) (hf : fits ty v = true) (ga : n0 ≤ a) (hd : decode bytes pc = .ok (.putfield i, 3)) (hp : pc + 3 = pc') (k : ∀ T' h', St Z n0 p l e R s m args below meth c own nm bytes ml ret T' (locs ++ [⟨a, Jvm.RoadKit.slotOf Z O n d⟩]) cells slots h' → Wr h h' a (Jvm.RoadKit.slotOf Z O n d) v → Go p e below K (T'.setTop (mkF m pc' L S))) : Go p e below K (T.setTop (mkF m pc L (v :: .ref a :: S))) := by
  obtain ⟨T', h', X', e', W, st'⟩ := putF X.X X.hx X.hZ X.own_ w via X.eT F E (La.imp id fun q => ⟨q.1, q.2.1, X.nm_.trans q.2.2⟩) wi hty hn hf (g := mkF m pc L (v :: .ref a :: S)) rfl rfl (X.d hd)
  subst hp; exact (k T' h' (X.to X' e' (Fr.snoc X' X.fr ga) (X.old.wr W ga)) W).of st'
theorem g_putFN (X : St Z n0 p l e R s m args below meth c own nm bytes ml ret T locs cells slots h) {R0 O n d C : String} {i kk : Nat} {ty : FieldType} {a : Addr} {v v' old : Value} (w : (Jvm.Cond.fieldLink own i R0 n d).before a0 Z = true) (via : Via Z R0 O n d) (F : Fld Z h a O n d old) (E : Exa Z h a C)
    (La : (Jvm.Cond.lays C O n d).before a0 Z = true ∨ ((Jvm.Cond.laysFinal C O n d).before a0 Z = true ∧ own = O ∧ nm = "<init>")) (wi : (Jvm.Cond.instantiable C kk).before a0 Z = true) (hty : parseFieldDescriptor d = some ty) (hn : narrow ty v = v') (hf : fits ty v' = true) (ga : n0 ≤ a) (hd : decode bytes pc = .ok (.putfield i, 3)) (hp : pc + 3 = pc') (k : ∀ T' h', St Z n0 p l e R s m args below meth c own nm bytes ml ret T' (locs ++ [⟨a, Jvm.RoadKit.slotOf Z O n d⟩]) cells slots h' → Wr h h' a (Jvm.RoadKit.slotOf Z O n d) v' → Go p e below K (T'.setTop (mkF m pc' L S))) : Go p e below K (T.setTop (mkF m pc L (v :: .ref a :: S))) := by
  obtain ⟨T', h', X', e', W, st'⟩ := putFN X.X X.hx X.hZ X.own_ w via X.eT F E (La.imp id fun q => ⟨q.1, q.2.1, X.nm_.trans q.2.2⟩) wi hty hn hf (g := mkF m pc L (v :: .ref a :: S)) rfl rfl (X.d hd)
  subst hp; exact (k T' h' (X.to X' e' (Fr.snoc X' X.fr ga) (X.old.wr W ga)) W).of st'
theorem g_new (X : St Z n0 p l e R s m args below meth c own nm bytes ml ret T locs cells slots h) {C : String} {i n : Nat} (w : (Jvm.Cond.classLink own i C).before a0 Z = true) (wi : (Jvm.Cond.instantiable C n).before a0 Z = true) (wz : (Jvm.Cond.initialized C).before a0 Z = true) (hd : decode bytes pc = .ok (.new i, 3)) (hp : pc + 3 = pc') (hc : cells + 1 ≤ R.cells) (hl : slots + n ≤ R.slots)
    (k : ∀ T' h' a, St Z n0 p l e R s m args below meth c own nm bytes ml ret T' locs (cells + 1) (slots + n) h' → a = h.size → Ext h h' → Exa Z h' a C → (∀ {O nm d : String} {ty : FieldType}, Laid Z a0 C O nm d → parseFieldDescriptor d = some ty → Fld Z h' a O nm d (defaultValue ty)) → n0 ≤ a → Go p e below K (T'.setTop (mkF m pc' L (.ref a :: S)))) : Go p e below K (T.setTop (mkF m pc L S)) := by
  obtain ⟨T', h', X', e', E, A, D, -, st'⟩ := newO X.X X.hx X.hZ X.own_ w wi wz X.eT (g := mkF m pc L S) rfl (X.d hd) hc hl
  subst hp; exact (k T' h' _ (X.to X' e' X.fr (X.old.ext E)) rfl E A D X.sz).of st'
theorem g_initO (X : St Z n0 p l e R s m args below meth c own nm bytes ml ret T locs cells slots h) {i : Nat} {a : Addr} (w1 : (Jvm.Cond.methodLink own i Lib.objectInit).before a0 Z = true) (w2 : (Jvm.Cond.instanceMethod Lib.objectInit).before a0 Z = true) (w3 : (Jvm.Cond.code Lib.objectInit ⟨#[0xb1]⟩ 1 none).before a0 Z = true) (hL : L.size = ml) (hd : decode bytes pc = .ok (.invokespecial i, 3)) (hp : pc + 3 = pc') (hf : 1 ≤ R.frames) {W : Nat} (hW : (S.map fun v => v.category).sum = W) (hl : W + 12 ≤ R.locals) (k : ∀ T', St Z n0 p l e R s m args below meth c own nm bytes ml ret T' locs cells slots h → Go p e below K (T'.setTop (mkF m pc' L S))) : Go p e below K (T.setTop (mkF m pc L (.ref a :: S))) := by
  obtain ⟨T', X', e', st'⟩ := initO X.X X.hx X.hZ X.own_ w1 w2 w3 X.eT (g := mkF m pc L (.ref a :: S)) rfl (by rw [X.ml_]; exact hL) rfl (X.d hd) hf (W := W) (by show 2 * 0 + _ ≤ _; rw [hW, Nat.mul_zero, Nat.zero_add]; exact Nat.le_refl _) hl
  subst hp; exact (k T' (X.to X' e' X.fr X.old)).of st'
theorem g_castNull (X : St Z n0 p l e R s m args below meth c own nm bytes ml ret T locs cells slots h) {i : Nat} (hd : decode bytes pc = .ok (.checkcast i, 3)) (hp : pc + 3 = pc') (k : Go p e below K (T.setTop (mkF m pc' L (.null :: S)))) : Go p e below K (T.setTop (mkF m pc L (.null :: S))) := by
  subst hp; exact k.of (fun _ q => X.X.checkcastNull X.hx (g := mkF m pc L (.null :: S)) rfl rfl (X.d hd) _ q)
theorem g_instNull (X : St Z n0 p l e R s m args below meth c own nm bytes ml ret T locs cells slots h) {i : Nat} (hd : decode bytes pc = .ok (.instanceof i, 3)) (hp : pc + 3 = pc') (k : Go p e below K (T.setTop (mkF m pc' L (.int 0 :: S)))) : Go p e below K (T.setTop (mkF m pc L (.null :: S))) := by
  subst hp; exact k.of (fun _ q => X.X.instanceofNull X.hx (g := mkF m pc L (.null :: S)) rfl rfl (X.d hd) _ q)
theorem g_cast (X : St Z n0 p l e R s m args below meth c own nm bytes ml ret T locs cells slots h) {k0 : String} {i : Nat} {a : Addr} (w : (Jvm.Cond.classLink own i k0).before a0 Z = true) (F : Ins Z h a k0 true) (hd : decode bytes pc = .ok (.checkcast i, 3)) (hp : pc + 3 = pc') (k : ∀ T', St Z n0 p l e R s m args below meth c own nm bytes ml ret T' locs cells slots h → Go p e below K (T'.setTop (mkF m pc' L (.ref a :: S)))) : Go p e below K (T.setTop (mkF m pc L (.ref a :: S))) := by
  obtain ⟨T', X', e', st'⟩ := castY X.X X.hx X.hZ X.own_ w X.eT F (g := mkF m pc L (.ref a :: S)) rfl rfl (X.d hd)
  subst hp; exact (k T' (X.to X' e' X.fr X.old)).of st'
theorem g_inst (X : St Z n0 p l e R s m args below meth c own nm bytes ml ret T locs cells slots h) {k0 : String} {i : Nat} {a : Addr} (w : (Jvm.Cond.classLink own i k0).before a0 Z = true) (F : Ins Z h a k0 true) (hd : decode bytes pc = .ok (.instanceof i, 3)) (hp : pc + 3 = pc') (k : ∀ T', St Z n0 p l e R s m args below meth c own nm bytes ml ret T' locs cells slots h → Go p e below K (T'.setTop (mkF m pc' L (.int 1 :: S)))) : Go p e below K (T.setTop (mkF m pc L (.ref a :: S))) := by
  obtain ⟨T', X', e', st'⟩ := instY X.X X.hx X.hZ X.own_ w X.eT F (g := mkF m pc L (.ref a :: S)) rfl rfl (X.d hd)
  subst hp; exact (k T' (X.to X' e' X.fr X.old)).of st'
theorem g_instN (X : St Z n0 p l e R s m args below meth c own nm bytes ml ret T locs cells slots h) {k0 c0 : String} {i : Nat} {a : Addr} (w : (Jvm.Cond.classLink own i k0).before a0 Z = true) (F : Ins Z s.heap a k0 false) (E : Exa Z s.heap a c0) (hd : decode bytes pc = .ok (.instanceof i, 3)) (hp : pc + 3 = pc') (k : ∀ T', St Z n0 p l e R s m args below meth c own nm bytes ml ret T' locs cells slots h → Go p e below K (T'.setTop (mkF m pc' L (.int 0 :: S)))) : Go p e below K (T.setTop (mkF m pc L (.ref a :: S))) := by
  obtain ⟨T', X', e', st'⟩ := instN X.X X.hx X.hZ X.own_ w X.eT F E (g := mkF m pc L (.ref a :: S)) rfl rfl (X.d hd)
  subst hp; exact (k T' (X.to X' e' X.fr X.old)).of st'
/-- an array, by the list of what it holds -/
def Arx (Z : State) (h : Heap) (a : Addr) (ty : FieldType) (vs : List Value) : Prop := ∃ c : Cell, Arr Z h a c ty ∧ c.slots.toList = vs ∧ vs.length < 2 ^ 31
theorem Arx.keep {h' : Heap} {ws : List Addr} {a : Addr} {ty : FieldType} {vs : List Value} (A : Arx Z h a ty vs) (K : Keep h h' ws) (q : a ∉ ws) : Arx Z h' a ty vs := by obtain ⟨c, A, r⟩ := A; exact ⟨c, ⟨K.2.1 a c A.1 q, A.2⟩, r⟩
theorem Arx.ext {h' : Heap} {a : Addr} {ty : FieldType} {vs : List Value} (A : Arx Z h a ty vs) (E : Ext h h') : Arx Z h' a ty vs := by obtain ⟨c, A, r⟩ := A; exact ⟨c, A.ext E, r⟩
theorem Arx.other {h' : Heap} {a b : Addr} {sl : Nat} {v : Value} {ty : FieldType} {vs : List Value} (A : Arx Z h b ty vs) (W : Wr h h' a sl v) (q : b ≠ a) : Arx Z h' b ty vs := by obtain ⟨c, A, r⟩ := A; exact ⟨c, A.other W q, r⟩
theorem Arx.lt {a : Addr} {ty : FieldType} {vs : List Value} (A : Arx Z h a ty vs) : a < h.size := by obtain ⟨c, A, r⟩ := A; exact A.lt
theorem Arx.le {a : Addr} {ty : FieldType} {vs : List Value} (A : Arx Z h a ty vs) : vs.length < 2 ^ 31 := by obtain ⟨c, A, r, q⟩ := A; exact q
theorem arx_in {cl : Cell} {vs : List Value} (q : cl.slots.toList = vs) {j : Int32} {i : Nat} (hj : j.toInt = (i : Int)) (hi : i < vs.length) : ¬ (j < 0 ∨ cl.slots.size ≤ j.toNatClampNeg) ∧ j.toNatClampNeg = i := by
  have e1 : j.toNatClampNeg = i := by simp only [Int32.toNatClampNeg, hj]; omega
  have e2 : cl.slots.size = vs.length := by rw [← q]; simp
  refine ⟨?_, e1⟩
  rw [e1, e2, Int32.lt_iff_toInt_lt, hj]
  have : (0 : Int32).toInt = 0 := rfl
  omega
theorem arx_at {cl : Cell} {vs : List Value} (q : cl.slots.toList = vs) {i : Nat} {v : Value} (hv : vs[i]? = some v) : cl.slots[i]? = some v := by rw [← q] at hv; simpa using hv
theorem arx_arv {a : Addr} {ty : FieldType} {vs : List Value} {n : Int32} {d : Value} (A : Arx Z h a ty vs) (hn : n.toInt = (vs.length : Int)) (hf : ∀ v ∈ vs, fits ty v = true) : ∃ k, Arv Z h a k ty n vs d := by
  obtain ⟨c, A, q, hl⟩ := A
  have e1 : n.toNatClampNeg = vs.length := by simp only [Int32.toNatClampNeg, hn]; omega
  have e2 : c.slots.size = vs.length := by rw [← q]; simp
  have e3 : ∀ i, i < c.slots.size → vs[i]? = some (vs.getD i d) := fun i hi => by rw [e2] at hi; simp [List.getD_eq_getElem?_getD, hi]
  refine ⟨c.cls, c, A, rfl, e2.trans e1.symm, ?_, fun i hi => ?_, fun i hi => hf _ (List.mem_of_getElem? (e3 i hi))⟩
  · rw [Int32.lt_iff_toInt_lt, hn]; have : (0 : Int32).toInt = 0 := rfl
    omega
  · have := e3 i hi
    rw [← q] at this; rw [← q]; simpa using this
theorem arv_arx {a : Addr} {k : ClassId} {ty : FieldType} {vs : List Value} {n : Int32} {d : Value} (A : Arv Z h a k ty n vs d) (hn : n.toInt = (vs.length : Int)) : Arx Z h a ty vs := by
  obtain ⟨c, A, -, e2, -, H, -⟩ := A
  have e1 : n.toNatClampNeg = vs.length := by simp only [Int32.toNatClampNeg, hn]; omega
  refine ⟨c, A, ?_, by have := n.toInt_lt; omega⟩
  apply List.ext_getElem?
  intro i
  by_cases hi : i < c.slots.size
  · have h1 := H i hi
    rw [e2, e1] at hi
    rw [Array.getElem?_toList, h1]; simp [List.getD_eq_getElem?_getD, hi]
  · rw [List.getElem?_eq_none (by simpa using hi), List.getElem?_eq_none (by rw [← e1, ← e2]; omega)]
theorem arx_new (k : ClassId) (ty : FieldType) (n : Int32) : (newA k ty n).slots.toList = List.replicate n.toNatClampNeg (defaultValue ty) := by simp [newA]
theorem g_iaload (X : St Z n0 p l e R s m args below meth c own nm bytes ml ret T locs cells slots h) {a : Addr} {j : Int32} {i : Nat} {v : Value} {vs : List Value} (A : Arx Z h a .int vs) (hj : j.toInt = (i : Int)) (hv : vs[i]? = some v) (hd : decode bytes pc = .ok (.iaload, 1)) (hp : pc + 1 = pc') (k : Go p e below K (T.setTop (mkF m pc' L (v :: S)))) : Go p e below K (T.setTop (mkF m pc L (.int j :: .ref a :: S))) := by
  obtain ⟨cl, A, q, -⟩ := A
  obtain ⟨hin, hi⟩ := arx_in q hj (List.getElem?_eq_some_iff.mp hv).1
  subst hp; exact k.of (fun _ z => X.X.iaload X.hx (by rw [X.eT]; exact A.1) (State.isArrayOf_alike X.hZ.alike A.2.1) A.2.2 hin (by rw [hi]; exact arx_at q hv) (g := mkF m pc L (.int j :: .ref a :: S)) rfl rfl (X.d hd) _ z)
theorem g_laload (X : St Z n0 p l e R s m args below meth c own nm bytes ml ret T locs cells slots h) {a : Addr} {j : Int32} {i : Nat} {v : Value} {vs : List Value} (A : Arx Z h a .long vs) (hj : j.toInt = (i : Int)) (hv : vs[i]? = some v) (hd : decode bytes pc = .ok (.laload, 1)) (hp : pc + 1 = pc') (k : Go p e below K (T.setTop (mkF m pc' L (v :: S)))) : Go p e below K (T.setTop (mkF m pc L (.int j :: .ref a :: S))) := by
  obtain ⟨cl, A, q, -⟩ := A
  obtain ⟨hin, hi⟩ := arx_in q hj (List.getElem?_eq_some_iff.mp hv).1
  subst hp; exact k.of (fun _ z => X.X.laload X.hx (by rw [X.eT]; exact A.1) (State.isArrayOf_alike X.hZ.alike A.2.1) A.2.2 hin (by rw [hi]; exact arx_at q hv) (g := mkF m pc L (.int j :: .ref a :: S)) rfl rfl (X.d hd) _ z)
theorem g_caload (X : St Z n0 p l e R s m args below meth c own nm bytes ml ret T locs cells slots h) {a : Addr} {j : Int32} {i : Nat} {v : Value} {vs : List Value} (A : Arx Z h a .char vs) (hj : j.toInt = (i : Int)) (hv : vs[i]? = some v) (hd : decode bytes pc = .ok (.caload, 1)) (hp : pc + 1 = pc') (k : Go p e below K (T.setTop (mkF m pc' L (v :: S)))) : Go p e below K (T.setTop (mkF m pc L (.int j :: .ref a :: S))) := by
  obtain ⟨cl, A, q, -⟩ := A
  obtain ⟨hin, hi⟩ := arx_in q hj (List.getElem?_eq_some_iff.mp hv).1
  subst hp; exact k.of (fun _ z => X.X.caload X.hx (by rw [X.eT]; exact A.1) (State.isArrayOf_alike X.hZ.alike A.2.1) A.2.2 hin (by rw [hi]; exact arx_at q hv) (g := mkF m pc L (.int j :: .ref a :: S)) rfl rfl (X.d hd) _ z)
theorem g_baload (X : St Z n0 p l e R s m args below meth c own nm bytes ml ret T locs cells slots h) {a : Addr} {j : Int32} {i : Nat} {v : Value} {vs : List Value} (A : Arx Z h a .byte vs) (hj : j.toInt = (i : Int)) (hv : vs[i]? = some v) (hd : decode bytes pc = .ok (.baload, 1)) (hp : pc + 1 = pc') (k : Go p e below K (T.setTop (mkF m pc' L (v :: S)))) : Go p e below K (T.setTop (mkF m pc L (.int j :: .ref a :: S))) := by
  obtain ⟨cl, A, q, -⟩ := A
  obtain ⟨hin, hi⟩ := arx_in q hj (List.getElem?_eq_some_iff.mp hv).1
  subst hp; exact k.of (fun _ z => X.X.baloadBytes X.hx (by rw [X.eT]; exact A.1) (State.isArrayOf_alike X.hZ.alike A.2.1) A.2.2 hin (by rw [hi]; exact arx_at q hv) (g := mkF m pc L (.int j :: .ref a :: S)) rfl rfl (X.d hd) _ z)
theorem g_daload (X : St Z n0 p l e R s m args below meth c own nm bytes ml ret T locs cells slots h) {a : Addr} {j : Int32} {i : Nat} {v : Value} {vs : List Value} (A : Arx Z h a .double vs) (hj : j.toInt = (i : Int)) (hv : vs[i]? = some v) (hd : decode bytes pc = .ok (.daload, 1)) (hp : pc + 1 = pc') (k : Go p e below K (T.setTop (mkF m pc' L (v :: S)))) : Go p e below K (T.setTop (mkF m pc L (.int j :: .ref a :: S))) := by
  obtain ⟨cl, A, q, -⟩ := A
  obtain ⟨hin, hi⟩ := arx_in q hj (List.getElem?_eq_some_iff.mp hv).1
  subst hp; exact k.of (fun _ z => X.X.daload X.hx (by rw [X.eT]; exact A.1) (State.isArrayOf_alike X.hZ.alike A.2.1) A.2.2 hin (by rw [hi]; exact arx_at q hv) (g := mkF m pc L (.int j :: .ref a :: S)) rfl rfl (X.d hd) _ z)
theorem g_aaload (X : St Z n0 p l e R s m args below meth c own nm bytes ml ret T locs cells slots h) {a : Addr} {j : Int32} {i : Nat} {v : Value} {ty : FieldType} {vs : List Value} (A : Arx Z h a ty vs) (hty : ty.isReference = true) (hj : j.toInt = (i : Int)) (hv : vs[i]? = some v) (hd : decode bytes pc = .ok (.aaload, 1)) (hp : pc + 1 = pc') (k : Go p e below K (T.setTop (mkF m pc' L (v :: S)))) : Go p e below K (T.setTop (mkF m pc L (.int j :: .ref a :: S))) := by
  obtain ⟨cl, A, q, -⟩ := A
  obtain ⟨hin, hi⟩ := arx_in q hj (List.getElem?_eq_some_iff.mp hv).1
  subst hp; exact k.of (fun _ z => X.X.aaload X.hx (by rw [X.eT]; exact A.1) (State.isArrayOf_alike X.hZ.alike A.2.1) hty A.2.2 hin (by rw [hi]; exact arx_at q hv) (g := mkF m pc L (.int j :: .ref a :: S)) rfl rfl (X.d hd) _ z)
theorem g_arraylength (X : St Z n0 p l e R s m args below meth c own nm bytes ml ret T locs cells slots h) {a : Addr} {ty : FieldType} {vs : List Value} {n : Int32} (A : Arx Z h a ty vs) (hn : vs.length.toInt32 = n) (hd : decode bytes pc = .ok (.arraylength, 1)) (hp : pc + 1 = pc') (k : Go p e below K (T.setTop (mkF m pc' L (.int n :: S)))) : Go p e below K (T.setTop (mkF m pc L (.ref a :: S))) := by
  obtain ⟨cl, A, q, -⟩ := A
  have e2 : cl.slots.size.toInt32 = n := by rw [← hn, ← q]; simp
  subst hp; exact k.of (fun _ z => X.X.arraylength X.hx (by rw [X.eT]; exact A.1) (State.isArrayOf_alike X.hZ.alike A.2.1) (g := mkF m pc L (.ref a :: S)) rfl rfl (X.d hd) _ (by rw [e2]; exact z))
theorem g_iastore (X : St Z n0 p l e R s m args below meth c own nm bytes ml ret T locs cells slots h) {a : Addr} {j : Int32} {i : Nat} {x : Int32} {vs : List Value} (A : Arx Z h a .int vs) (hj : j.toInt = (i : Int)) (hi : i < vs.length) (ga : n0 ≤ a) (hd : decode bytes pc = .ok (.iastore, 1)) (hp : pc + 1 = pc') (k : ∀ T' h', St Z n0 p l e R s m args below meth c own nm bytes ml ret T' (locs ++ [⟨a, i⟩]) cells slots h' → Wr h h' a i (.int x) → Arx Z h' a .int (vs.set i (.int x)) → Go p e below K (T'.setTop (mkF m pc' L S))) : Go p e below K (T.setTop (mkF m pc L (.int x :: .int j :: .ref a :: S))) := by
  obtain ⟨cl, A, q, hl⟩ := A
  obtain ⟨hin, hn⟩ := arx_in q hj hi
  obtain ⟨T', h', X', e', W, st'⟩ := stI X.X X.hx X.hZ X.eT A hin (g := mkF m pc L (.int x :: .int j :: .ref a :: S)) rfl rfl (X.d hd)
  rw [hn] at W X'
  subst hp; exact (k T' h' (X.to X' e' (Fr.snoc X' X.fr ga) (X.old.wr W ga)) W ⟨_, A.same W, by rw [← q]; simp [Cell.setSlot], by simpa using hl⟩).of st'
theorem g_lastore (X : St Z n0 p l e R s m args below meth c own nm bytes ml ret T locs cells slots h) {a : Addr} {j : Int32} {i : Nat} {x : Int64} {vs : List Value} (A : Arx Z h a .long vs) (hj : j.toInt = (i : Int)) (hi : i < vs.length) (ga : n0 ≤ a) (hd : decode bytes pc = .ok (.lastore, 1)) (hp : pc + 1 = pc') (k : ∀ T' h', St Z n0 p l e R s m args below meth c own nm bytes ml ret T' (locs ++ [⟨a, i⟩]) cells slots h' → Wr h h' a i (.long x) → Arx Z h' a .long (vs.set i (.long x)) → Go p e below K (T'.setTop (mkF m pc' L S))) : Go p e below K (T.setTop (mkF m pc L (.long x :: .int j :: .ref a :: S))) := by
  obtain ⟨cl, A, q, hl⟩ := A
  obtain ⟨hin, hn⟩ := arx_in q hj hi
  obtain ⟨T', h', X', e', W, st'⟩ := stJ X.X X.hx X.hZ X.eT A hin (g := mkF m pc L (.long x :: .int j :: .ref a :: S)) rfl rfl (X.d hd)
  rw [hn] at W X'
  subst hp; exact (k T' h' (X.to X' e' (Fr.snoc X' X.fr ga) (X.old.wr W ga)) W ⟨_, A.same W, by rw [← q]; simp [Cell.setSlot], by simpa using hl⟩).of st'
theorem g_castore (X : St Z n0 p l e R s m args below meth c own nm bytes ml ret T locs cells slots h) {a : Addr} {j : Int32} {i : Nat} {x : Int32} {vs : List Value} (A : Arx Z h a .char vs) (hj : j.toInt = (i : Int)) (hi : i < vs.length) (ga : n0 ≤ a) (hd : decode bytes pc = .ok (.castore, 1)) (hp : pc + 1 = pc') (k : ∀ T' h', St Z n0 p l e R s m args below meth c own nm bytes ml ret T' (locs ++ [⟨a, i⟩]) cells slots h' → Wr h h' a i (.int (nar .char x)) → Arx Z h' a .char (vs.set i (.int (nar .char x))) → Go p e below K (T'.setTop (mkF m pc' L S))) : Go p e below K (T.setTop (mkF m pc L (.int x :: .int j :: .ref a :: S))) := by
  obtain ⟨cl, A, q, hl⟩ := A
  obtain ⟨hin, hn⟩ := arx_in q hj hi
  obtain ⟨T', h', X', e', W, st'⟩ := stC X.X X.hx X.hZ X.eT A hin (g := mkF m pc L (.int x :: .int j :: .ref a :: S)) rfl rfl (X.d hd)
  rw [hn] at W X'
  subst hp; exact (k T' h' (X.to X' e' (Fr.snoc X' X.fr ga) (X.old.wr W ga)) W ⟨_, A.same W, by rw [← q]; simp [Cell.setSlot], by simpa using hl⟩).of st'
theorem g_bastore (X : St Z n0 p l e R s m args below meth c own nm bytes ml ret T locs cells slots h) {a : Addr} {j : Int32} {i : Nat} {x : Int32} {vs : List Value} (A : Arx Z h a .byte vs) (hj : j.toInt = (i : Int)) (hi : i < vs.length) (ga : n0 ≤ a) (hd : decode bytes pc = .ok (.bastore, 1)) (hp : pc + 1 = pc') (k : ∀ T' h', St Z n0 p l e R s m args below meth c own nm bytes ml ret T' (locs ++ [⟨a, i⟩]) cells slots h' → Wr h h' a i (.int (nar .byte x)) → Arx Z h' a .byte (vs.set i (.int (nar .byte x))) → Go p e below K (T'.setTop (mkF m pc' L S))) : Go p e below K (T.setTop (mkF m pc L (.int x :: .int j :: .ref a :: S))) := by
  obtain ⟨cl, A, q, hl⟩ := A
  obtain ⟨hin, hn⟩ := arx_in q hj hi
  obtain ⟨T', h', X', e', W, st'⟩ := stB X.X X.hx X.hZ X.eT A hin (g := mkF m pc L (.int x :: .int j :: .ref a :: S)) rfl rfl (X.d hd)
  rw [hn] at W X'
  subst hp; exact (k T' h' (X.to X' e' (Fr.snoc X' X.fr ga) (X.old.wr W ga)) W ⟨_, A.same W, by rw [← q]; simp [Cell.setSlot], by simpa using hl⟩).of st'
theorem g_dastore (X : St Z n0 p l e R s m args below meth c own nm bytes ml ret T locs cells slots h) {a : Addr} {j : Int32} {i : Nat} {x : UInt64} {vs : List Value} (A : Arx Z h a .double vs) (hj : j.toInt = (i : Int)) (hi : i < vs.length) (ga : n0 ≤ a) (hd : decode bytes pc = .ok (.dastore, 1)) (hp : pc + 1 = pc') (k : ∀ T' h', St Z n0 p l e R s m args below meth c own nm bytes ml ret T' (locs ++ [⟨a, i⟩]) cells slots h' → Wr h h' a i (.double x) → Arx Z h' a .double (vs.set i (.double x)) → Go p e below K (T'.setTop (mkF m pc' L S))) : Go p e below K (T.setTop (mkF m pc L (.double x :: .int j :: .ref a :: S))) := by
  obtain ⟨cl, A, q, hl⟩ := A
  obtain ⟨hin, hn⟩ := arx_in q hj hi
  obtain ⟨T', h', X', e', W, st'⟩ := stD X.X X.hx X.hZ X.eT A hin (g := mkF m pc L (.double x :: .int j :: .ref a :: S)) rfl rfl (X.d hd)
  rw [hn] at W X'
  subst hp; exact (k T' h' (X.to X' e' (Fr.snoc X' X.fr ga) (X.old.wr W ga)) W ⟨_, A.same W, by rw [← q]; simp [Cell.setSlot], by simpa using hl⟩).of st'
theorem g_newarray (X : St Z n0 p l e R s m args below meth c own nm bytes ml ret T locs cells slots h) {aty : ArrayType} {n : Int32} {cap : Nat} {vs : List Value} (w : (Jvm.Cond.arrayClass (newarray.typeOf aty)).before a0 Z = true) (hn : ¬ n < 0) (hcap : n.toNatClampNeg ≤ cap) (hvs : List.replicate n.toNatClampNeg (defaultValue (newarray.typeOf aty)) = vs) (hb : cap * 8 ≤ 536870912) (hd : decode bytes pc = .ok (.newarray aty, 2)) (hp : pc + 2 = pc') (hc : cells + 1 ≤ R.cells) (hl : slots + cap ≤ R.slots)
    (k : ∀ T' h' a, St Z n0 p l e R s m args below meth c own nm bytes ml ret T' locs (cells + 1) (slots + cap) h' → a = h.size → Ext h h' → Arx Z h' a (newarray.typeOf aty) vs → n0 ≤ a → Go p e below K (T'.setTop (mkF m pc' L (.ref a :: S)))) : Go p e below K (T.setTop (mkF m pc L (.int n :: S))) := by
  obtain ⟨T', h', cA, X', e', E, A, st'⟩ := newP X.X X.hx X.hZ w X.eT (g := mkF m pc L (.int n :: S)) rfl (X.d hd) rfl hn hcap hb hc hl
  subst hp; exact (k T' h' _ (X.to X' e' X.fr (X.old.ext E)) rfl E ⟨_, A, (arx_new _ _ _).trans hvs, by rw [← hvs, List.length_replicate]; omega⟩ X.sz).of st'
theorem g_callSB (X : St Z n0 p l e R s m args below meth c own nm bytes ml ret T locs cells slots h) {i : Nat} {y : MethodName} {b' : ByteArray} {ml' : Nat} {ret' : Option FieldType} {cc ss : Nat} {Q : Option Value → Heap → List Loc → Prop} {ps : List FieldType} {r : Option FieldType} {W : Nat} {S0 rest : List Value} (argsL : List Value) (w1 : (Jvm.Cond.methodLink own i y).before a0 Z = true) (w2 : (Jvm.Cond.static y).before a0 Z = true) (w0 : (Jvm.Cond.initialized y.cls).before a0 Z = true) (w4 : (Jvm.Cond.code y b' ml' ret').before a0 Z = true) (Bk : Back l R p e below s args y 3 W (fun A a' => a' = argsL.toArray ∧ A.U.heap = h ∧ A.cells + cc ≤ R.cells ∧ A.slots + ss ≤ R.slots) (fun A _ v B => ∃ L, Q v B.U.heap L ∧ B.locs = A.locs ++ L ∧ B.cells = A.cells + cc ∧ B.slots = A.slots + ss)) (hy : y.cls ≠ "java/lang/invoke/MethodHandle" ∧ y.cls ≠ "java/lang/invoke/VarHandle") (hc : cells + cc ≤ R.cells) (hs : slots + ss ≤ R.slots) (hL : L.size = ml) (hps : parseMethodDescriptor y.desc = some ⟨ps, r⟩) (hlen : argsL.length = ps.length) (hS : S0 = argsL.reverse ++ rest) (hW : (rest.map fun v => v.category).sum = W) (hd : decode bytes pc = .ok (.invokestatic i, 3)) (hp : pc + 3 = pc') (k : ∀ v T' h' L'', (Old Z n0 h' → Fr n0 L'' → St Z n0 p l e R s m args below meth c own nm bytes ml ret T' (locs ++ L'') (cells + cc) (slots + ss) h') → Q v h' L'' → Go p e below K (T'.setTop (mkF m pc' L (v.toList ++ rest)))) : Go p e below K (T.setTop (mkF m pc L S0)) := by
  subst hS hp
  obtain ⟨v, _, ⟨T', L'', k', n'⟩, -, X', ⟨Lc, hQ, l', y', z'⟩, st'⟩ := Jvm.LawKit.callS X.X X.hx (y := y) X.own_ (mvT X.hZ w1) (mvT X.hZ w2) (mvT X.hZ w0) (mvT X.hZ w4) hy Bk (g := mkF m pc L (argsL.reverse ++ rest)) rfl (by rw [X.ml_]; exact hL) (argsL := argsL) (rest := rest) (lenOf hps hlen) rfl (by show 2 * 0 + _ ≤ _; rw [hW, Nat.mul_zero, Nat.zero_add]; exact Nat.le_refl _) (X.d hd) (fun _ _ => ⟨rfl, X.eT, hc, hs⟩)
  dsimp only [Pt.U, Pt.locs, Pt.cells, Pt.slots] at X' l' y' z' st' hQ
  subst l' y' z'
  exact (k v T' T'.heap Lc (fun hz hF => ⟨X', X.2.1, rfl, X.fr.app hF, hz⟩) hQ).of st'
theorem g_callS (X : St Z n0 p l e R s m args below meth c own nm bytes ml ret T locs cells slots h) {i : Nat} {y : MethodName} {b' : ByteArray} {ml' : Nat} {ret' : Option FieldType} {rm : Room} {Q : Option Value → Heap → List Loc → Prop} {ps : List FieldType} {r : Option FieldType} {W : Nat} {S0 rest : List Value} (argsL : List Value) (w1 : (Jvm.Cond.methodLink own i y).before a0 Z = true) (w2 : (Jvm.Cond.static y).before a0 Z = true) (w0 : (Jvm.Cond.initialized y.cls).before a0 Z = true) (w4 : (Jvm.Cond.code y b' ml' ret').before a0 Z = true) (w3 : (Jvm.Cond.initialized y.cls).before a0 Z = true) (C : Con l Z y b' ml' ret' [] rm rm.cells rm.slots argsL.toArray h Q) (hy : y.cls ≠ "java/lang/invoke/MethodHandle" ∧ y.cls ≠ "java/lang/invoke/VarHandle") (hf : rm.frames + 1 ≤ R.frames) (hl : W + (ml' + 11) + rm.locals ≤ R.locals) (hc : cells + rm.cells ≤ R.cells) (hs : slots + rm.slots ≤ R.slots) (hL : L.size = ml) (hps : parseMethodDescriptor y.desc = some ⟨ps, r⟩) (hlen : argsL.length = ps.length) (hS : S0 = argsL.reverse ++ rest) (hW : (rest.map fun v => v.category).sum = W) (hd : decode bytes pc = .ok (.invokestatic i, 3)) (hp : pc + 3 = pc') (k : ∀ v T' h' L'', (Old Z n0 h' → Fr n0 L'' → St Z n0 p l e R s m args below meth c own nm bytes ml ret T' (locs ++ L'') (cells + rm.cells) (slots + rm.slots) h') → Q v h' L'' → Go p e below K (T'.setTop (mkF m pc' L (v.toList ++ rest)))) : Go p e below K (T.setTop (mkF m pc L S0)) :=
  g_callSB X argsL w1 w2 w0 w4 (backOf (W := W) C X.hZ w4 w3 hf hl) hy hc hs hL hps hlen hS hW hd hp k
theorem g_callIB (X : St Z n0 p l e R s m args below meth c own nm bytes ml ret T locs cells slots h) {i : Nat} {y : MethodName} {b' : ByteArray} {ml' : Nat} {ret' : Option FieldType} {cc ss : Nat} {Q : Option Value → Heap → List Loc → Prop} {ps : List FieldType} {r : Option FieldType} {W : Nat} {S0 rest : List Value} (argsL : List Value) {a : Addr} (hinit : y.name = "<init>") (w1 : (Jvm.Cond.methodLink own i y).before a0 Z = true) (w2 : (Jvm.Cond.instanceMethod y).before a0 Z = true) (hr : ret' = none) (w4 : (Jvm.Cond.code y b' ml' ret').before a0 Z = true) (Bk : Back l R p e below s args y 3 W (fun A a' => a' = (.ref a :: argsL).toArray ∧ A.U.heap = h ∧ A.cells + cc ≤ R.cells ∧ A.slots + ss ≤ R.slots) (fun A _ v B => ∃ L, Q v B.U.heap L ∧ B.locs = A.locs ++ L ∧ B.cells = A.cells + cc ∧ B.slots = A.slots + ss)) (hy : y.cls ≠ "java/lang/invoke/MethodHandle" ∧ y.cls ≠ "java/lang/invoke/VarHandle") (hc : cells + cc ≤ R.cells) (hs : slots + ss ≤ R.slots) (hL : L.size = ml) (hps : parseMethodDescriptor y.desc = some ⟨ps, r⟩) (hlen : argsL.length = ps.length) (hS : S0 = argsL.reverse ++ .ref a :: rest) (hW : (rest.map fun v => v.category).sum = W) (hd : decode bytes pc = .ok (.invokespecial i, 3)) (hp : pc + 3 = pc') (k : ∀ v T' h' L'', (Old Z n0 h' → Fr n0 L'' → St Z n0 p l e R s m args below meth c own nm bytes ml ret T' (locs ++ L'') (cells + cc) (slots + ss) h') → Q v h' L'' → Go p e below K (T'.setTop (mkF m pc' L (v.toList ++ rest)))) : Go p e below K (T.setTop (mkF m pc L S0)) := by
  subst hS hp
  subst hr
  obtain ⟨v, _, ⟨T', L'', k', n'⟩, -, X', ⟨Lc, hQ, l', y', z'⟩, st'⟩ := X.X.specialBack X.hx (y := y) hinit X.own_ (mvT X.hZ w1) (mvT X.hZ w2) (mvT X.hZ w4) hy Bk (g := mkF m pc L (argsL.reverse ++ .ref a :: rest)) rfl (by rw [X.ml_]; exact hL) (Steps.refl _) (a := a) (argsL := argsL) (rest := rest) (lenOf hps hlen) rfl (by show 2 * 0 + _ ≤ _; rw [hW, Nat.mul_zero, Nat.zero_add]; exact Nat.le_refl _) (X.d hd) (fun _ _ => ⟨rfl, X.eT, hc, hs⟩)
  dsimp only [Pt.U, Pt.locs, Pt.cells, Pt.slots] at X' l' y' z' st' hQ
  subst l' y' z'
  exact (k v T' T'.heap Lc (fun hz hF => ⟨X', X.2.1, rfl, X.fr.app hF, hz⟩) hQ).of (fun _ q => st'.trans q)
theorem g_callI (X : St Z n0 p l e R s m args below meth c own nm bytes ml ret T locs cells slots h) {i : Nat} {y : MethodName} {b' : ByteArray} {ml' : Nat} {ret' : Option FieldType} {rm : Room} {Q : Option Value → Heap → List Loc → Prop} {ps : List FieldType} {r : Option FieldType} {W : Nat} {S0 rest : List Value} (argsL : List Value) {a : Addr} (hinit : y.name = "<init>") (w1 : (Jvm.Cond.methodLink own i y).before a0 Z = true) (w2 : (Jvm.Cond.instanceMethod y).before a0 Z = true) (hr : ret' = none) (w4 : (Jvm.Cond.code y b' ml' ret').before a0 Z = true) (w3 : (Jvm.Cond.initialized y.cls).before a0 Z = true) (C : Con l Z y b' ml' ret' [] rm rm.cells rm.slots (.ref a :: argsL).toArray h Q) (hy : y.cls ≠ "java/lang/invoke/MethodHandle" ∧ y.cls ≠ "java/lang/invoke/VarHandle") (hf : rm.frames + 1 ≤ R.frames) (hl : W + (ml' + 11) + rm.locals ≤ R.locals) (hc : cells + rm.cells ≤ R.cells) (hs : slots + rm.slots ≤ R.slots) (hL : L.size = ml) (hps : parseMethodDescriptor y.desc = some ⟨ps, r⟩) (hlen : argsL.length = ps.length) (hS : S0 = argsL.reverse ++ .ref a :: rest) (hW : (rest.map fun v => v.category).sum = W) (hd : decode bytes pc = .ok (.invokespecial i, 3)) (hp : pc + 3 = pc') (k : ∀ v T' h' L'', (Old Z n0 h' → Fr n0 L'' → St Z n0 p l e R s m args below meth c own nm bytes ml ret T' (locs ++ L'') (cells + rm.cells) (slots + rm.slots) h') → Q v h' L'' → Go p e below K (T'.setTop (mkF m pc' L (v.toList ++ rest)))) : Go p e below K (T.setTop (mkF m pc L S0)) :=
  g_callIB X argsL hinit w1 w2 hr w4 (backOf (W := W) C X.hZ w4 w3 hf hl) hy hc hs hL hps hlen hS hW hd hp k
theorem g_callVB (X : St Z n0 p l e R s m args below meth c own nm bytes ml ret T locs cells slots h) {i : Nat} {y : MethodName} {b' : ByteArray} {ml' : Nat} {ret' : Option FieldType} {cc ss : Nat} {Q : Option Value → Heap → List Loc → Prop} {ps : List FieldType} {r : Option FieldType} {W : Nat} {S0 rest : List Value} (argsL : List Value) {C0 : String} {z : MethodName} {a : Addr} (w1 : (Jvm.Cond.methodLink own i y).before a0 Z = true) (w2 : (Jvm.Cond.declares y).before a0 Z = true) (nf : NotFace s y) (w5 : (Jvm.Cond.selects C0 y z).before a0 Z = true) (w6 : (Jvm.Cond.instanceMethod z).before a0 Z = true) (E : Exa Z h a C0) (w4 : (Jvm.Cond.code z b' ml' ret').before a0 Z = true) (Bk : Back l R p e below s args z 3 W (fun A a' => a' = (.ref a :: argsL).toArray ∧ A.U.heap = h ∧ A.cells + cc ≤ R.cells ∧ A.slots + ss ≤ R.slots) (fun A _ v B => ∃ L, Q v B.U.heap L ∧ B.locs = A.locs ++ L ∧ B.cells = A.cells + cc ∧ B.slots = A.slots + ss)) (hy : y.cls ≠ "java/lang/invoke/MethodHandle" ∧ y.cls ≠ "java/lang/invoke/VarHandle") (hc : cells + cc ≤ R.cells) (hs : slots + ss ≤ R.slots) (hL : L.size = ml) (hps : parseMethodDescriptor y.desc = some ⟨ps, r⟩) (hlen : argsL.length = ps.length) (hS : S0 = argsL.reverse ++ .ref a :: rest) (hW : (rest.map fun v => v.category).sum = W) (hd : decode bytes pc = .ok (.invokevirtual i, 3)) (hp : pc + 3 = pc') (k : ∀ v T' h' L'', (Old Z n0 h' → Fr n0 L'' → St Z n0 p l e R s m args below meth c own nm bytes ml ret T' (locs ++ L'') (cells + cc) (slots + ss) h') → Q v h' L'' → Go p e below K (T'.setTop (mkF m pc' L (v.toList ++ rest)))) : Go p e below K (T.setTop (mkF m pc L S0)) := by
  subst hS hp
  obtain ⟨cq, kq, q1, q2, q3⟩ := isOf X.hZ X.eT E
  obtain ⟨v, _, ⟨T', L'', k', n'⟩, -, X', ⟨Lc, hQ, l', y', z'⟩, st'⟩ := X.X.virtualBack X.hx (y := y) (z := z) X.own_ (mvT X.hZ w1) (mvT X.hZ w2) nf (mvT X.hZ w5) (mvT X.hZ w6) hy Bk q1 q3 (g := mkF m pc L (argsL.reverse ++ .ref a :: rest)) rfl (by rw [X.ml_]; exact hL) (Steps.refl _) (argsL := argsL) (rest := rest) (lenOf hps hlen) rfl (by show 2 * 0 + _ ≤ _; rw [hW, Nat.mul_zero, Nat.zero_add]; exact Nat.le_refl _) (X.d hd) (fun _ _ => ⟨rfl, X.eT, hc, hs⟩)
  dsimp only [Pt.U, Pt.locs, Pt.cells, Pt.slots] at X' l' y' z' st' hQ
  subst l' y' z'
  exact (k v T' T'.heap Lc (fun hz hF => ⟨X', X.2.1, rfl, X.fr.app hF, hz⟩) hQ).of (fun _ q => st'.trans q)
theorem g_callV (X : St Z n0 p l e R s m args below meth c own nm bytes ml ret T locs cells slots h) {i : Nat} {y : MethodName} {b' : ByteArray} {ml' : Nat} {ret' : Option FieldType} {rm : Room} {Q : Option Value → Heap → List Loc → Prop} {ps : List FieldType} {r : Option FieldType} {W : Nat} {S0 rest : List Value} (argsL : List Value) {C0 : String} {z : MethodName} {a : Addr} (w1 : (Jvm.Cond.methodLink own i y).before a0 Z = true) (w2 : (Jvm.Cond.declares y).before a0 Z = true) (nf : NotFace s y) (w5 : (Jvm.Cond.selects C0 y z).before a0 Z = true) (w6 : (Jvm.Cond.instanceMethod z).before a0 Z = true) (E : Exa Z h a C0) (w4 : (Jvm.Cond.code z b' ml' ret').before a0 Z = true) (w3 : (Jvm.Cond.initialized z.cls).before a0 Z = true) (C : Con l Z z b' ml' ret' [] rm rm.cells rm.slots (.ref a :: argsL).toArray h Q) (hy : y.cls ≠ "java/lang/invoke/MethodHandle" ∧ y.cls ≠ "java/lang/invoke/VarHandle") (hf : rm.frames + 1 ≤ R.frames) (hl : W + (ml' + 11) + rm.locals ≤ R.locals) (hc : cells + rm.cells ≤ R.cells) (hs : slots + rm.slots ≤ R.slots) (hL : L.size = ml) (hps : parseMethodDescriptor y.desc = some ⟨ps, r⟩) (hlen : argsL.length = ps.length) (hS : S0 = argsL.reverse ++ .ref a :: rest) (hW : (rest.map fun v => v.category).sum = W) (hd : decode bytes pc = .ok (.invokevirtual i, 3)) (hp : pc + 3 = pc') (k : ∀ v T' h' L'', (Old Z n0 h' → Fr n0 L'' → St Z n0 p l e R s m args below meth c own nm bytes ml ret T' (locs ++ L'') (cells + rm.cells) (slots + rm.slots) h') → Q v h' L'' → Go p e below K (T'.setTop (mkF m pc' L (v.toList ++ rest)))) : Go p e below K (T.setTop (mkF m pc L S0)) :=
  g_callVB X argsL w1 w2 nf w5 w6 E w4 (backOf (W := W) C X.hZ w4 w3 hf hl) hy hc hs hL hps hlen hS hW hd hp k
theorem g_callPB (X : St Z n0 p l e R s m args below meth c own nm bytes ml ret T locs cells slots h) {i : Nat} {y : MethodName} {b' : ByteArray} {ml' : Nat} {ret' : Option FieldType} {cc ss : Nat} {Q : Option Value → Heap → List Loc → Prop} {ps : List FieldType} {r : Option FieldType} {W : Nat} {S0 rest : List Value} (argsL : List Value) {C0 : String} {kk : Nat} {a : Addr} (w1 : (Jvm.Cond.methodLink own i y).before a0 Z = true) (w2 : (Jvm.Cond.instanceMethod y).before a0 Z = true) (wp : (Jvm.Cond.privateMethod y).before a0 Z = true) (wi : (Jvm.Cond.instantiable y.cls kk).before a0 Z = true) (E : Exa Z h a C0) (w4 : (Jvm.Cond.code y b' ml' ret').before a0 Z = true) (Bk : Back l R p e below s args y 3 W (fun A a' => a' = (.ref a :: argsL).toArray ∧ A.U.heap = h ∧ A.cells + cc ≤ R.cells ∧ A.slots + ss ≤ R.slots) (fun A _ v B => ∃ L, Q v B.U.heap L ∧ B.locs = A.locs ++ L ∧ B.cells = A.cells + cc ∧ B.slots = A.slots + ss)) (hy : y.cls ≠ "java/lang/invoke/MethodHandle" ∧ y.cls ≠ "java/lang/invoke/VarHandle") (hc : cells + cc ≤ R.cells) (hs : slots + ss ≤ R.slots) (hL : L.size = ml) (hps : parseMethodDescriptor y.desc = some ⟨ps, r⟩) (hlen : argsL.length = ps.length) (hS : S0 = argsL.reverse ++ .ref a :: rest) (hW : (rest.map fun v => v.category).sum = W) (hd : decode bytes pc = .ok (.invokevirtual i, 3)) (hp : pc + 3 = pc') (k : ∀ v T' h' L'', (Old Z n0 h' → Fr n0 L'' → St Z n0 p l e R s m args below meth c own nm bytes ml ret T' (locs ++ L'') (cells + cc) (slots + ss) h') → Q v h' L'' → Go p e below K (T'.setTop (mkF m pc' L (v.toList ++ rest)))) : Go p e below K (T.setTop (mkF m pc L S0)) := by
  subst hS hp
  obtain ⟨cq, q1, q2⟩ := E.cell
  have hpr : State.PrivateAt s y := Cond.privateMethod_at (mvP X.hZ wp (args := #[]))
  obtain ⟨c1, k1, f1, f2, f3, f4, -, -⟩ := Cond.instantiable_spec (show (Jvm.Cond.instantiable y.cls kk).holds #[] s none s [] = true from mvT X.hZ wi)
  obtain ⟨v, _, ⟨T', L'', k', n'⟩, -, X', ⟨Lc, hQ, l', y', z'⟩, st'⟩ := X.X.privateBack X.hx (y := y) X.own_ (mvT X.hZ w1) (mvT X.hZ w2) (selects_self_of_private f1 f2 (by cases hq : k1.isInterface with | false => rfl | true => rw [hq] at f4; simp at f4) hpr (mvT X.hZ w2) hy) hpr (mvT X.hZ w4) hy Bk (g := mkF m pc L (argsL.reverse ++ .ref a :: rest)) rfl (by rw [X.ml_]; exact hL) (Steps.refl _) (a := a) (by rw [X.eT]; exact q1) q2 (argsL := argsL) (rest := rest) (lenOf hps hlen) rfl (by show 2 * 0 + _ ≤ _; rw [hW, Nat.mul_zero, Nat.zero_add]; exact Nat.le_refl _) (X.d hd) (fun _ _ => ⟨rfl, X.eT, hc, hs⟩)
  dsimp only [Pt.U, Pt.locs, Pt.cells, Pt.slots] at X' l' y' z' st' hQ
  subst l' y' z'
  exact (k v T' T'.heap Lc (fun hz hF => ⟨X', X.2.1, rfl, X.fr.app hF, hz⟩) hQ).of (fun _ q => st'.trans q)
theorem g_callP (X : St Z n0 p l e R s m args below meth c own nm bytes ml ret T locs cells slots h) {i : Nat} {y : MethodName} {b' : ByteArray} {ml' : Nat} {ret' : Option FieldType} {rm : Room} {Q : Option Value → Heap → List Loc → Prop} {ps : List FieldType} {r : Option FieldType} {W : Nat} {S0 rest : List Value} (argsL : List Value) {C0 : String} {kk : Nat} {a : Addr} (w1 : (Jvm.Cond.methodLink own i y).before a0 Z = true) (w2 : (Jvm.Cond.instanceMethod y).before a0 Z = true) (wp : (Jvm.Cond.privateMethod y).before a0 Z = true) (wi : (Jvm.Cond.instantiable y.cls kk).before a0 Z = true) (E : Exa Z h a C0) (w4 : (Jvm.Cond.code y b' ml' ret').before a0 Z = true) (w3 : (Jvm.Cond.initialized y.cls).before a0 Z = true) (C : Con l Z y b' ml' ret' [] rm rm.cells rm.slots (.ref a :: argsL).toArray h Q) (hy : y.cls ≠ "java/lang/invoke/MethodHandle" ∧ y.cls ≠ "java/lang/invoke/VarHandle") (hf : rm.frames + 1 ≤ R.frames) (hl : W + (ml' + 11) + rm.locals ≤ R.locals) (hc : cells + rm.cells ≤ R.cells) (hs : slots + rm.slots ≤ R.slots) (hL : L.size = ml) (hps : parseMethodDescriptor y.desc = some ⟨ps, r⟩) (hlen : argsL.length = ps.length) (hS : S0 = argsL.reverse ++ .ref a :: rest) (hW : (rest.map fun v => v.category).sum = W) (hd : decode bytes pc = .ok (.invokevirtual i, 3)) (hp : pc + 3 = pc') (k : ∀ v T' h' L'', (Old Z n0 h' → Fr n0 L'' → St Z n0 p l e R s m args below meth c own nm bytes ml ret T' (locs ++ L'') (cells + rm.cells) (slots + rm.slots) h') → Q v h' L'' → Go p e below K (T'.setTop (mkF m pc' L (v.toList ++ rest)))) : Go p e below K (T.setTop (mkF m pc L S0)) :=
  g_callPB X argsL w1 w2 wp wi E w4 (backOf (W := W) C X.hZ w4 w3 hf hl) hy hc hs hL hps hlen hS hW hd hp k
theorem g_callSNB (X : St Z n0 p l e R s m args below meth c own nm bytes ml ret T locs cells slots h) {i : Nat} {y : MethodName} {b' : ByteArray} {ml' : Nat} {ret' : Option FieldType} {cc ss : Nat} {Q : Option Value → Heap → List Loc → Prop} {ps : List FieldType} {r : Option FieldType} {W : Nat} {S0 rest : List Value} (argsL : List Value) {host : String} (w1 : (Jvm.Cond.methodLinkNest own i y host).before a0 Z = true) (w2 : (Jvm.Cond.static y).before a0 Z = true) (w0 : (Jvm.Cond.initialized y.cls).before a0 Z = true) (w4 : (Jvm.Cond.code y b' ml' ret').before a0 Z = true) (Bk : Back l R p e below s args y 3 W (fun A a' => a' = argsL.toArray ∧ A.U.heap = h ∧ A.cells + cc ≤ R.cells ∧ A.slots + ss ≤ R.slots) (fun A _ v B => ∃ L, Q v B.U.heap L ∧ B.locs = A.locs ++ L ∧ B.cells = A.cells + cc ∧ B.slots = A.slots + ss)) (hy : y.cls ≠ "java/lang/invoke/MethodHandle" ∧ y.cls ≠ "java/lang/invoke/VarHandle") (hc : cells + cc ≤ R.cells) (hs : slots + ss ≤ R.slots) (hL : L.size = ml) (hps : parseMethodDescriptor y.desc = some ⟨ps, r⟩) (hlen : argsL.length = ps.length) (hS : S0 = argsL.reverse ++ rest) (hW : (rest.map fun v => v.category).sum = W) (hd : decode bytes pc = .ok (.invokestatic i, 3)) (hp : pc + 3 = pc') (k : ∀ v T' h' L'', (Old Z n0 h' → Fr n0 L'' → St Z n0 p l e R s m args below meth c own nm bytes ml ret T' (locs ++ L'') (cells + cc) (slots + ss) h') → Q v h' L'' → Go p e below K (T'.setTop (mkF m pc' L (v.toList ++ rest)))) : Go p e below K (T.setTop (mkF m pc L S0)) := by
  subst hS hp
  obtain ⟨v, _, ⟨T', L'', k', n'⟩, -, X', ⟨Lc, hQ, l', y', z'⟩, st'⟩ := callSN X.X X.hx (y := y) X.own_ (Cond.methodLinkNest_wide X.hZ w1) (mvT X.hZ w2) (mvT X.hZ w0) (mvT X.hZ w4) hy Bk (g := mkF m pc L (argsL.reverse ++ rest)) rfl (by rw [X.ml_]; exact hL) (argsL := argsL) (rest := rest) (lenOf hps hlen) rfl (by show 2 * 0 + _ ≤ _; rw [hW, Nat.mul_zero, Nat.zero_add]; exact Nat.le_refl _) (X.d hd) (fun _ _ => ⟨rfl, X.eT, hc, hs⟩)
  dsimp only [Pt.U, Pt.locs, Pt.cells, Pt.slots] at X' l' y' z' st' hQ
  subst l' y' z'
  exact (k v T' T'.heap Lc (fun hz hF => ⟨X', X.2.1, rfl, X.fr.app hF, hz⟩) hQ).of (fun _ q => st'.trans q)
theorem g_callSN (X : St Z n0 p l e R s m args below meth c own nm bytes ml ret T locs cells slots h) {i : Nat} {y : MethodName} {b' : ByteArray} {ml' : Nat} {ret' : Option FieldType} {rm : Room} {Q : Option Value → Heap → List Loc → Prop} {ps : List FieldType} {r : Option FieldType} {W : Nat} {S0 rest : List Value} (argsL : List Value) {host : String} (w1 : (Jvm.Cond.methodLinkNest own i y host).before a0 Z = true) (w2 : (Jvm.Cond.static y).before a0 Z = true) (w0 : (Jvm.Cond.initialized y.cls).before a0 Z = true) (w4 : (Jvm.Cond.code y b' ml' ret').before a0 Z = true) (w3 : (Jvm.Cond.initialized y.cls).before a0 Z = true) (C : Con l Z y b' ml' ret' [] rm rm.cells rm.slots argsL.toArray h Q) (hy : y.cls ≠ "java/lang/invoke/MethodHandle" ∧ y.cls ≠ "java/lang/invoke/VarHandle") (hf : rm.frames + 1 ≤ R.frames) (hl : W + (ml' + 11) + rm.locals ≤ R.locals) (hc : cells + rm.cells ≤ R.cells) (hs : slots + rm.slots ≤ R.slots) (hL : L.size = ml) (hps : parseMethodDescriptor y.desc = some ⟨ps, r⟩) (hlen : argsL.length = ps.length) (hS : S0 = argsL.reverse ++ rest) (hW : (rest.map fun v => v.category).sum = W) (hd : decode bytes pc = .ok (.invokestatic i, 3)) (hp : pc + 3 = pc') (k : ∀ v T' h' L'', (Old Z n0 h' → Fr n0 L'' → St Z n0 p l e R s m args below meth c own nm bytes ml ret T' (locs ++ L'') (cells + rm.cells) (slots + rm.slots) h') → Q v h' L'' → Go p e below K (T'.setTop (mkF m pc' L (v.toList ++ rest)))) : Go p e below K (T.setTop (mkF m pc L S0)) :=
  g_callSNB X argsL w1 w2 w0 w4 (backOf (W := W) C X.hZ w4 w3 hf hl) hy hc hs hL hps hlen hS hW hd hp k
theorem g_rawbits (X : St Z n0 p l e R s m args below meth c own nm bytes ml ret T locs cells slots h) {i : Nat} {b : UInt64} {W : Nat} (w1 : (Jvm.Cond.methodLink own i doubleToRawLongBitsName).before a0 Z = true) (w2 : (Jvm.Cond.native doubleToRawLongBitsName).before a0 Z = true) (w3 : (Jvm.Cond.static doubleToRawLongBitsName).before a0 Z = true) (w4 : (Jvm.Cond.initialized "java/lang/Double").before a0 Z = true) (hL : L.size = ml) (hW : (S.map fun v => v.category).sum = W) (hf : 1 ≤ R.frames) (hl : W + (nativeFrameWords "java/lang/Double" "doubleToRawLongBits" 2 + 11) ≤ R.locals) (hd : decode bytes pc = .ok (.invokestatic i, 3)) (hp : pc + 3 = pc') (k : ∀ T', St Z n0 p l e R s m args below meth c own nm bytes ml ret T' locs cells slots h → Go p e below K (T'.setTop (mkF m pc' L (.long b.toInt64 :: S)))) : Go p e below K (T.setTop (mkF m pc L (.double b :: S))) := by
  obtain ⟨vm', X', st'⟩ := X.X.doubleToRawLongBits X.hx X.own_ (mvT X.hZ w1) (mvT X.hZ w2) (mvT X.hZ w3) (mvT X.hZ w4) (g := mkF m pc L (.double b :: S)) rfl (by rw [X.ml_]; exact hL) rfl (X.d hd) hf (by show 2 * 0 + _ + _ ≤ _; rw [hW, Nat.mul_zero, Nat.zero_add]; exact hl)
  subst hp; exact (k _ (X.to X' X.eT X.fr X.old)).of st'
theorem g_retI (X : St Z n0 p l e R s m args below meth c own nm bytes ml ret T locs cells slots h) {C N : Nat} {Q : Option Value → Heap → List Loc → Prop} {z : Int32} (hr : ret = some .int) (hd : decode bytes pc = .ok (.ireturn, 1)) (hc : cells ≤ C) (hs : slots ≤ N) (q : Q (some (.int z)) h locs) : Go p e below (Kq s C N Q) (T.setTop (mkF m pc L (.int z :: S))) := by
  obtain ⟨fs, hl, hrun, hended, hW, hsame⟩ := X.X.leave (v := (some (.int z))) (fun h => by rw [X.ret_, hr] at h; cases h) X.lk
  exact ⟨_, _, retOut X.X X.hx (t := .int) (X.ret_.trans hr) rfl (Or.inl ⟨rfl, Or.inl rfl, _, rfl⟩) (X.d hd) hl, hrun, hended, _, _, rfl, (show Q _ T.heap _ by rw [X.eT]; exact q), ⟨_, rfl⟩, hW, hsame.mono hc hs⟩
theorem g_retL (X : St Z n0 p l e R s m args below meth c own nm bytes ml ret T locs cells slots h) {C N : Nat} {Q : Option Value → Heap → List Loc → Prop} {z : Int64} (hr : ret = some .long) (hd : decode bytes pc = .ok (.lreturn, 1)) (hc : cells ≤ C) (hs : slots ≤ N) (q : Q (some (.long z)) h locs) : Go p e below (Kq s C N Q) (T.setTop (mkF m pc L (.long z :: S))) := by
  obtain ⟨fs, hl, hrun, hended, hW, hsame⟩ := X.X.leave (v := (some (.long z))) (fun h => by rw [X.ret_, hr] at h; cases h) X.lk
  exact ⟨_, _, retOut X.X X.hx (t := .long) (X.ret_.trans hr) rfl (Or.inr (Or.inl ⟨rfl, rfl, _, rfl⟩)) (X.d hd) hl, hrun, hended, _, _, rfl, (show Q _ T.heap _ by rw [X.eT]; exact q), ⟨_, rfl⟩, hW, hsame.mono hc hs⟩
theorem g_retD (X : St Z n0 p l e R s m args below meth c own nm bytes ml ret T locs cells slots h) {C N : Nat} {Q : Option Value → Heap → List Loc → Prop} {z : UInt64} (hr : ret = some .double) (hd : decode bytes pc = .ok (.dreturn, 1)) (hc : cells ≤ C) (hs : slots ≤ N) (q : Q (some (.double z)) h locs) : Go p e below (Kq s C N Q) (T.setTop (mkF m pc L (.double z :: S))) := by
  obtain ⟨fs, hl, hrun, hended, hW, hsame⟩ := X.X.leave (v := (some (.double z))) (fun h => by rw [X.ret_, hr] at h; cases h) X.lk
  exact ⟨_, _, retOut X.X X.hx (t := .double) (X.ret_.trans hr) rfl (Or.inr (Or.inr (Or.inl ⟨rfl, rfl, _, rfl⟩))) (X.d hd) hl, hrun, hended, _, _, rfl, (show Q _ T.heap _ by rw [X.eT]; exact q), ⟨_, rfl⟩, hW, hsame.mono hc hs⟩
theorem g_retA (X : St Z n0 p l e R s m args below meth c own nm bytes ml ret T locs cells slots h) {C N : Nat} {Q : Option Value → Heap → List Loc → Prop} {z : Value} {t : FieldType} (hz : z.isRef = true) (ht : t.isReference = true) (hr : ret = some t) (hd : decode bytes pc = .ok (.areturn, 1)) (hc : cells ≤ C) (hs : slots ≤ N) (q : Q (some z) h locs) : Go p e below (Kq s C N Q) (T.setTop (mkF m pc L (z :: S))) := by
  obtain ⟨fs, hl, hrun, hended, hW, hsame⟩ := X.X.leave (v := (some z)) (fun h => by rw [X.ret_, hr] at h; cases h) X.lk
  exact ⟨_, _, retOut X.X X.hx (t := t) (X.ret_.trans hr) (by cases z <;> cases t <;> simp [Value.isRef, FieldType.isReference, narrow] at hz ht ⊢) (Or.inr (Or.inr (Or.inr (Or.inr ⟨rfl, ht, hz⟩)))) (X.d hd) hl, hrun, hended, _, _, rfl, (show Q _ T.heap _ by rw [X.eT]; exact q), ⟨_, rfl⟩, hW, hsame.mono hc hs⟩
theorem g_retN (X : St Z n0 p l e R s m args below meth c own nm bytes ml ret T locs cells slots h) {C N : Nat} {Q : Option Value → Heap → List Loc → Prop} {z : Int32} {t : FieldType} (ht : t = .boolean ∨ t = .byte ∨ t = .char ∨ t = .short) (hr : ret = some t) (hd : decode bytes pc = .ok (.ireturn, 1)) (hc : cells ≤ C) (hs : slots ≤ N) (q : Q (some (.int (nar t z))) h locs) : Go p e below (Kq s C N Q) (T.setTop (mkF m pc L (.int z :: S))) := by
  obtain ⟨fs, hl, hrun, hended, hW, hsame⟩ := X.X.leave (v := (some (.int (nar t z)))) (fun h => by rw [X.ret_, hr] at h; cases h) X.lk
  exact ⟨_, _, retN X.X X.hx (t := t) (X.ret_.trans hr) ht (X.d hd) hl, hrun, hended, _, _, rfl, (show Q _ T.heap _ by rw [X.eT]; exact q), ⟨_, rfl⟩, hW, hsame.mono hc hs⟩
theorem g_ret (X : St Z n0 p l e R s m args below meth c own nm bytes ml ret T locs cells slots h) {C N : Nat} {Q : Option Value → Heap → List Loc → Prop} (hr : ret = none) (hd : decode bytes pc = .ok (.return_, 1)) (hc : cells ≤ C) (hs : slots ≤ N) (q : Q none h locs) : Go p e below (Kq s C N Q) (T.setTop (mkF m pc L [])) := by
  obtain ⟨fs, hl, hrun, hended, hW, hsame⟩ := X.X.leave (v := none) (fun _ => rfl) X.lk
  exact ⟨_, _, X.X.returnOut X.hx (X.ret_.trans hr) (X.d hd) hl, hrun, hended, _, _, rfl, (show Q _ T.heap _ by rw [X.eT]; exact q), ⟨_, rfl⟩, hW, hsame.mono hc hs⟩
theorem nm0 {a : Addr} : a ∉ ([] : List Addr) := List.not_mem_nil
theorem nm1 {a b : Addr} (h : a ≠ b) : a ∉ [b] := by simpa using h
theorem nm2 {a b d : Addr} (h : a ≠ b) (h' : a ≠ d) : a ∉ [b, d] := by simp [h, h']
theorem keep_ext {h' : Heap} (E : Ext h h') (ws : List Addr) : Keep h h' ws := (Keep.refl h ws).ext E
theorem ne_new {a b k : Nat} (h1 : a < k) (h2 : b = k) : a ≠ b := by omega
theorem ne_new' {a b k : Nat} (h1 : a < k) (h2 : b = k) : b ≠ a := by omega
end Own

theorem m0 : (Jvm.Cond.constant "com/example/branchwise/branchwise/dd/DiagramManagerIsLeafPinLaw" (7 : Nat) (2147483647 : Int32)) ∈ tables_1 := List.mem_of_getElem? (i := 0) rfl
theorem m1 : (Jvm.Cond.methodLink "com/example/branchwise/branchwise/dd/DiagramManagerIsLeafPinLaw" (8 : Nat) ({ cls := "java/lang/Math", name := "min", desc := "(II)I" } : Jvm.MethodName)) ∈ tables_1 := List.mem_of_getElem? (i := 1) rfl
theorem m2 : (Jvm.Cond.static ({ cls := "java/lang/Math", name := "min", desc := "(II)I" } : Jvm.MethodName)) ∈ tables_1 := List.mem_of_getElem? (i := 2) rfl
theorem m3 : (Jvm.Cond.initialized "java/lang/Math") ∈ tables_1 := List.mem_of_getElem? (i := 3) rfl
theorem m4 : (Jvm.Cond.code ({ cls := "java/lang/Math", name := "min", desc := "(II)I" } : Jvm.MethodName) jdk_29_method_69_code (2 : Nat) (Option.some Jvm.ClassFile.FieldType.int)) ∈ tables_1 := List.mem_of_getElem? (i := 4) rfl
theorem m5 : (Jvm.Cond.methodLink "com/example/branchwise/branchwise/dd/DiagramManagerIsLeafPinLaw" (14 : Nat) ({ cls := "java/lang/Math", name := "max", desc := "(II)I" } : Jvm.MethodName)) ∈ tables_1 := List.mem_of_getElem? (i := 5) rfl
theorem m6 : (Jvm.Cond.static ({ cls := "java/lang/Math", name := "max", desc := "(II)I" } : Jvm.MethodName)) ∈ tables_1 := List.mem_of_getElem? (i := 6) rfl
theorem m7 : (Jvm.Cond.code ({ cls := "java/lang/Math", name := "max", desc := "(II)I" } : Jvm.MethodName) jdk_29_method_65_code (2 : Nat) (Option.some Jvm.ClassFile.FieldType.int)) ∈ tables_1 := List.mem_of_getElem? (i := 7) rfl
theorem m8 : (Jvm.Cond.classLink "com/example/branchwise/branchwise/dd/DiagramManagerIsLeafPinLaw" (17 : Nat) "com/example/branchwise/branchwise/dd/DiagramManager") ∈ tables_1 := List.mem_of_getElem? (i := 8) rfl
theorem m9 : (Jvm.Cond.instantiable "com/example/branchwise/branchwise/dd/DiagramManager" (10 : Nat)) ∈ tables_1 := List.mem_of_getElem? (i := 9) rfl
theorem m10 : (Jvm.Cond.initialized "com/example/branchwise/branchwise/dd/DiagramManager") ∈ tables_1 := List.mem_of_getElem? (i := 10) rfl
theorem m11 : (Jvm.Cond.methodLink "com/example/branchwise/branchwise/dd/DiagramManagerIsLeafPinLaw" (19 : Nat) ({ cls := "com/example/branchwise/branchwise/dd/DiagramManager", name := "<init>", desc := "(I)V" } : Jvm.MethodName)) ∈ tables_1 := List.mem_of_getElem? (i := 11) rfl
theorem m12 : (Jvm.Cond.instanceMethod ({ cls := "com/example/branchwise/branchwise/dd/DiagramManager", name := "<init>", desc := "(I)V" } : Jvm.MethodName)) ∈ tables_1 := List.mem_of_getElem? (i := 12) rfl
theorem m13 : (Jvm.Cond.code ({ cls := "com/example/branchwise/branchwise/dd/DiagramManager", name := "<init>", desc := "(I)V" } : Jvm.MethodName) prog_11_method_2_code (2 : Nat) (Option.none : Option Jvm.ClassFile.FieldType)) ∈ tables_1 := List.mem_of_getElem? (i := 13) rfl
theorem m14 : (Jvm.Cond.methodLink "com/example/branchwise/branchwise/dd/DiagramManager" (10 : Nat) ({ cls := "java/lang/Object", name := "<init>", desc := "()V" } : Jvm.MethodName)) ∈ tables_1 := List.mem_of_getElem? (i := 14) rfl
theorem m15 : (Jvm.Cond.instanceMethod ({ cls := "java/lang/Object", name := "<init>", desc := "()V" } : Jvm.MethodName)) ∈ tables_1 := List.mem_of_getElem? (i := 15) rfl
theorem m16 : (Jvm.Cond.code ({ cls := "java/lang/Object", name := "<init>", desc := "()V" } : Jvm.MethodName) object_method_1_code (1 : Nat) (Option.none : Option Jvm.ClassFile.FieldType)) ∈ tables_1 := List.mem_of_getElem? (i := 16) rfl
theorem m17 : (Jvm.Cond.arrayClass Jvm.ClassFile.FieldType.int) ∈ tables_1 := List.mem_of_getElem? (i := 17) rfl
theorem m18 : (Jvm.Cond.fieldLink "com/example/branchwise/branchwise/dd/DiagramManager" (15 : Nat) "com/example/branchwise/branchwise/dd/DiagramManager" "variables" "[I") ∈ tables_1 := List.mem_of_getElem? (i := 18) rfl
theorem m19 : (Jvm.Cond.lays "com/example/branchwise/branchwise/dd/DiagramManager" "com/example/branchwise/branchwise/dd/DiagramManager" "variables" "[I") ∈ tables_1 := List.mem_of_getElem? (i := 19) rfl
theorem m20 : (Jvm.Cond.fieldLink "com/example/branchwise/branchwise/dd/DiagramManager" (19 : Nat) "com/example/branchwise/branchwise/dd/DiagramManager" "highs" "[I") ∈ tables_1 := List.mem_of_getElem? (i := 20) rfl
theorem m21 : (Jvm.Cond.lays "com/example/branchwise/branchwise/dd/DiagramManager" "com/example/branchwise/branchwise/dd/DiagramManager" "highs" "[I") ∈ tables_1 := List.mem_of_getElem? (i := 21) rfl
theorem m22 : (Jvm.Cond.fieldLink "com/example/branchwise/branchwise/dd/DiagramManager" (22 : Nat) "com/example/branchwise/branchwise/dd/DiagramManager" "lows" "[I") ∈ tables_1 := List.mem_of_getElem? (i := 22) rfl
theorem m23 : (Jvm.Cond.lays "com/example/branchwise/branchwise/dd/DiagramManager" "com/example/branchwise/branchwise/dd/DiagramManager" "lows" "[I") ∈ tables_1 := List.mem_of_getElem? (i := 23) rfl
theorem m24 : (Jvm.Cond.arrayClass Jvm.ClassFile.FieldType.double) ∈ tables_1 := List.mem_of_getElem? (i := 24) rfl
theorem m25 : (Jvm.Cond.fieldLink "com/example/branchwise/branchwise/dd/DiagramManager" (25 : Nat) "com/example/branchwise/branchwise/dd/DiagramManager" "values" "[D") ∈ tables_1 := List.mem_of_getElem? (i := 25) rfl
theorem m26 : (Jvm.Cond.lays "com/example/branchwise/branchwise/dd/DiagramManager" "com/example/branchwise/branchwise/dd/DiagramManager" "values" "[D") ∈ tables_1 := List.mem_of_getElem? (i := 26) rfl
theorem m27 : (Jvm.Cond.fieldLink "com/example/branchwise/branchwise/dd/DiagramManager" (29 : Nat) "com/example/branchwise/branchwise/dd/DiagramManager" "freeIds" "[I") ∈ tables_1 := List.mem_of_getElem? (i := 27) rfl
theorem m28 : (Jvm.Cond.lays "com/example/branchwise/branchwise/dd/DiagramManager" "com/example/branchwise/branchwise/dd/DiagramManager" "freeIds" "[I") ∈ tables_1 := List.mem_of_getElem? (i := 28) rfl
theorem m29 : (Jvm.Cond.methodLink "com/example/branchwise/branchwise/dd/DiagramManager" (32 : Nat) ({ cls := "com/example/branchwise/branchwise/dd/DiagramManager", name := "emptyTable", desc := "(I)[I" } : Jvm.MethodName)) ∈ tables_1 := List.mem_of_getElem? (i := 29) rfl
theorem m30 : (Jvm.Cond.static ({ cls := "com/example/branchwise/branchwise/dd/DiagramManager", name := "emptyTable", desc := "(I)[I" } : Jvm.MethodName)) ∈ tables_1 := List.mem_of_getElem? (i := 30) rfl
theorem m31 : (Jvm.Cond.code ({ cls := "com/example/branchwise/branchwise/dd/DiagramManager", name := "emptyTable", desc := "(I)[I" } : Jvm.MethodName) prog_11_method_48_code (2 : Nat) (Option.some (Jvm.ClassFile.FieldType.array Jvm.ClassFile.FieldType.int))) ∈ tables_1 := List.mem_of_getElem? (i := 31) rfl
theorem m32 : (Jvm.Cond.methodLink "com/example/branchwise/branchwise/dd/DiagramManager" (457 : Nat) ({ cls := "java/util/Arrays", name := "fill", desc := "([II)V" } : Jvm.MethodName)) ∈ tables_1 := List.mem_of_getElem? (i := 32) rfl
theorem m33 : (Jvm.Cond.static ({ cls := "java/util/Arrays", name := "fill", desc := "([II)V" } : Jvm.MethodName)) ∈ tables_1 := List.mem_of_getElem? (i := 33) rfl
theorem m34 : (Jvm.Cond.initialized "java/util/Arrays") ∈ tables_1 := List.mem_of_getElem? (i := 34) rfl
theorem m35 : (Jvm.Cond.code ({ cls := "java/util/Arrays", name := "fill", desc := "([II)V" } : Jvm.MethodName) jdk_65_method_103_code (4 : Nat) (Option.none : Option Jvm.ClassFile.FieldType)) ∈ tables_1 := List.mem_of_getElem? (i := 35) rfl
theorem m36 : (Jvm.Cond.fieldLink "com/example/branchwise/branchwise/dd/DiagramManager" (36 : Nat) "com/example/branchwise/branchwise/dd/DiagramManager" "uniqueTable" "[I") ∈ tables_1 := List.mem_of_getElem? (i := 36) rfl
theorem m37 : (Jvm.Cond.lays "com/example/branchwise/branchwise/dd/DiagramManager" "com/example/branchwise/branchwise/dd/DiagramManager" "uniqueTable" "[I") ∈ tables_1 := List.mem_of_getElem? (i := 37) rfl
theorem m38 : (Jvm.Cond.classLink "com/example/branchwise/branchwise/dd/DiagramManager" (39 : Nat) "com/example/branchwise/branchwise/dd/DiagramManager$ComputedTable") ∈ tables_1 := List.mem_of_getElem? (i := 38) rfl
theorem m39 : (Jvm.Cond.instantiable "com/example/branchwise/branchwise/dd/DiagramManager$ComputedTable" (4 : Nat)) ∈ tables_1 := List.mem_of_getElem? (i := 39) rfl
theorem m40 : (Jvm.Cond.initialized "com/example/branchwise/branchwise/dd/DiagramManager$ComputedTable") ∈ tables_1 := List.mem_of_getElem? (i := 40) rfl
theorem m41 : (Jvm.Cond.methodLink "com/example/branchwise/branchwise/dd/DiagramManager" (41 : Nat) ({ cls := "com/example/branchwise/branchwise/dd/DiagramManager$ComputedTable", name := "<init>", desc := "(I)V" } : Jvm.MethodName)) ∈ tables_1 := List.mem_of_getElem? (i := 41) rfl
theorem m42 : (Jvm.Cond.instanceMethod ({ cls := "com/example/branchwise/branchwise/dd/DiagramManager$ComputedTable", name := "<init>", desc := "(I)V" } : Jvm.MethodName)) ∈ tables_1 := List.mem_of_getElem? (i := 42) rfl
theorem m43 : (Jvm.Cond.code ({ cls := "com/example/branchwise/branchwise/dd/DiagramManager$ComputedTable", name := "<init>", desc := "(I)V" } : Jvm.MethodName) prog_13_method_1_code (2 : Nat) (Option.none : Option Jvm.ClassFile.FieldType)) ∈ tables_1 := List.mem_of_getElem? (i := 43) rfl
theorem m44 : (Jvm.Cond.methodLink "com/example/branchwise/branchwise/dd/DiagramManager$ComputedTable" (3 : Nat) ({ cls := "java/lang/Object", name := "<init>", desc := "()V" } : Jvm.MethodName)) ∈ tables_1 := List.mem_of_getElem? (i := 44) rfl
theorem m45 : (Jvm.Cond.methodLink "com/example/branchwise/branchwise/dd/DiagramManager$ComputedTable" (9 : Nat) ({ cls := "com/example/branchwise/branchwise/dd/DiagramManager$ComputedTable", name := "resize", desc := "(I)V" } : Jvm.MethodName)) ∈ tables_1 := List.mem_of_getElem? (i := 45) rfl
theorem m46 : (Jvm.Cond.declares ({ cls := "com/example/branchwise/branchwise/dd/DiagramManager$ComputedTable", name := "resize", desc := "(I)V" } : Jvm.MethodName)) ∈ tables_1 := List.mem_of_getElem? (i := 46) rfl
theorem m47 : (Jvm.Cond.instanceMethod ({ cls := "com/example/branchwise/branchwise/dd/DiagramManager$ComputedTable", name := "resize", desc := "(I)V" } : Jvm.MethodName)) ∈ tables_1 := List.mem_of_getElem? (i := 47) rfl
theorem m48 : (Jvm.Cond.selects "com/example/branchwise/branchwise/dd/DiagramManager$ComputedTable" ({ cls := "com/example/branchwise/branchwise/dd/DiagramManager$ComputedTable", name := "resize", desc := "(I)V" } : Jvm.MethodName) ({ cls := "com/example/branchwise/branchwise/dd/DiagramManager$ComputedTable", name := "resize", desc := "(I)V" } : Jvm.MethodName)) ∈ tables_1 := List.mem_of_getElem? (i := 48) rfl
theorem m49 : (Jvm.Cond.code ({ cls := "com/example/branchwise/branchwise/dd/DiagramManager$ComputedTable", name := "resize", desc := "(I)V" } : Jvm.MethodName) prog_13_method_5_code (3 : Nat) (Option.none : Option Jvm.ClassFile.FieldType)) ∈ tables_1 := List.mem_of_getElem? (i := 49) rfl
theorem m50 : (Jvm.Cond.constant "com/example/branchwise/branchwise/dd/DiagramManager$ComputedTable" (38 : Nat) (4194304 : Int32)) ∈ tables_1 := List.mem_of_getElem? (i := 50) rfl
theorem m51 : (Jvm.Cond.methodLink "com/example/branchwise/branchwise/dd/DiagramManager$ComputedTable" (39 : Nat) ({ cls := "java/lang/Math", name := "min", desc := "(II)I" } : Jvm.MethodName)) ∈ tables_1 := List.mem_of_getElem? (i := 51) rfl
theorem m52 : (Jvm.Cond.fieldLink "com/example/branchwise/branchwise/dd/DiagramManager$ComputedTable" (19 : Nat) "com/example/branchwise/branchwise/dd/DiagramManager$ComputedTable" "codes" "[I") ∈ tables_1 := List.mem_of_getElem? (i := 52) rfl
theorem m53 : (Jvm.Cond.lays "com/example/branchwise/branchwise/dd/DiagramManager$ComputedTable" "com/example/branchwise/branchwise/dd/DiagramManager$ComputedTable" "codes" "[I") ∈ tables_1 := List.mem_of_getElem? (i := 53) rfl
theorem m54 : (Jvm.Cond.methodLinkNest "com/example/branchwise/branchwise/dd/DiagramManager$ComputedTable" (45 : Nat) ({ cls := "com/example/branchwise/branchwise/dd/DiagramManager", name := "emptyTable", desc := "(I)[I" } : Jvm.MethodName) "com/example/branchwise/branchwise/dd/DiagramManager") ∈ tables_1 := List.mem_of_getElem? (i := 54) rfl
theorem m55 : (Jvm.Cond.fieldLink "com/example/branchwise/branchwise/dd/DiagramManager$ComputedTable" (23 : Nat) "com/example/branchwise/branchwise/dd/DiagramManager$ComputedTable" "firsts" "[I") ∈ tables_1 := List.mem_of_getElem? (i := 55) rfl
theorem m56 : (Jvm.Cond.lays "com/example/branchwise/branchwise/dd/DiagramManager$ComputedTable" "com/example/branchwise/branchwise/dd/DiagramManager$ComputedTable" "firsts" "[I") ∈ tables_1 := List.mem_of_getElem? (i := 56) rfl
theorem m57 : (Jvm.Cond.fieldLink "com/example/branchwise/branchwise/dd/DiagramManager$ComputedTable" (26 : Nat) "com/example/branchwise/branchwise/dd/DiagramManager$ComputedTable" "seconds" "[I") ∈ tables_1 := List.mem_of_getElem? (i := 57) rfl
theorem m58 : (Jvm.Cond.lays "com/example/branchwise/branchwise/dd/DiagramManager$ComputedTable" "com/example/branchwise/branchwise/dd/DiagramManager$ComputedTable" "seconds" "[I") ∈ tables_1 := List.mem_of_getElem? (i := 58) rfl
theorem m59 : (Jvm.Cond.fieldLink "com/example/branchwise/branchwise/dd/DiagramManager$ComputedTable" (29 : Nat) "com/example/branchwise/branchwise/dd/DiagramManager$ComputedTable" "results" "[I") ∈ tables_1 := List.mem_of_getElem? (i := 59) rfl
theorem m60 : (Jvm.Cond.lays "com/example/branchwise/branchwise/dd/DiagramManager$ComputedTable" "com/example/branchwise/branchwise/dd/DiagramManager$ComputedTable" "results" "[I") ∈ tables_1 := List.mem_of_getElem? (i := 60) rfl
theorem m61 : (Jvm.Cond.fieldLink "com/example/branchwise/branchwise/dd/DiagramManager" (42 : Nat) "com/example/branchwise/branchwise/dd/DiagramManager" "computed" "Lcom/example/branchwise/branchwise/dd/DiagramManager$ComputedTable;") ∈ tables_1 := List.mem_of_getElem? (i := 61) rfl
theorem m62 : (Jvm.Cond.laysFinal "com/example/branchwise/branchwise/dd/DiagramManager" "com/example/branchwise/branchwise/dd/DiagramManager" "computed" "Lcom/example/branchwise/branchwise/dd/DiagramManager$ComputedTable;") ∈ tables_1 := List.mem_of_getElem? (i := 62) rfl
theorem m63 : (Jvm.Cond.fieldLink "com/example/branchwise/branchwise/dd/DiagramManager" (55 : Nat) "com/example/branchwise/branchwise/dd/DiagramManager" "nodeLimit" "I") ∈ tables_1 := List.mem_of_getElem? (i := 63) rfl
theorem m64 : (Jvm.Cond.laysFinal "com/example/branchwise/branchwise/dd/DiagramManager" "com/example/branchwise/branchwise/dd/DiagramManager" "nodeLimit" "I") ∈ tables_1 := List.mem_of_getElem? (i := 64) rfl
theorem m65 : (Jvm.Cond.methodLink "com/example/branchwise/branchwise/dd/DiagramManagerIsLeafPinLaw" (26 : Nat) ({ cls := "com/example/branchwise/branchwise/dd/DiagramManager", name := "constant", desc := "(D)I" } : Jvm.MethodName)) ∈ tables_1 := List.mem_of_getElem? (i := 65) rfl
theorem m66 : (Jvm.Cond.declares ({ cls := "com/example/branchwise/branchwise/dd/DiagramManager", name := "constant", desc := "(D)I" } : Jvm.MethodName)) ∈ tables_1 := List.mem_of_getElem? (i := 66) rfl
theorem m67 : (Jvm.Cond.instanceMethod ({ cls := "com/example/branchwise/branchwise/dd/DiagramManager", name := "constant", desc := "(D)I" } : Jvm.MethodName)) ∈ tables_1 := List.mem_of_getElem? (i := 67) rfl
theorem m68 : (Jvm.Cond.selects "com/example/branchwise/branchwise/dd/DiagramManager" ({ cls := "com/example/branchwise/branchwise/dd/DiagramManager", name := "constant", desc := "(D)I" } : Jvm.MethodName) ({ cls := "com/example/branchwise/branchwise/dd/DiagramManager", name := "constant", desc := "(D)I" } : Jvm.MethodName)) ∈ tables_1 := List.mem_of_getElem? (i := 68) rfl
theorem m69 : (Jvm.Cond.code ({ cls := "com/example/branchwise/branchwise/dd/DiagramManager", name := "constant", desc := "(D)I" } : Jvm.MethodName) prog_11_method_3_code (3 : Nat) (Option.some Jvm.ClassFile.FieldType.int)) ∈ tables_1 := List.mem_of_getElem? (i := 69) rfl
theorem m70 : (Jvm.Cond.methodLink "com/example/branchwise/branchwise/dd/DiagramManager" (59 : Nat) ({ cls := "java/lang/Double", name := "isFinite", desc := "(D)Z" } : Jvm.MethodName)) ∈ tables_1 := List.mem_of_getElem? (i := 70) rfl
theorem m71 : (Jvm.Cond.static ({ cls := "java/lang/Double", name := "isFinite", desc := "(D)Z" } : Jvm.MethodName)) ∈ tables_1 := List.mem_of_getElem? (i := 71) rfl
theorem m72 : (Jvm.Cond.initialized "java/lang/Double") ∈ tables_1 := List.mem_of_getElem? (i := 72) rfl
theorem m73 : (Jvm.Cond.code ({ cls := "java/lang/Double", name := "isFinite", desc := "(D)Z" } : Jvm.MethodName) jdk_117_method_8_code (2 : Nat) (Option.some Jvm.ClassFile.FieldType.boolean)) ∈ tables_1 := List.mem_of_getElem? (i := 73) rfl
theorem m74 : (Jvm.Cond.methodLink "java/lang/Double" (38 : Nat) ({ cls := "java/lang/Math", name := "abs", desc := "(D)D" } : Jvm.MethodName)) ∈ tables_1 := List.mem_of_getElem? (i := 74) rfl
theorem m75 : (Jvm.Cond.static ({ cls := "java/lang/Math", name := "abs", desc := "(D)D" } : Jvm.MethodName)) ∈ tables_1 := List.mem_of_getElem? (i := 75) rfl
theorem m76 : (Jvm.Cond.code ({ cls := "java/lang/Math", name := "abs", desc := "(D)D" } : Jvm.MethodName) jdk_29_method_64_code (2 : Nat) (Option.some Jvm.ClassFile.FieldType.double)) ∈ tables_1 := List.mem_of_getElem? (i := 76) rfl
theorem m77 : (Jvm.Cond.constantDouble "java/lang/Double" (111 : Nat) (9218868437227405311 : UInt64)) ∈ tables_1 := List.mem_of_getElem? (i := 77) rfl
theorem m78 : (Jvm.Cond.methodLink "com/example/branchwise/branchwise/dd/DiagramManager" (68 : Nat) ({ cls := "com/example/branchwise/branchwise/dd/DiagramManager", name := "leaf", desc := "(DD)I" } : Jvm.MethodName)) ∈ tables_1 := List.mem_of_getElem? (i := 78) rfl
theorem m79 : (Jvm.Cond.instanceMethod ({ cls := "com/example/branchwise/branchwise/dd/DiagramManager", name := "leaf", desc := "(DD)I" } : Jvm.MethodName)) ∈ tables_1 := List.mem_of_getElem? (i := 79) rfl
theorem m80 : (Jvm.Cond.privateMethod ({ cls := "com/example/branchwise/branchwise/dd/DiagramManager", name := "leaf", desc := "(DD)I" } : Jvm.MethodName)) ∈ tables_1 := List.mem_of_getElem? (i := 80) rfl
theorem m81 : (Jvm.Cond.code ({ cls := "com/example/branchwise/branchwise/dd/DiagramManager", name := "leaf", desc := "(DD)I" } : Jvm.MethodName) prog_11_method_39_code (7 : Nat) (Option.some Jvm.ClassFile.FieldType.int)) ∈ tables_1 := List.mem_of_getElem? (i := 81) rfl
theorem m82 : (Jvm.Cond.methodLink "com/example/branchwise/branchwise/dd/DiagramManager" (391 : Nat) ({ cls := "java/lang/Double", name := "doubleToLongBits", desc := "(D)J" } : Jvm.MethodName)) ∈ tables_1 := List.mem_of_getElem? (i := 82) rfl
theorem m83 : (Jvm.Cond.static ({ cls := "java/lang/Double", name := "doubleToLongBits", desc := "(D)J" } : Jvm.MethodName)) ∈ tables_1 := List.mem_of_getElem? (i := 83) rfl
theorem m84 : (Jvm.Cond.code ({ cls := "java/lang/Double", name := "doubleToLongBits", desc := "(D)J" } : Jvm.MethodName) jdk_117_method_23_code (2 : Nat) (Option.some Jvm.ClassFile.FieldType.long)) ∈ tables_1 := List.mem_of_getElem? (i := 84) rfl
theorem m85 : (Jvm.Cond.methodLink "java/lang/Double" (122 : Nat) ({ cls := "java/lang/Double", name := "isNaN", desc := "(D)Z" } : Jvm.MethodName)) ∈ tables_1 := List.mem_of_getElem? (i := 85) rfl
theorem m86 : (Jvm.Cond.static ({ cls := "java/lang/Double", name := "isNaN", desc := "(D)Z" } : Jvm.MethodName)) ∈ tables_1 := List.mem_of_getElem? (i := 86) rfl
theorem m87 : (Jvm.Cond.code ({ cls := "java/lang/Double", name := "isNaN", desc := "(D)Z" } : Jvm.MethodName) jdk_117_method_6_code (2 : Nat) (Option.some Jvm.ClassFile.FieldType.boolean)) ∈ tables_1 := List.mem_of_getElem? (i := 87) rfl
theorem m88 : (Jvm.Cond.methodLink "java/lang/Double" (134 : Nat) ({ cls := "java/lang/Double", name := "doubleToRawLongBits", desc := "(D)J" } : Jvm.MethodName)) ∈ tables_1 := List.mem_of_getElem? (i := 88) rfl
theorem m89 : (Jvm.Cond.static ({ cls := "java/lang/Double", name := "doubleToRawLongBits", desc := "(D)J" } : Jvm.MethodName)) ∈ tables_1 := List.mem_of_getElem? (i := 89) rfl
theorem m90 : (Jvm.Cond.native ({ cls := "java/lang/Double", name := "doubleToRawLongBits", desc := "(D)J" } : Jvm.MethodName)) ∈ tables_1 := List.mem_of_getElem? (i := 90) rfl
theorem m91 : (Jvm.Cond.constant "com/example/branchwise/branchwise/dd/DiagramManager" (5 : Nat) (2147483647 : Int32)) ∈ tables_1 := List.mem_of_getElem? (i := 91) rfl
theorem m92 : (Jvm.Cond.methodLink "com/example/branchwise/branchwise/dd/DiagramManager" (400 : Nat) ({ cls := "com/example/branchwise/branchwise/dd/DiagramManager", name := "findOrAdd", desc := "(IIID)I" } : Jvm.MethodName)) ∈ tables_1 := List.mem_of_getElem? (i := 92) rfl
theorem m93 : (Jvm.Cond.instanceMethod ({ cls := "com/example/branchwise/branchwise/dd/DiagramManager", name := "findOrAdd", desc := "(IIID)I" } : Jvm.MethodName)) ∈ tables_1 := List.mem_of_getElem? (i := 93) rfl
theorem m94 : (Jvm.Cond.privateMethod ({ cls := "com/example/branchwise/branchwise/dd/DiagramManager", name := "findOrAdd", desc := "(IIID)I" } : Jvm.MethodName)) ∈ tables_1 := List.mem_of_getElem? (i := 94) rfl
theorem m95 : (Jvm.Cond.code ({ cls := "com/example/branchwise/branchwise/dd/DiagramManager", name := "findOrAdd", desc := "(IIID)I" } : Jvm.MethodName) prog_11_method_42_code (12 : Nat) (Option.some Jvm.ClassFile.FieldType.int)) ∈ tables_1 := List.mem_of_getElem? (i := 95) rfl
theorem m96 : (Jvm.Cond.methodLink "com/example/branchwise/branchwise/dd/DiagramManager" (433 : Nat) ({ cls := "com/example/branchwise/branchwise/dd/DiagramManager", name := "hash", desc := "(IIIJ)I" } : Jvm.MethodName)) ∈ tables_1 := List.mem_of_getElem? (i := 96) rfl
theorem m97 : (Jvm.Cond.static ({ cls := "com/example/branchwise/branchwise/dd/DiagramManager", name := "hash", desc := "(IIIJ)I" } : Jvm.MethodName)) ∈ tables_1 := List.mem_of_getElem? (i := 97) rfl
theorem m98 : (Jvm.Cond.code ({ cls := "com/example/branchwise/branchwise/dd/DiagramManager", name := "hash", desc := "(IIIJ)I" } : Jvm.MethodName) prog_11_method_49_code (7 : Nat) (Option.some Jvm.ClassFile.FieldType.int)) ∈ tables_1 := List.mem_of_getElem? (i := 98) rfl
theorem m99 : (Jvm.Cond.constantLong "com/example/branchwise/branchwise/dd/DiagramManager" (463 : Nat) (-7046029254386353131 : Int64)) ∈ tables_1 := List.mem_of_getElem? (i := 99) rfl
theorem m100 : (Jvm.Cond.constantLong "com/example/branchwise/branchwise/dd/DiagramManager" (465 : Nat) (-4658895280553007687 : Int64)) ∈ tables_1 := List.mem_of_getElem? (i := 100) rfl
theorem m101 : (Jvm.Cond.constantLong "com/example/branchwise/branchwise/dd/DiagramManager" (467 : Nat) (-7723592293110705685 : Int64)) ∈ tables_1 := List.mem_of_getElem? (i := 101) rfl
theorem m102 : (Jvm.Cond.methodLink "com/example/branchwise/branchwise/dd/DiagramManager" (437 : Nat) ({ cls := "com/example/branchwise/branchwise/dd/DiagramManager", name := "addNode", desc := "(IIID)I" } : Jvm.MethodName)) ∈ tables_1 := List.mem_of_getElem? (i := 102) rfl
theorem m103 : (Jvm.Cond.instanceMethod ({ cls := "com/example/branchwise/branchwise/dd/DiagramManager", name := "addNode", desc := "(IIID)I" } : Jvm.MethodName)) ∈ tables_1 := List.mem_of_getElem? (i := 103) rfl
theorem m104 : (Jvm.Cond.privateMethod ({ cls := "com/example/branchwise/branchwise/dd/DiagramManager", name := "addNode", desc := "(IIID)I" } : Jvm.MethodName)) ∈ tables_1 := List.mem_of_getElem? (i := 104) rfl
theorem m105 : (Jvm.Cond.code ({ cls := "com/example/branchwise/branchwise/dd/DiagramManager", name := "addNode", desc := "(IIID)I" } : Jvm.MethodName) prog_11_method_43_code (8 : Nat) (Option.some Jvm.ClassFile.FieldType.int)) ∈ tables_1 := List.mem_of_getElem? (i := 105) rfl
theorem m106 : (Jvm.Cond.fieldLink "com/example/branchwise/branchwise/dd/DiagramManager" (216 : Nat) "com/example/branchwise/branchwise/dd/DiagramManager" "size" "I") ∈ tables_1 := List.mem_of_getElem? (i := 106) rfl
theorem m107 : (Jvm.Cond.lays "com/example/branchwise/branchwise/dd/DiagramManager" "com/example/branchwise/branchwise/dd/DiagramManager" "size" "I") ∈ tables_1 := List.mem_of_getElem? (i := 107) rfl
theorem m108 : (Jvm.Cond.fieldLink "com/example/branchwise/branchwise/dd/DiagramManager" (224 : Nat) "com/example/branchwise/branchwise/dd/DiagramManager" "freeCount" "I") ∈ tables_1 := List.mem_of_getElem? (i := 108) rfl
theorem m109 : (Jvm.Cond.lays "com/example/branchwise/branchwise/dd/DiagramManager" "com/example/branchwise/branchwise/dd/DiagramManager" "freeCount" "I") ∈ tables_1 := List.mem_of_getElem? (i := 109) rfl
theorem m110 : (Jvm.Cond.methodLink "com/example/branchwise/branchwise/dd/DiagramManager" (440 : Nat) ({ cls := "com/example/branchwise/branchwise/dd/DiagramManager", name := "insert", desc := "(I)V" } : Jvm.MethodName)) ∈ tables_1 := List.mem_of_getElem? (i := 110) rfl
theorem m111 : (Jvm.Cond.instanceMethod ({ cls := "com/example/branchwise/branchwise/dd/DiagramManager", name := "insert", desc := "(I)V" } : Jvm.MethodName)) ∈ tables_1 := List.mem_of_getElem? (i := 111) rfl
theorem m112 : (Jvm.Cond.privateMethod ({ cls := "com/example/branchwise/branchwise/dd/DiagramManager", name := "insert", desc := "(I)V" } : Jvm.MethodName)) ∈ tables_1 := List.mem_of_getElem? (i := 112) rfl
theorem m113 : (Jvm.Cond.code ({ cls := "com/example/branchwise/branchwise/dd/DiagramManager", name := "insert", desc := "(I)V" } : Jvm.MethodName) prog_11_method_45_code (4 : Nat) (Option.none : Option Jvm.ClassFile.FieldType)) ∈ tables_1 := List.mem_of_getElem? (i := 113) rfl
theorem m114 : (Jvm.Cond.methodLink "com/example/branchwise/branchwise/dd/DiagramManagerIsLeafPinLaw" (30 : Nat) ({ cls := "com/example/branchwise/branchwise/dd/DiagramManager", name := "range", desc := "(DD)I" } : Jvm.MethodName)) ∈ tables_1 := List.mem_of_getElem? (i := 114) rfl
theorem m115 : (Jvm.Cond.declares ({ cls := "com/example/branchwise/branchwise/dd/DiagramManager", name := "range", desc := "(DD)I" } : Jvm.MethodName)) ∈ tables_1 := List.mem_of_getElem? (i := 115) rfl
theorem m116 : (Jvm.Cond.instanceMethod ({ cls := "com/example/branchwise/branchwise/dd/DiagramManager", name := "range", desc := "(DD)I" } : Jvm.MethodName)) ∈ tables_1 := List.mem_of_getElem? (i := 116) rfl
theorem m117 : (Jvm.Cond.selects "com/example/branchwise/branchwise/dd/DiagramManager" ({ cls := "com/example/branchwise/branchwise/dd/DiagramManager", name := "range", desc := "(DD)I" } : Jvm.MethodName) ({ cls := "com/example/branchwise/branchwise/dd/DiagramManager", name := "range", desc := "(DD)I" } : Jvm.MethodName)) ∈ tables_1 := List.mem_of_getElem? (i := 117) rfl
theorem m118 : (Jvm.Cond.code ({ cls := "com/example/branchwise/branchwise/dd/DiagramManager", name := "range", desc := "(DD)I" } : Jvm.MethodName) prog_11_method_4_code (5 : Nat) (Option.some Jvm.ClassFile.FieldType.int)) ∈ tables_1 := List.mem_of_getElem? (i := 118) rfl
theorem m119 : (Jvm.Cond.methodLink "com/example/branchwise/branchwise/dd/DiagramManagerIsLeafPinLaw" (22 : Nat) ({ cls := "com/example/branchwise/branchwise/dd/DiagramManager", name := "indicator", desc := "(I)I" } : Jvm.MethodName)) ∈ tables_1 := List.mem_of_getElem? (i := 119) rfl
theorem m120 : (Jvm.Cond.declares ({ cls := "com/example/branchwise/branchwise/dd/DiagramManager", name := "indicator", desc := "(I)I" } : Jvm.MethodName)) ∈ tables_1 := List.mem_of_getElem? (i := 120) rfl
theorem m121 : (Jvm.Cond.instanceMethod ({ cls := "com/example/branchwise/branchwise/dd/DiagramManager", name := "indicator", desc := "(I)I" } : Jvm.MethodName)) ∈ tables_1 := List.mem_of_getElem? (i := 121) rfl
theorem m122 : (Jvm.Cond.selects "com/example/branchwise/branchwise/dd/DiagramManager" ({ cls := "com/example/branchwise/branchwise/dd/DiagramManager", name := "indicator", desc := "(I)I" } : Jvm.MethodName) ({ cls := "com/example/branchwise/branchwise/dd/DiagramManager", name := "indicator", desc := "(I)I" } : Jvm.MethodName)) ∈ tables_1 := List.mem_of_getElem? (i := 122) rfl
theorem m123 : (Jvm.Cond.code ({ cls := "com/example/branchwise/branchwise/dd/DiagramManager", name := "indicator", desc := "(I)I" } : Jvm.MethodName) prog_11_method_5_code (2 : Nat) (Option.some Jvm.ClassFile.FieldType.int)) ∈ tables_1 := List.mem_of_getElem? (i := 123) rfl
theorem m124 : (Jvm.Cond.methodLink "com/example/branchwise/branchwise/dd/DiagramManager" (76 : Nat) ({ cls := "com/example/branchwise/branchwise/dd/DiagramManager", name := "checkVariable", desc := "(I)V" } : Jvm.MethodName)) ∈ tables_1 := List.mem_of_getElem? (i := 124) rfl
theorem m125 : (Jvm.Cond.static ({ cls := "com/example/branchwise/branchwise/dd/DiagramManager", name := "checkVariable", desc := "(I)V" } : Jvm.MethodName)) ∈ tables_1 := List.mem_of_getElem? (i := 125) rfl
theorem m126 : (Jvm.Cond.code ({ cls := "com/example/branchwise/branchwise/dd/DiagramManager", name := "checkVariable", desc := "(I)V" } : Jvm.MethodName) prog_11_method_47_code (1 : Nat) (Option.none : Option Jvm.ClassFile.FieldType)) ∈ tables_1 := List.mem_of_getElem? (i := 126) rfl
theorem m127 : (Jvm.Cond.methodLink "com/example/branchwise/branchwise/dd/DiagramManager" (79 : Nat) ({ cls := "com/example/branchwise/branchwise/dd/DiagramManager", name := "constant", desc := "(D)I" } : Jvm.MethodName)) ∈ tables_1 := List.mem_of_getElem? (i := 127) rfl
theorem m128 : (Jvm.Cond.methodLink "com/example/branchwise/branchwise/dd/DiagramManager" (83 : Nat) ({ cls := "com/example/branchwise/branchwise/dd/DiagramManager", name := "node", desc := "(III)I" } : Jvm.MethodName)) ∈ tables_1 := List.mem_of_getElem? (i := 128) rfl
theorem m129 : (Jvm.Cond.instanceMethod ({ cls := "com/example/branchwise/branchwise/dd/DiagramManager", name := "node", desc := "(III)I" } : Jvm.MethodName)) ∈ tables_1 := List.mem_of_getElem? (i := 129) rfl
theorem m130 : (Jvm.Cond.privateMethod ({ cls := "com/example/branchwise/branchwise/dd/DiagramManager", name := "node", desc := "(III)I" } : Jvm.MethodName)) ∈ tables_1 := List.mem_of_getElem? (i := 130) rfl
theorem m131 : (Jvm.Cond.code ({ cls := "com/example/branchwise/branchwise/dd/DiagramManager", name := "node", desc := "(III)I" } : Jvm.MethodName) prog_11_method_41_code (4 : Nat) (Option.some Jvm.ClassFile.FieldType.int)) ∈ tables_1 := List.mem_of_getElem? (i := 131) rfl
theorem m132 : (Jvm.Cond.methodLink "com/example/branchwise/branchwise/dd/DiagramManagerIsLeafPinLaw" (34 : Nat) ({ cls := "com/example/branchwise/branchwise/dd/DiagramManager", name := "isLeaf", desc := "(I)Z" } : Jvm.MethodName)) ∈ tables_1 := List.mem_of_getElem? (i := 132) rfl
theorem m133 : (Jvm.Cond.declares ({ cls := "com/example/branchwise/branchwise/dd/DiagramManager", name := "isLeaf", desc := "(I)Z" } : Jvm.MethodName)) ∈ tables_1 := List.mem_of_getElem? (i := 133) rfl
theorem m134 : (Jvm.Cond.instanceMethod ({ cls := "com/example/branchwise/branchwise/dd/DiagramManager", name := "isLeaf", desc := "(I)Z" } : Jvm.MethodName)) ∈ tables_1 := List.mem_of_getElem? (i := 134) rfl
theorem m135 : (Jvm.Cond.selects "com/example/branchwise/branchwise/dd/DiagramManager" ({ cls := "com/example/branchwise/branchwise/dd/DiagramManager", name := "isLeaf", desc := "(I)Z" } : Jvm.MethodName) ({ cls := "com/example/branchwise/branchwise/dd/DiagramManager", name := "isLeaf", desc := "(I)Z" } : Jvm.MethodName)) ∈ tables_1 := List.mem_of_getElem? (i := 135) rfl
theorem m136 : (Jvm.Cond.code ({ cls := "com/example/branchwise/branchwise/dd/DiagramManager", name := "isLeaf", desc := "(I)Z" } : Jvm.MethodName) prog_11_method_30_code (2 : Nat) (Option.some Jvm.ClassFile.FieldType.boolean)) ∈ tables_1 := List.mem_of_getElem? (i := 136) rfl
theorem m137 : (Jvm.Cond.methodLink "com/example/branchwise/branchwise/dd/DiagramManagerIsLeafPinLaw" (38 : Nat) ({ cls := "com/example/branchwise/branchwise/dd/DiagramManager", name := "highOf", desc := "(I)I" } : Jvm.MethodName)) ∈ tables_1 := List.mem_of_getElem? (i := 137) rfl
theorem m138 : (Jvm.Cond.declares ({ cls := "com/example/branchwise/branchwise/dd/DiagramManager", name := "highOf", desc := "(I)I" } : Jvm.MethodName)) ∈ tables_1 := List.mem_of_getElem? (i := 138) rfl
theorem m139 : (Jvm.Cond.instanceMethod ({ cls := "com/example/branchwise/branchwise/dd/DiagramManager", name := "highOf", desc := "(I)I" } : Jvm.MethodName)) ∈ tables_1 := List.mem_of_getElem? (i := 139) rfl
theorem m140 : (Jvm.Cond.selects "com/example/branchwise/branchwise/dd/DiagramManager" ({ cls := "com/example/branchwise/branchwise/dd/DiagramManager", name := "highOf", desc := "(I)I" } : Jvm.MethodName) ({ cls := "com/example/branchwise/branchwise/dd/DiagramManager", name := "highOf", desc := "(I)I" } : Jvm.MethodName)) ∈ tables_1 := List.mem_of_getElem? (i := 140) rfl
theorem m141 : (Jvm.Cond.code ({ cls := "com/example/branchwise/branchwise/dd/DiagramManager", name := "highOf", desc := "(I)I" } : Jvm.MethodName) prog_11_method_32_code (2 : Nat) (Option.some Jvm.ClassFile.FieldType.int)) ∈ tables_1 := List.mem_of_getElem? (i := 141) rfl
theorem m142 : (Jvm.Cond.methodLink "com/example/branchwise/branchwise/dd/DiagramManagerIsLeafPinLaw" (41 : Nat) ({ cls := "com/example/branchwise/branchwise/dd/DiagramManager", name := "lowOf", desc := "(I)I" } : Jvm.MethodName)) ∈ tables_1 := List.mem_of_getElem? (i := 142) rfl
theorem m143 : (Jvm.Cond.declares ({ cls := "com/example/branchwise/branchwise/dd/DiagramManager", name := "lowOf", desc := "(I)I" } : Jvm.MethodName)) ∈ tables_1 := List.mem_of_getElem? (i := 143) rfl
theorem m144 : (Jvm.Cond.instanceMethod ({ cls := "com/example/branchwise/branchwise/dd/DiagramManager", name := "lowOf", desc := "(I)I" } : Jvm.MethodName)) ∈ tables_1 := List.mem_of_getElem? (i := 144) rfl
theorem m145 : (Jvm.Cond.selects "com/example/branchwise/branchwise/dd/DiagramManager" ({ cls := "com/example/branchwise/branchwise/dd/DiagramManager", name := "lowOf", desc := "(I)I" } : Jvm.MethodName) ({ cls := "com/example/branchwise/branchwise/dd/DiagramManager", name := "lowOf", desc := "(I)I" } : Jvm.MethodName)) ∈ tables_1 := List.mem_of_getElem? (i := 145) rfl
theorem m146 : (Jvm.Cond.code ({ cls := "com/example/branchwise/branchwise/dd/DiagramManager", name := "lowOf", desc := "(I)I" } : Jvm.MethodName) prog_11_method_33_code (2 : Nat) (Option.some Jvm.ClassFile.FieldType.int)) ∈ tables_1 := List.mem_of_getElem? (i := 146) rfl
theorem pd_0 : parseMethodDescriptor "([II)V" = some ⟨[(.array .int), .int], none⟩ := by decide +kernel
theorem pd_1 : parseMethodDescriptor "(II)I" = some ⟨[.int, .int], some .int⟩ := by decide +kernel
theorem pd_2 : parseMethodDescriptor "(I)[I" = some ⟨[.int], some (.array .int)⟩ := by decide +kernel
theorem pd_3 : parseMethodDescriptor "(I)V" = some ⟨[.int], none⟩ := by decide +kernel
theorem pd_4 : parseMethodDescriptor "(D)Z" = some ⟨[.double], some .boolean⟩ := by decide +kernel
theorem pd_5 : parseMethodDescriptor "(D)J" = some ⟨[.double], some .long⟩ := by decide +kernel
theorem pd_6 : parseMethodDescriptor "(IIIJ)I" = some ⟨[.int, .int, .int, .long], some .int⟩ := by decide +kernel
theorem pd_7 : parseMethodDescriptor "(IIID)I" = some ⟨[.int, .int, .int, .double], some .int⟩ := by decide +kernel
theorem pd_8 : parseMethodDescriptor "(DD)I" = some ⟨[.double, .double], some .int⟩ := by decide +kernel
theorem pd_9 : parseMethodDescriptor "(D)I" = some ⟨[.double], some .int⟩ := by decide +kernel
theorem pd_10 : parseMethodDescriptor "(III)I" = some ⟨[.int, .int, .int], some .int⟩ := by decide +kernel
theorem pd_11 : parseMethodDescriptor "(I)Z" = some ⟨[.int], some .boolean⟩ := by decide +kernel
theorem pd_12 : parseMethodDescriptor "(I)I" = some ⟨[.int], some .int⟩ := by decide +kernel
theorem pn_0 : plainName "java/util/Arrays" = true := by first | (simp [plainName, overriddenIn]; done) | decide +kernel
theorem pn_1 : plainName "com/example/branchwise/branchwise/dd/DiagramManager" = true := by first | (simp [plainName, overriddenIn]; done) | decide +kernel
theorem pn_2 : plainName "com/example/branchwise/branchwise/dd/DiagramManager$ComputedTable" = true := by first | (simp [plainName, overriddenIn]; done) | decide +kernel
theorem pn_3 : plainName "java/lang/Double" = true := by first | (simp [plainName, overriddenIn]; done) | decide +kernel
theorem pn_4 : plainName "com/example/branchwise/branchwise/dd/DiagramManagerIsLeafPinLaw" = true := by first | (simp [plainName, overriddenIn]; done) | decide +kernel
def own_li (n : Nat) (f : Nat → Int32) : List Value := (List.range n).map fun j => Value.int (f j)
def own_ld (n : Nat) (f : Nat → UInt64) : List Value := (List.range n).map fun j => Value.double (f j)
def own_set {α : Type} (f : Nat → α) (i : Nat) (z : α) : Nat → α := fun j => if j = i then z else f j
theorem own_set_at {α : Type} (f : Nat → α) (i : Nat) (z : α) : own_set f i z i = z := by simp [own_set]
theorem own_set_ne {α : Type} (f : Nat → α) {i j : Nat} (z : α) (h : j ≠ i) : own_set f i z j = f j := by simp [own_set, h]
theorem own_li_len (n : Nat) (f : Nat → Int32) : (own_li n f).length = n := by simp [own_li]
theorem own_ld_len (n : Nat) (f : Nat → UInt64) : (own_ld n f).length = n := by simp [own_ld]
theorem own_li_at {n : Nat} (f : Nat → Int32) {j : Nat} (h : j < n) : (own_li n f)[j]? = some (.int (f j)) := by simp [own_li, h]
theorem own_ld_at {n : Nat} (f : Nat → UInt64) {j : Nat} (h : j < n) : (own_ld n f)[j]? = some (.double (f j)) := by simp [own_ld, h]
theorem own_li_set (n : Nat) (f : Nat → Int32) (i : Nat) (z : Int32) : (own_li n f).set i (.int z) = own_li n (own_set f i z) := by
  apply List.ext_getElem?
  intro j
  rw [List.getElem?_set, own_li_len]
  by_cases hj : j < n
  · rw [own_li_at _ hj, own_li_at _ hj]
    by_cases hij : i = j
    · subst hij; simp [own_set, hj]
    · rw [if_neg hij]; simp [own_set, Ne.symm hij]
  · have e1 : ∀ g : Nat → Int32, (own_li n g)[j]? = none := fun g => List.getElem?_eq_none (by rw [own_li_len]; omega)
    rw [e1, e1]; split
    · rw [if_neg (by omega)]
    · rfl
theorem own_ld_set (n : Nat) (f : Nat → UInt64) (i : Nat) (z : UInt64) : (own_ld n f).set i (.double z) = own_ld n (own_set f i z) := by
  apply List.ext_getElem?
  intro j
  rw [List.getElem?_set, own_ld_len]
  by_cases hj : j < n
  · rw [own_ld_at _ hj, own_ld_at _ hj]
    by_cases hij : i = j
    · subst hij; simp [own_set, hj]
    · rw [if_neg hij]; simp [own_set, Ne.symm hij]
  · have e1 : ∀ g : Nat → UInt64, (own_ld n g)[j]? = none := fun g => List.getElem?_eq_none (by rw [own_ld_len]; omega)
    rw [e1, e1]; split
    · rw [if_neg (by omega)]
    · rfl
theorem own_fun {α β : Type} (p : α → β) (f : Nat → α) (i : Nat) (z : α) : own_set (fun j => p (f j)) i (p z) = fun j => p (own_set f i z j) := by
  funext j; unfold own_set; split <;> rfl
theorem own_small {j : Nat} (h : j < 2 ^ 31) : (Int32.ofNat j).toInt = (j : Int) := Int32.toInt_ofNat_small h
theorem own_succ (j : Nat) : Int32.ofNat j + (1 : Int32) = Int32.ofNat (j + 1) := by rw [Int32.ofNat_add]; rfl
theorem own_ltN {i j : Nat} (hi : i < 2 ^ 31) (hj : j < 2 ^ 31) : Int32.ofNat i < Int32.ofNat j ↔ i < j := by
  rw [Int32.lt_iff_toInt_lt, own_small hi, own_small hj]; omega
theorem own_inj {i j : Nat} (hi : i < 2 ^ 31) (hj : j < 2 ^ 31) : Int32.ofNat i = Int32.ofNat j ↔ i = j := by
  rw [← Int32.toInt_inj, own_small hi, own_small hj]; omega
theorem own_ofN {y : Int32} {k : Nat} (h : y.toInt = (k : Int)) : y = Int32.ofNat k := by
  have hk : k < 2 ^ 31 := by have := y.toInt_lt; omega
  exact Int32.toInt_inj.mp (h.trans (own_small hk).symm)
theorem own_mask (y : Int32) : ∃ s : Nat, s < 2048 ∧ y &&& (2047 : Int32) = Int32.ofNat s := by
  have e1 : (y &&& (2047 : Int32)).toInt = y.toInt % 2 ^ 11 := Jvm.Kit.i32_mask y 2047 (k := 11) (by decide) (by decide)
  exact ⟨(y.toInt % 2 ^ 11).toNat, by omega, own_ofN (by omega)⟩
theorem own_next {s : Nat} (hs : s < 2048) : (Int32.ofNat s + (1 : Int32)) &&& (2047 : Int32) = Int32.ofNat ((s + 1) % 2048) := by
  rw [own_succ]
  have e1 : (Int32.ofNat (s + 1) &&& (2047 : Int32)).toInt = (Int32.ofNat (s + 1)).toInt % 2 ^ 11 := Jvm.Kit.i32_mask _ 2047 (k := 11) (by decide) (by decide)
  rw [own_small (by omega)] at e1
  exact own_ofN (by omega)
/-- among more places than the list has, one isn't in it -/
theorem own_pigeon : ∀ (n : Nat) (f : Nat → Nat) (ps : List Nat), ps.length ≤ n → (∀ i j, i ≤ n → j ≤ n → f i = f j → i = j) → ∃ m, m ≤ n ∧ f m ∉ ps
  | 0, f, ps, hl, _ => ⟨0, Nat.le_refl _, by rw [List.length_eq_zero_iff.mp (Nat.le_zero.mp hl)]; exact List.not_mem_nil⟩
  | n + 1, f, ps, hl, hi => by
    by_cases h : f (n + 1) ∈ ps
    · obtain ⟨m, hm, hn⟩ := own_pigeon n f (ps.erase (f (n + 1))) (by rw [List.length_erase_of_mem h]; omega) (fun i j a b c => hi i j (by omega) (by omega) c)
      refine ⟨m, by omega, fun q => hn ?_⟩
      have hne : f m ≠ f (n + 1) := fun e => by have := hi m (n + 1) (by omega) (Nat.le_refl _) e; omega
      exact (List.mem_erase_of_ne hne).mpr q
    · exact ⟨n + 1, Nat.le_refl _, h⟩
theorem own_free {s k : Nat} {ps : List Nat} (hs : s < 2048) (hl : ps.length ≤ k) (hk : k < 2000) : ∃ m, (s + m) % 2048 ∉ ps := by
  obtain ⟨m, -, hm⟩ := own_pigeon k (fun m => (s + m) % 2048) ps hl (fun i j a b c => by omega)
  exact ⟨m, hm⟩
theorem own_nn0 : Jvm.Free.Fl.NoNaN64 FP.dconst0 := by unfold Jvm.Free.Fl.NoNaN64; decide +kernel
theorem own_nnz : Jvm.Free.Fl.NoNaN64 (FP.dadd FP.dconst0 FP.dconst0) := by unfold Jvm.Free.Fl.NoNaN64; decide +kernel
theorem own_nno : Jvm.Free.Fl.NoNaN64 (FP.dadd FP.dconst1 FP.dconst0) := by unfold Jvm.Free.Fl.NoNaN64; decide +kernel
theorem own_zo : FP.dadd FP.dconst1 FP.dconst0 ≠ FP.dadd FP.dconst0 FP.dconst0 := by decide +kernel
theorem own_c0 : FP.dconst0 = FP.l2d 0 := by decide +kernel
theorem own_c1 : FP.dconst1 = FP.l2d 1 := by decide +kernel
theorem own_b53 (y : Int32) : B53 y.toInt64 := by
  have h1 := y.toInt_lt; have h2 := y.le_toInt
  unfold B53; rw [Int32.toInt_toInt64]; omega
theorem own_nni (y : Int32) : Jvm.Free.Fl.NoNaN64 (FP.dadd (FP.i2d y) FP.dconst0) := by
  rw [i2d_w, own_c0, dadd_w (own_b53 y) (by unfold B53; decide)]
  exact nn_w rfl
theorem own_fin (y : Int32) : Jvm.Free.Fl.Fin64 (FP.i2d y) := by rw [i2d_w]; exact Jvm.Free.Fl.l2d_fin _
theorem own_fin0 : Jvm.Free.Fl.Fin64 FP.dconst0 := by rw [own_c0]; exact Jvm.Free.Fl.l2d_fin _
theorem own_fin1 : Jvm.Free.Fl.Fin64 FP.dconst1 := by rw [own_c1]; exact Jvm.Free.Fl.l2d_fin _
theorem own_cmp {y z : Int32} (h : ¬ z < y) : ¬ 0 < cmpValue (FP.dcmp (FP.i2d y) (FP.i2d z)) .l := by
  rw [i2d_w, i2d_w, dcmpV_w (own_b53 y) (own_b53 z), lw_gt, Int64.lt_iff_toInt_lt, Int32.toInt_toInt64, Int32.toInt_toInt64, ← Int32.lt_iff_toInt_lt]; exact h
theorem own_bits {y z : UInt64} (h : y.toInt64 = z.toInt64) : y = z := by
  have := congrArg Int64.toUInt64 h
  simpa using this
/-- a DiagramManager with k nodes (variable, high, low, value), its table t, of which the places ps alone may be taken -/
def DM (Z : State) (n0 : Nat) (h : Heap) (a : Addr) (k : Nat) (N : Nat → Int32 × Int32 × Int32 × UInt64) (t : Nat → Int32) (ps : List Nat) : Prop := ∃ av ah al ad au : Addr, Exa Z h a "com/example/branchwise/branchwise/dd/DiagramManager" ∧ Fld Z h a "com/example/branchwise/branchwise/dd/DiagramManager" "variables" "[I" (.ref av) ∧ Fld Z h a "com/example/branchwise/branchwise/dd/DiagramManager" "highs" "[I" (.ref ah) ∧ Fld Z h a "com/example/branchwise/branchwise/dd/DiagramManager" "lows" "[I" (.ref al) ∧ Fld Z h a "com/example/branchwise/branchwise/dd/DiagramManager" "values" "[D" (.ref ad) ∧ Fld Z h a "com/example/branchwise/branchwise/dd/DiagramManager" "uniqueTable" "[I" (.ref au) ∧ Fld Z h a "com/example/branchwise/branchwise/dd/DiagramManager" "size" "I" (.int (Int32.ofNat k)) ∧ Fld Z h a "com/example/branchwise/branchwise/dd/DiagramManager" "freeCount" "I" (.int (0 : Int32)) ∧ Fld Z h a "com/example/branchwise/branchwise/dd/DiagramManager" "nodeLimit" "I" (.int (2147483647 : Int32)) ∧ Arx Z h av .int (own_li 1024 (fun j => (N j).1)) ∧ Arx Z h ah .int (own_li 1024 (fun j => (N j).2.1)) ∧ Arx Z h al .int (own_li 1024 (fun j => (N j).2.2.1)) ∧ Arx Z h ad .double (own_ld 1024 (fun j => (N j).2.2.2)) ∧ Arx Z h au .int (own_li 2048 t) ∧ n0 ≤ a ∧ n0 ≤ av ∧ n0 ≤ ah ∧ n0 ≤ al ∧ n0 ≤ ad ∧ n0 ≤ au ∧ a ≠ av ∧ a ≠ ah ∧ a ≠ al ∧ a ≠ ad ∧ a ≠ au ∧ av ≠ ah ∧ av ≠ al ∧ av ≠ ad ∧ av ≠ au ∧ ah ≠ al ∧ ah ≠ ad ∧ ah ≠ au ∧ al ≠ ad ∧ al ≠ au ∧ ad ≠ au ∧ (∀ j, j < k → Jvm.Free.Fl.NoNaN64 (N j).2.2.2) ∧ (∀ j, j < 2048 → t j ≠ -1 → ∃ i, i < k ∧ t j = Int32.ofNat i) ∧ (∀ j, j < 2048 → t j ≠ -1 → j ∈ ps)
theorem d1_0 : decode jdk_29_method_69_code 0 = .ok (.iload_n 0, 1) := by decide +kernel
theorem d1_1 : decode jdk_29_method_69_code 1 = .ok (.iload_n 1, 1) := by decide +kernel
theorem d1_2 : decode jdk_29_method_69_code 2 = .ok (.if_icmp .gt 7, 3) := by decide +kernel
theorem d1_5 : decode jdk_29_method_69_code 5 = .ok (.iload_n 0, 1) := by decide +kernel
theorem d1_6 : decode jdk_29_method_69_code 6 = .ok (.goto 4, 3) := by decide +kernel
theorem d1_9 : decode jdk_29_method_69_code 9 = .ok (.iload_n 1, 1) := by decide +kernel
theorem d1_10 : decode jdk_29_method_69_code 10 = .ok (.ireturn, 1) := by decide +kernel
theorem ef_1 (m : MethodId) (a : Int32) (b : Int32) : entryFrame m #[(.int a), (.int b)] 2 = mkF m 0 #[.val (.int a), .val (.int b)] [] := by first | (simp [entryFrame, mkF, argsToLocals, Value.category]; done) | rfl
def R1 : Room := ({ frames := 0, cells := 0, slots := 0, locals := 0 } : Room)
set_option maxRecDepth 65536 in
set_option maxHeartbeats 40000000 in
theorem rm1 (l : Launch) (Z : State) (a0 : Array Value) (hw : ∀ d ∈ tables_1, d.before a0 Z = true) (a : Int32) (b : Int32) (h0 : Heap) (n0 : Nat) (hO : Old Z n0 h0)  :
    Con l Z (⟨"java/lang/Math", "min", "(II)I"⟩ : MethodName) jdk_29_method_69_code 2 (some .int) [] R1 R1.cells R1.slots #[(.int a), (.int b)] h0 (fun v h L => ∃ z : Int32, v = some (.int z) ∧ (¬ a < z ∧ ¬ b < z ∧ (z = a ∨ z = b)) ∧ h0 = h ∧ L = []) := by
  refine Con.intro (n0 := n0) (Jvm.Free.JP.mathPlain rfl (by decide +kernel)) (fun m => ef_1 m a b) hO ?_
  intro p e s m below meth c T hs0 X0
  refine g_iloadN X0 d1_0 (pc' := 1) rfl rfl ?_
  refine g_iloadN X0 d1_1 (pc' := 2) rfl rfl ?_
  refine g_icmp_gt X0 d1_2 (pt := 9) (by decide) (pc' := 5) rfl (fun hc2 => ?_) (fun hc2 => ?_)
  · refine g_iloadN X0 d1_9 (pc' := 10) rfl rfl ?_
    exact g_retI X0 rfl d1_10 (by decide) (by decide) ⟨_, rfl, ⟨(fun q => Int32.lt_asymm hc2 q), (fun q => Int32.lt_irrefl q), Or.inr rfl⟩, rfl, rfl⟩
  · refine g_iloadN X0 d1_5 (pc' := 6) rfl rfl ?_
    refine g_goto X0 d1_6 (pt := 10) (by decide) ?_
    exact g_retI X0 rfl d1_10 (by decide) (by decide) ⟨_, rfl, ⟨(fun q => Int32.lt_irrefl q), hc2, Or.inl rfl⟩, rfl, rfl⟩

theorem d2_0 : decode jdk_29_method_65_code 0 = .ok (.iload_n 0, 1) := by decide +kernel
theorem d2_1 : decode jdk_29_method_65_code 1 = .ok (.iload_n 1, 1) := by decide +kernel
theorem d2_2 : decode jdk_29_method_65_code 2 = .ok (.if_icmp .lt 7, 3) := by decide +kernel
theorem d2_5 : decode jdk_29_method_65_code 5 = .ok (.iload_n 0, 1) := by decide +kernel
theorem d2_6 : decode jdk_29_method_65_code 6 = .ok (.goto 4, 3) := by decide +kernel
theorem d2_9 : decode jdk_29_method_65_code 9 = .ok (.iload_n 1, 1) := by decide +kernel
theorem d2_10 : decode jdk_29_method_65_code 10 = .ok (.ireturn, 1) := by decide +kernel
theorem ef_2 (m : MethodId) (a : Int32) (b : Int32) : entryFrame m #[(.int a), (.int b)] 2 = mkF m 0 #[.val (.int a), .val (.int b)] [] := by first | (simp [entryFrame, mkF, argsToLocals, Value.category]; done) | rfl
def R2 : Room := ({ frames := 0, cells := 0, slots := 0, locals := 0 } : Room)
set_option maxRecDepth 65536 in
set_option maxHeartbeats 40000000 in
theorem rm2 (l : Launch) (Z : State) (a0 : Array Value) (hw : ∀ d ∈ tables_1, d.before a0 Z = true) (a : Int32) (b : Int32) (h0 : Heap) (n0 : Nat) (hO : Old Z n0 h0)  :
    Con l Z (⟨"java/lang/Math", "max", "(II)I"⟩ : MethodName) jdk_29_method_65_code 2 (some .int) [] R2 R2.cells R2.slots #[(.int a), (.int b)] h0 (fun v h L => ∃ z : Int32, v = some (.int z) ∧ (¬ z < a ∧ ¬ z < b) ∧ h0 = h ∧ L = []) := by
  refine Con.intro (n0 := n0) (Jvm.Free.JP.mathPlain rfl (by decide +kernel)) (fun m => ef_2 m a b) hO ?_
  intro p e s m below meth c T hs0 X0
  refine g_iloadN X0 d2_0 (pc' := 1) rfl rfl ?_
  refine g_iloadN X0 d2_1 (pc' := 2) rfl rfl ?_
  refine g_icmp_lt X0 d2_2 (pt := 9) (by decide) (pc' := 5) rfl (fun hc2 => ?_) (fun hc2 => ?_)
  · refine g_iloadN X0 d2_9 (pc' := 10) rfl rfl ?_
    exact g_retI X0 rfl d2_10 (by decide) (by decide) ⟨_, rfl, ⟨(fun q => Int32.lt_asymm hc2 q), (fun q => Int32.lt_irrefl q)⟩, rfl, rfl⟩
  · refine g_iloadN X0 d2_5 (pc' := 6) rfl rfl ?_
    refine g_goto X0 d2_6 (pt := 10) (by decide) ?_
    exact g_retI X0 rfl d2_10 (by decide) (by decide) ⟨_, rfl, ⟨(fun q => Int32.lt_irrefl q), hc2⟩, rfl, rfl⟩

theorem own_same {n : Nat} {g : Nat → Int32} {v : Int32} (h : ∀ i, i < n → g i = v) : own_li n g = own_li n (fun _ => v) := by
  unfold own_li; apply List.map_congr_left; intro i hi; rw [h i (List.mem_range.mp hi)]
theorem d6_0 : decode jdk_65_method_103_code 0 = .ok (.iconst 0, 1) := by decide +kernel
theorem d6_1 : decode jdk_65_method_103_code 1 = .ok (.istore_n 2, 1) := by decide +kernel
theorem d6_2 : decode jdk_65_method_103_code 2 = .ok (.aload_n 0, 1) := by decide +kernel
theorem d6_3 : decode jdk_65_method_103_code 3 = .ok (.arraylength, 1) := by decide +kernel
theorem d6_4 : decode jdk_65_method_103_code 4 = .ok (.istore_n 3, 1) := by decide +kernel
theorem d6_5 : decode jdk_65_method_103_code 5 = .ok (.iload_n 2, 1) := by decide +kernel
theorem d6_6 : decode jdk_65_method_103_code 6 = .ok (.iload_n 3, 1) := by decide +kernel
theorem d6_7 : decode jdk_65_method_103_code 7 = .ok (.if_icmp .ge 13, 3) := by decide +kernel
theorem d6_10 : decode jdk_65_method_103_code 10 = .ok (.aload_n 0, 1) := by decide +kernel
theorem d6_11 : decode jdk_65_method_103_code 11 = .ok (.iload_n 2, 1) := by decide +kernel
theorem d6_12 : decode jdk_65_method_103_code 12 = .ok (.iload_n 1, 1) := by decide +kernel
theorem d6_13 : decode jdk_65_method_103_code 13 = .ok (.iastore, 1) := by decide +kernel
theorem d6_14 : decode jdk_65_method_103_code 14 = .ok (.iinc 2 1, 3) := by decide +kernel
theorem d6_17 : decode jdk_65_method_103_code 17 = .ok (.goto (-12), 3) := by decide +kernel
theorem d6_20 : decode jdk_65_method_103_code 20 = .ok (.return_, 1) := by decide +kernel
theorem ef_6 (m : MethodId) (a : Addr) (v : Int32) : entryFrame m #[(.ref a), (.int v)] 4 = mkF m 0 #[.val (.ref a), .val (.int v), .unset, .unset] [] := by first | (simp [entryFrame, mkF, argsToLocals, Value.category]; done) | rfl
def R6 : Room := ({ frames := 0, cells := 0, slots := 0, locals := 0 } : Room)
set_option maxRecDepth 65536 in
set_option maxHeartbeats 40000000 in
theorem rm6 (l : Launch) (Z : State) (a0 : Array Value) (hw : ∀ d ∈ tables_1, d.before a0 Z = true) (a : Addr) (v : Int32) (h0 : Heap) (n0 : Nat) (hO : Old Z n0 h0) (n : Nat) (f : Nat → Int32) (A_a : Arx Z h0 a .int (own_li n f)) (hn : n < 2 ^ 31) (ga : n0 ≤ a) :
    Con l Z (⟨"java/util/Arrays", "fill", "([II)V"⟩ : MethodName) jdk_65_method_103_code 4 none [] R6 R6.cells R6.slots #[(.ref a), (.int v)] h0 (fun v' h L => v' = none ∧ Fr n0 L ∧ Keep h0 h [a] ∧ Arx Z h a .int (own_li n (fun _ => v))) := by
  refine Con.intro (n0 := n0) (plainFor_of_name pn_0) (fun m => ef_6 m a v) hO ?_
  intro p e s m below meth c T hs0 X0
  have loop : ∀ (r j : Nat) (T : State) (locs : List Loc) (h : Heap) (g : Nat → Int32), j + r = n → St Z n0 p l e R6 s m #[(.ref a), (.int v)] below meth c ("java/util/Arrays") ("fill") jdk_65_method_103_code 4 none T locs 0 0 h → Keep h0 h [a] → Arx Z h a .int (own_li n g) → (∀ i, i < j → g i = v) → Go p e below (Kq s R6.cells R6.slots (fun v' h L => v' = none ∧ Fr n0 L ∧ Keep h0 h [a] ∧ Arx Z h a .int (own_li n (fun _ => v)))) (T.setTop (mkF m 5 #[.val (.ref a), .val (.int v), .val (.int (Int32.ofNat j)), .val (.int (Int32.ofNat n))] [])) := by
    intro r
    induction r with
    | zero =>
      intro j T locs h g hj X K A hg
      obtain rfl : j = n := by omega
      refine g_iloadN X d6_5 (pc' := 6) rfl rfl ?_
      refine g_iloadN X d6_6 (pc' := 7) rfl rfl ?_
      refine g_icmp_ge_t X d6_7 (pt := 20) (by decide) (fun q => Int32.lt_irrefl q) ?_
      exact g_ret X rfl d6_20 (by decide) (by decide) ⟨rfl, X.fr, K, (own_same hg) ▸ A⟩
    | succ r ih =>
      intro j T locs h g hj X K A hg
      refine g_iloadN X d6_5 (pc' := 6) rfl rfl ?_
      refine g_iloadN X d6_6 (pc' := 7) rfl rfl ?_
      refine g_icmp_ge_f X d6_7 (pc' := 10) rfl ((own_ltN (by omega) (by omega)).mpr (by omega)) ?_
      refine g_aloadN X d6_10 (pc' := 11) rfl rfl rfl ?_
      refine g_iloadN X d6_11 (pc' := 12) rfl rfl ?_
      refine g_iloadN X d6_12 (pc' := 13) rfl rfl ?_
      refine g_iastore X (i := j) A (own_small (by omega)) (by rw [own_li_len]; omega) ga d6_13 (pc' := 14) rfl (fun T1 h1 X1 W1 A1 => ?_)
      rw [own_li_set] at A1
      refine g_iinc X1 d6_14 (pc' := 17) rfl rfl (L' := #[.val (.ref a), .val (.int v), .val (.int ((Int32.ofNat j) + (1 : Int32))), .val (.int (Int32.ofNat n))]) rfl ?_
      refine g_goto X1 d6_17 (pt := 5) (by decide) ?_
      rw [own_succ]
      exact ih (j + 1) _ _ _ _ (by omega) X1 (K.wr W1 (Or.inl (by simp))) A1 (fun i hi => by by_cases q : i = j; rw [q, own_set_at]; rw [own_set_ne _ _ q]; exact hg i (by omega))
  refine g_iconst X0 d6_0 (pc' := 1) rfl (v := (0 : Int32)) rfl ?_
  refine g_istoreN X0 d6_1 (pc' := 2) rfl (L' := #[.val (.ref a), .val (.int v), .val (.int (0 : Int32)), .unset]) rfl ?_
  refine g_aloadN X0 d6_2 (pc' := 3) rfl rfl rfl ?_
  refine g_arraylength X0 (n := (Int32.ofNat n)) A_a (by rw [own_li_len]) d6_3 (pc' := 4) rfl ?_
  refine g_istoreN X0 d6_4 (pc' := 5) rfl (L' := #[.val (.ref a), .val (.int v), .val (.int (0 : Int32)), .val (.int (Int32.ofNat n))]) rfl ?_
  exact loop n 0 _ _ _ f (by omega) X0 (Keep.refl _ _) A_a (fun i hi => absurd hi (Nat.not_lt_zero i))

theorem own_pos {n : Nat} (h : n < 2 ^ 31) : ¬ Int32.ofNat n < 0 := by
  rw [Int32.lt_iff_toInt_lt, own_small h]; have : (0 : Int32).toInt = 0 := rfl
  omega
theorem own_clamp {n : Nat} (h : n < 2 ^ 31) : (Int32.ofNat n).toNatClampNeg = n := by simp only [Int32.toNatClampNeg, own_small h]; omega
theorem own_rep {n : Nat} (h : n < 2 ^ 31) : List.replicate (Int32.ofNat n).toNatClampNeg (Value.int (0 : Int32)) = own_li n (fun _ => (0 : Int32)) := by
  rw [own_clamp h]; unfold own_li; rw [List.map_const', List.length_range]
theorem d5_0 : decode prog_11_method_48_code 0 = .ok (.iload_n 0, 1) := by decide +kernel
theorem d5_1 : decode prog_11_method_48_code 1 = .ok (.newarray .int, 2) := by decide +kernel
theorem d5_3 : decode prog_11_method_48_code 3 = .ok (.astore_n 1, 1) := by decide +kernel
theorem d5_4 : decode prog_11_method_48_code 4 = .ok (.aload_n 1, 1) := by decide +kernel
theorem d5_5 : decode prog_11_method_48_code 5 = .ok (.iconst (-1), 1) := by decide +kernel
theorem d5_6 : decode prog_11_method_48_code 6 = .ok (.invokestatic 457, 3) := by decide +kernel
theorem d5_9 : decode prog_11_method_48_code 9 = .ok (.aload_n 1, 1) := by decide +kernel
theorem d5_10 : decode prog_11_method_48_code 10 = .ok (.areturn, 1) := by decide +kernel
theorem ef_5 (m : MethodId) (n : Nat) : entryFrame m #[(.int (Int32.ofNat n))] 2 = mkF m 0 #[.val (.int (Int32.ofNat n)), .unset] [] := by first | (simp [entryFrame, mkF, argsToLocals, Value.category]; done) | rfl
def R5 : Room := ({ frames := 1, cells := 1, slots := 2048, locals := 15 } : Room)
set_option maxRecDepth 65536 in
set_option maxHeartbeats 40000000 in
theorem rm5 (l : Launch) (Z : State) (a0 : Array Value) (hw : ∀ d ∈ tables_1, d.before a0 Z = true) (n : Nat) (h0 : Heap) (n0 : Nat) (hO : Old Z n0 h0) (hn : n ≤ 2048) :
    Con l Z (⟨"com/example/branchwise/branchwise/dd/DiagramManager", "emptyTable", "(I)[I"⟩ : MethodName) prog_11_method_48_code 2 (some (.array .int)) [] R5 R5.cells R5.slots #[(.int (Int32.ofNat n))] h0 (fun v h L => ∃ b : Addr, v = some (.ref b) ∧ Fr n0 L ∧ Keep h0 h [] ∧ h0.size ≤ b ∧ Arx Z h b .int (own_li n (fun _ => (-1 : Int32)))) := by
  refine Con.intro (n0 := n0) (plainFor_of_name pn_1) (fun m => ef_5 m n) hO ?_
  intro p e s m below meth c T hs0 X0
  refine g_iloadN X0 d5_0 (pc' := 1) rfl rfl ?_
  refine g_newarray X0 (aty := .int) (cap := 2048) (vs := (own_li n (fun _ => (0 : Int32)))) (hw _ m17) (own_pos (by omega)) (by rw [own_clamp (by omega)]; exact hn) (own_rep (by omega)) (by decide) d5_1 (pc' := 3) rfl (by decide) (by decide) (fun T2 h2 b2 X2 g2 E2 A2 l2 => ?_)
  refine g_astoreN X2 d5_3 (pc' := 4) rfl rfl (L' := #[.val (.int (Int32.ofNat n)), .val (.ref b2)]) rfl ?_
  refine g_aloadN X2 d5_4 (pc' := 5) rfl rfl rfl ?_
  refine g_iconst X2 d5_5 (pc' := 6) rfl (v := (-1 : Int32)) rfl ?_
  refine g_callS X2 (y := (⟨"java/util/Arrays", "fill", "([II)V"⟩ : MethodName)) [(.ref b2), (.int (-1 : Int32))] (hw _ m32) (hw _ m33) (hw _ m34) (hw _ m35) (hw _ m34) (rm6 l Z a0 hw b2 (-1 : Int32) h2 n0 X2.old n (fun _ => (0 : Int32)) A2 (by omega) l2) (by decide) (by decide) (by decide) (by decide) (by decide) rfl pd_0 rfl (rest := []) rfl (W := 0) rfl d5_6 (pc' := 9) rfl ?_
  rintro _ T3 h3 L3 Y3 ⟨rfl, N3, K3, A3x⟩
  have X3 := Y3 (X2.old.keep K3 (allS l2 all0)) N3
  show Go p e below _ (State.setTop _ (mkF m 9 #[.val (.int (Int32.ofNat n)), .val (.ref b2)] []))
  refine g_aloadN X3 d5_9 (pc' := 10) rfl rfl rfl ?_
  have k4 := (Keep.refl h0 []).ext E2
  have k5 := k4.trans K3 (allS (Or.inr (Nat.le_trans (Keep.refl h0 []).1 (Nat.le_of_eq g2.symm))) all0)
  exact g_retA X3 rfl rfl rfl d5_10 (by decide) (by decide) ⟨b2, rfl, X3.fr, k5, (Nat.le_trans (Keep.refl h0 []).1 (Nat.le_of_eq g2.symm)), A3x⟩

theorem d8_0 : decode prog_13_method_5_code 0 = .ok (.iload_n 1, 1) := by decide +kernel
theorem d8_1 : decode prog_13_method_5_code 1 = .ok (.ldc 38, 2) := by decide +kernel
theorem d8_3 : decode prog_13_method_5_code 3 = .ok (.invokestatic 39, 3) := by decide +kernel
theorem d8_6 : decode prog_13_method_5_code 6 = .ok (.istore_n 2, 1) := by decide +kernel
theorem d8_7 : decode prog_13_method_5_code 7 = .ok (.aload_n 0, 1) := by decide +kernel
theorem d8_8 : decode prog_13_method_5_code 8 = .ok (.getfield 19, 3) := by decide +kernel
theorem d8_11 : decode prog_13_method_5_code 11 = .ok (.ifnull 12, 3) := by decide +kernel
theorem d8_23 : decode prog_13_method_5_code 23 = .ok (.aload_n 0, 1) := by decide +kernel
theorem d8_24 : decode prog_13_method_5_code 24 = .ok (.iload_n 2, 1) := by decide +kernel
theorem d8_25 : decode prog_13_method_5_code 25 = .ok (.invokestatic 45, 3) := by decide +kernel
theorem d8_28 : decode prog_13_method_5_code 28 = .ok (.putfield 19, 3) := by decide +kernel
theorem d8_31 : decode prog_13_method_5_code 31 = .ok (.aload_n 0, 1) := by decide +kernel
theorem d8_32 : decode prog_13_method_5_code 32 = .ok (.iload_n 2, 1) := by decide +kernel
theorem d8_33 : decode prog_13_method_5_code 33 = .ok (.newarray .int, 2) := by decide +kernel
theorem d8_35 : decode prog_13_method_5_code 35 = .ok (.putfield 23, 3) := by decide +kernel
theorem d8_38 : decode prog_13_method_5_code 38 = .ok (.aload_n 0, 1) := by decide +kernel
theorem d8_39 : decode prog_13_method_5_code 39 = .ok (.iload_n 2, 1) := by decide +kernel
theorem d8_40 : decode prog_13_method_5_code 40 = .ok (.newarray .int, 2) := by decide +kernel
theorem d8_42 : decode prog_13_method_5_code 42 = .ok (.putfield 26, 3) := by decide +kernel
theorem d8_45 : decode prog_13_method_5_code 45 = .ok (.aload_n 0, 1) := by decide +kernel
theorem d8_46 : decode prog_13_method_5_code 46 = .ok (.iload_n 2, 1) := by decide +kernel
theorem d8_47 : decode prog_13_method_5_code 47 = .ok (.newarray .int, 2) := by decide +kernel
theorem d8_49 : decode prog_13_method_5_code 49 = .ok (.putfield 29, 3) := by decide +kernel
theorem d8_52 : decode prog_13_method_5_code 52 = .ok (.return_, 1) := by decide +kernel
theorem ef_8 (m : MethodId) (a : Addr) : entryFrame m #[(.ref a), (.int (2048 : Int32))] 3 = mkF m 0 #[.val (.ref a), .val (.int (2048 : Int32)), .unset] [] := by first | (simp [entryFrame, mkF, argsToLocals, Value.category]; done) | rfl
def R8 : Room := ({ frames := 2, cells := 4, slots := 8192, locals := 29 } : Room)
set_option maxRecDepth 65536 in
set_option maxHeartbeats 40000000 in
theorem rm8 (l : Launch) (Z : State) (a0 : Array Value) (hw : ∀ d ∈ tables_1, d.before a0 Z = true) (a : Addr) (h0 : Heap) (n0 : Nat) (hO : Old Z n0 h0) (E_a : Exa Z h0 a "com/example/branchwise/branchwise/dd/DiagramManager$ComputedTable") (ga : n0 ≤ a) (F_codes : Fld Z h0 a "com/example/branchwise/branchwise/dd/DiagramManager$ComputedTable" "codes" "[I" .null) (F_firsts : Fld Z h0 a "com/example/branchwise/branchwise/dd/DiagramManager$ComputedTable" "firsts" "[I" .null) (F_seconds : Fld Z h0 a "com/example/branchwise/branchwise/dd/DiagramManager$ComputedTable" "seconds" "[I" .null) (F_results : Fld Z h0 a "com/example/branchwise/branchwise/dd/DiagramManager$ComputedTable" "results" "[I" .null) :
    Con l Z (⟨"com/example/branchwise/branchwise/dd/DiagramManager$ComputedTable", "resize", "(I)V"⟩ : MethodName) prog_13_method_5_code 3 none [] R8 R8.cells R8.slots #[(.ref a), (.int (2048 : Int32))] h0 (fun v h L => v = none ∧ Fr n0 L ∧ Keep h0 h [a]) := by
  refine Con.intro (n0 := n0) (plainFor_of_name pn_2) (fun m => ef_8 m a) hO ?_
  intro p e s m below meth c T hs0 X0
  refine g_iloadN X0 d8_0 (pc' := 1) rfl rfl ?_
  refine g_ldc X0 (hw _ m50) d8_1 (pc' := 3) rfl ?_
  refine g_callS X0 (y := (⟨"java/lang/Math", "min", "(II)I"⟩ : MethodName)) [(.int (2048 : Int32)), (.int (4194304 : Int32))] (hw _ m51) (hw _ m2) (hw _ m3) (hw _ m4) (hw _ m3) (rm1 l Z a0 hw (2048 : Int32) (4194304 : Int32) h0 n0 X0.old) (by decide) (by decide) (by decide) (by decide) (by decide) rfl pd_1 rfl (rest := []) rfl (W := 0) rfl d8_3 (pc' := 6) rfl ?_
  rintro _ T6 _ _ Y6 ⟨z6, rfl, r6, rfl, rfl⟩
  have X6 := Y6 X0.old (Fr.nil _)
  show Go p e below _ (State.setTop _ (mkF m 6 #[.val (.ref a), .val (.int (2048 : Int32)), .unset] [(.int z6)]))
  obtain rfl : z6 = (2048 : Int32) := (r6.2.2).elim id (fun q => absurd (by decide : (2048 : Int32) < 4194304) (q ▸ r6.1))
  refine g_istoreN X6 d8_6 (pc' := 7) rfl (L' := #[.val (.ref a), .val (.int (2048 : Int32)), .val (.int (2048 : Int32))]) rfl ?_
  refine g_aloadN X6 d8_7 (pc' := 8) rfl rfl rfl ?_
  refine g_getF X6 (host := "") (Or.inl (hw _ m52)) Via.refl F_codes d8_8 (pc' := 11) rfl (fun T7 X7 => ?_)
  refine g_ifnull_t X7 d8_11 (pt := 23) (by decide) ?_
  refine g_aloadN X7 d8_23 (pc' := 24) rfl rfl rfl ?_
  refine g_iloadN X7 d8_24 (pc' := 25) rfl rfl ?_
  refine g_callSN X7 (y := (⟨"com/example/branchwise/branchwise/dd/DiagramManager", "emptyTable", "(I)[I"⟩ : MethodName)) [(.int (2048 : Int32))] (hw _ m54) (hw _ m30) (hw _ m10) (hw _ m31) (hw _ m10) (rm5 l Z a0 hw 2048 h0 n0 X7.old (by omega)) (by decide) (by decide) (by decide) (by decide) (by decide) rfl pd_2 rfl (rest := [(.ref a)]) rfl (W := 1) rfl d8_25 (pc' := 28) rfl ?_
  rintro _ T8 h8 L8 Y8 ⟨b8, rfl, N8, K8, q8, A8x⟩
  have X8 := Y8 (X7.old.keep K8 all0) N8
  have g_b8 : n0 ≤ b8 := Nat.le_trans X7.sz q8
  have ne9 : a ≠ b8 := Nat.ne_of_lt (Nat.lt_of_lt_of_le F_results.lt q8)
  show Go p e below _ (State.setTop _ (mkF m 28 #[.val (.ref a), .val (.int (2048 : Int32)), .val (.int (2048 : Int32))] [(.ref b8), (.ref a)]))
  have f10 := (F_codes.keep K8 nm0)
  have f11 := (E_a.keep K8)
  refine g_putF X8 (host := "") (Or.inl (hw _ m52)) Via.refl f10 f11 (Or.inl (hw _ m53)) (hw _ m39) (ty := (.array .int)) (by decide) rfl rfl ga d8_28 (pc' := 31) rfl (fun T12 h12 X12 W12 => ?_)
  have F12 := f10.same W12
  refine g_aloadN X12 d8_31 (pc' := 32) rfl rfl rfl ?_
  refine g_iloadN X12 d8_32 (pc' := 33) rfl rfl ?_
  refine g_newarray X12 (aty := .int) (cap := 2048) (vs := (own_li 2048 (fun _ => (0 : Int32)))) (hw _ m17) (by decide) (by decide) (own_rep (n := 2048) (by omega)) (by decide) d8_33 (pc' := 35) rfl (by decide) (by decide) (fun T13 h13 b13 X13 g13 E13 A13 l13 => ?_)
  have f15 := (f11.wr W12)
  have ne14 : a ≠ b13 := ne_new f15.lt g13
  have f17 := (A8x.other W12 (Ne.symm ne9))
  have ne16 : b8 ≠ b13 := ne_new f17.lt g13
  have f18 := (((F_firsts.keep K8 nm0).other W12 (Or.inr (slot_ne (Or.inl (hw _ m56)) (Or.inl (hw _ m53)) (by decide) (t := (.array .int)) (t' := (.array .int)) (by decide) (by decide)))).ext E13)
  have f19 := (f15.ext E13)
  refine g_putF X13 (host := "") (Or.inl (hw _ m55)) Via.refl f18 f19 (Or.inl (hw _ m56)) (hw _ m39) (ty := (.array .int)) (by decide) rfl rfl ga d8_35 (pc' := 38) rfl (fun T20 h20 X20 W20 => ?_)
  have F20 := f18.same W20
  refine g_aloadN X20 d8_38 (pc' := 39) rfl rfl rfl ?_
  refine g_iloadN X20 d8_39 (pc' := 40) rfl rfl ?_
  refine g_newarray X20 (aty := .int) (cap := 2048) (vs := (own_li 2048 (fun _ => (0 : Int32)))) (hw _ m17) (by decide) (by decide) (own_rep (n := 2048) (by omega)) (by decide) d8_40 (pc' := 42) rfl (by decide) (by decide) (fun T21 h21 b21 X21 g21 E21 A21 l21 => ?_)
  have f23 := (f19.wr W20)
  have ne22 : a ≠ b21 := ne_new f23.lt g21
  have f25 := ((f17.ext E13).other W20 (Ne.symm ne9))
  have ne24 : b8 ≠ b21 := ne_new f25.lt g21
  have f27 := (A13.other W20 (Ne.symm ne14))
  have ne26 : b13 ≠ b21 := ne_new f27.lt g21
  have f28 := (((((F_seconds.keep K8 nm0).other W12 (Or.inr (slot_ne (Or.inl (hw _ m58)) (Or.inl (hw _ m53)) (by decide) (t := (.array .int)) (t' := (.array .int)) (by decide) (by decide)))).ext E13).other W20 (Or.inr (slot_ne (Or.inl (hw _ m58)) (Or.inl (hw _ m56)) (by decide) (t := (.array .int)) (t' := (.array .int)) (by decide) (by decide)))).ext E21)
  have f29 := (f23.ext E21)
  refine g_putF X21 (host := "") (Or.inl (hw _ m57)) Via.refl f28 f29 (Or.inl (hw _ m58)) (hw _ m39) (ty := (.array .int)) (by decide) rfl rfl ga d8_42 (pc' := 45) rfl (fun T30 h30 X30 W30 => ?_)
  have F30 := f28.same W30
  refine g_aloadN X30 d8_45 (pc' := 46) rfl rfl rfl ?_
  refine g_iloadN X30 d8_46 (pc' := 47) rfl rfl ?_
  refine g_newarray X30 (aty := .int) (cap := 2048) (vs := (own_li 2048 (fun _ => (0 : Int32)))) (hw _ m17) (by decide) (by decide) (own_rep (n := 2048) (by omega)) (by decide) d8_47 (pc' := 49) rfl (by decide) (by decide) (fun T31 h31 b31 X31 g31 E31 A31 l31 => ?_)
  have f33 := (f29.wr W30)
  have ne32 : a ≠ b31 := ne_new f33.lt g31
  have f35 := ((f25.ext E21).other W30 (Ne.symm ne9))
  have ne34 : b8 ≠ b31 := ne_new f35.lt g31
  have f37 := ((f27.ext E21).other W30 (Ne.symm ne14))
  have ne36 : b13 ≠ b31 := ne_new f37.lt g31
  have f39 := (A21.other W30 (Ne.symm ne22))
  have ne38 : b21 ≠ b31 := ne_new f39.lt g31
  have f40 := (((((((F_results.keep K8 nm0).other W12 (Or.inr (slot_ne (Or.inl (hw _ m60)) (Or.inl (hw _ m53)) (by decide) (t := (.array .int)) (t' := (.array .int)) (by decide) (by decide)))).ext E13).other W20 (Or.inr (slot_ne (Or.inl (hw _ m60)) (Or.inl (hw _ m56)) (by decide) (t := (.array .int)) (t' := (.array .int)) (by decide) (by decide)))).ext E21).other W30 (Or.inr (slot_ne (Or.inl (hw _ m60)) (Or.inl (hw _ m58)) (by decide) (t := (.array .int)) (t' := (.array .int)) (by decide) (by decide)))).ext E31)
  have f41 := (f33.ext E31)
  refine g_putF X31 (host := "") (Or.inl (hw _ m59)) Via.refl f40 f41 (Or.inl (hw _ m60)) (hw _ m39) (ty := (.array .int)) (by decide) rfl rfl ga d8_49 (pc' := 52) rfl (fun T42 h42 X42 W42 => ?_)
  have F42 := f40.same W42
  have k43 := (Keep.refl h0 [a]).trans K8 (fun x hx => by simp at hx)
  have k44 := k43.wr W12 (Or.inl (by simp))
  have k45 := k44.ext E13
  have k46 := k45.wr W20 (Or.inl (by simp))
  have k47 := k46.ext E21
  have k48 := k47.wr W30 (Or.inl (by simp))
  have k49 := k48.ext E31
  have k50 := k49.wr W42 (Or.inl (by simp))
  exact g_ret X42 rfl d8_52 (by decide) (by decide) ⟨rfl, X42.fr, k50⟩

theorem d7_0 : decode prog_13_method_1_code 0 = .ok (.aload_n 0, 1) := by decide +kernel
theorem d7_1 : decode prog_13_method_1_code 1 = .ok (.invokespecial 3, 3) := by decide +kernel
theorem d7_4 : decode prog_13_method_1_code 4 = .ok (.aload_n 0, 1) := by decide +kernel
theorem d7_5 : decode prog_13_method_1_code 5 = .ok (.iload_n 1, 1) := by decide +kernel
theorem d7_6 : decode prog_13_method_1_code 6 = .ok (.invokevirtual 9, 3) := by decide +kernel
theorem d7_9 : decode prog_13_method_1_code 9 = .ok (.return_, 1) := by decide +kernel
theorem ef_7 (m : MethodId) (a : Addr) : entryFrame m #[(.ref a), (.int (2048 : Int32))] 2 = mkF m 0 #[.val (.ref a), .val (.int (2048 : Int32))] [] := by first | (simp [entryFrame, mkF, argsToLocals, Value.category]; done) | rfl
def R7 : Room := ({ frames := 3, cells := 4, slots := 8192, locals := 43 } : Room)
set_option maxRecDepth 65536 in
set_option maxHeartbeats 40000000 in
theorem rm7 (l : Launch) (Z : State) (a0 : Array Value) (hw : ∀ d ∈ tables_1, d.before a0 Z = true) (a : Addr) (h0 : Heap) (n0 : Nat) (hO : Old Z n0 h0) (E_a : Exa Z h0 a "com/example/branchwise/branchwise/dd/DiagramManager$ComputedTable") (ga : n0 ≤ a) (F_codes : Fld Z h0 a "com/example/branchwise/branchwise/dd/DiagramManager$ComputedTable" "codes" "[I" .null) (F_firsts : Fld Z h0 a "com/example/branchwise/branchwise/dd/DiagramManager$ComputedTable" "firsts" "[I" .null) (F_seconds : Fld Z h0 a "com/example/branchwise/branchwise/dd/DiagramManager$ComputedTable" "seconds" "[I" .null) (F_results : Fld Z h0 a "com/example/branchwise/branchwise/dd/DiagramManager$ComputedTable" "results" "[I" .null) :
    Con l Z (⟨"com/example/branchwise/branchwise/dd/DiagramManager$ComputedTable", "<init>", "(I)V"⟩ : MethodName) prog_13_method_1_code 2 none [] R7 R7.cells R7.slots #[(.ref a), (.int (2048 : Int32))] h0 (fun v h L => v = none ∧ Fr n0 L ∧ Keep h0 h [a]) := by
  refine Con.intro (n0 := n0) (plainFor_of_name pn_2) (fun m => ef_7 m a) hO ?_
  intro p e s m below meth c T hs0 X0
  refine g_aloadN X0 d7_0 (pc' := 1) rfl rfl rfl ?_
  refine g_initO X0 (hw _ m44) (hw _ m15) (hw _ m16) rfl d7_1 (pc' := 4) rfl (by decide) (W := 0) rfl (by decide) (fun T51 X51 => ?_)
  refine g_aloadN X51 d7_4 (pc' := 5) rfl rfl rfl ?_
  refine g_iloadN X51 d7_5 (pc' := 6) rfl rfl ?_
  refine g_callV X51 (y := (⟨"com/example/branchwise/branchwise/dd/DiagramManager$ComputedTable", "resize", "(I)V"⟩ : MethodName)) (z := (⟨"com/example/branchwise/branchwise/dd/DiagramManager$ComputedTable", "resize", "(I)V"⟩ : MethodName)) (a := a) [(.int (2048 : Int32))] (hw _ m45) (hw _ m46) (notFace_of_selects (args := #[]) (mvT X51.hZ (hw _ m48))) (hw _ m48) (hw _ m47) E_a (hw _ m49) (hw _ m40) (rm8 l Z a0 hw a h0 n0 X51.old E_a ga F_codes F_firsts F_seconds F_results) (by decide) (by decide) (by decide) (by decide) (by decide) rfl pd_3 rfl (rest := []) rfl (W := 0) rfl d7_6 (pc' := 9) rfl ?_
  rintro _ T52 h52 L52 Y52 ⟨rfl, N52, K52⟩
  have X52 := Y52 (X51.old.keep K52 (allS ga all0)) N52
  show Go p e below _ (State.setTop _ (mkF m 9 #[.val (.ref a), .val (.int (2048 : Int32))] []))
  have k53 := (Keep.refl h0 [a]).trans K52 (allS (Or.inl (by simp)) all0)
  exact g_ret X52 rfl d7_9 (by decide) (by decide) ⟨rfl, X52.fr, k53⟩

theorem own_repD : List.replicate (1024 : Int32).toNatClampNeg (Value.double (0 : UInt64)) = own_ld 1024 (fun _ => (0 : UInt64)) := by
  rw [show (1024 : Int32).toNatClampNeg = 1024 from rfl]; unfold own_ld; rw [List.map_const', List.length_range]
theorem d3_0 : decode prog_11_method_2_code 0 = .ok (.aload_n 0, 1) := by decide +kernel
theorem d3_1 : decode prog_11_method_2_code 1 = .ok (.invokespecial 10, 3) := by decide +kernel
theorem d3_4 : decode prog_11_method_2_code 4 = .ok (.aload_n 0, 1) := by decide +kernel
theorem d3_5 : decode prog_11_method_2_code 5 = .ok (.sipush 1024, 3) := by decide +kernel
theorem d3_8 : decode prog_11_method_2_code 8 = .ok (.newarray .int, 2) := by decide +kernel
theorem d3_10 : decode prog_11_method_2_code 10 = .ok (.putfield 15, 3) := by decide +kernel
theorem d3_13 : decode prog_11_method_2_code 13 = .ok (.aload_n 0, 1) := by decide +kernel
theorem d3_14 : decode prog_11_method_2_code 14 = .ok (.sipush 1024, 3) := by decide +kernel
theorem d3_17 : decode prog_11_method_2_code 17 = .ok (.newarray .int, 2) := by decide +kernel
theorem d3_19 : decode prog_11_method_2_code 19 = .ok (.putfield 19, 3) := by decide +kernel
theorem d3_22 : decode prog_11_method_2_code 22 = .ok (.aload_n 0, 1) := by decide +kernel
theorem d3_23 : decode prog_11_method_2_code 23 = .ok (.sipush 1024, 3) := by decide +kernel
theorem d3_26 : decode prog_11_method_2_code 26 = .ok (.newarray .int, 2) := by decide +kernel
theorem d3_28 : decode prog_11_method_2_code 28 = .ok (.putfield 22, 3) := by decide +kernel
theorem d3_31 : decode prog_11_method_2_code 31 = .ok (.aload_n 0, 1) := by decide +kernel
theorem d3_32 : decode prog_11_method_2_code 32 = .ok (.sipush 1024, 3) := by decide +kernel
theorem d3_35 : decode prog_11_method_2_code 35 = .ok (.newarray .double, 2) := by decide +kernel
theorem d3_37 : decode prog_11_method_2_code 37 = .ok (.putfield 25, 3) := by decide +kernel
theorem d3_40 : decode prog_11_method_2_code 40 = .ok (.aload_n 0, 1) := by decide +kernel
theorem d3_41 : decode prog_11_method_2_code 41 = .ok (.iconst 0, 1) := by decide +kernel
theorem d3_42 : decode prog_11_method_2_code 42 = .ok (.newarray .int, 2) := by decide +kernel
theorem d3_44 : decode prog_11_method_2_code 44 = .ok (.putfield 29, 3) := by decide +kernel
theorem d3_47 : decode prog_11_method_2_code 47 = .ok (.aload_n 0, 1) := by decide +kernel
theorem d3_48 : decode prog_11_method_2_code 48 = .ok (.sipush 2048, 3) := by decide +kernel
theorem d3_51 : decode prog_11_method_2_code 51 = .ok (.invokestatic 32, 3) := by decide +kernel
theorem d3_54 : decode prog_11_method_2_code 54 = .ok (.putfield 36, 3) := by decide +kernel
theorem d3_57 : decode prog_11_method_2_code 57 = .ok (.aload_n 0, 1) := by decide +kernel
theorem d3_58 : decode prog_11_method_2_code 58 = .ok (.new 39, 3) := by decide +kernel
theorem d3_61 : decode prog_11_method_2_code 61 = .ok (.dup, 1) := by decide +kernel
theorem d3_62 : decode prog_11_method_2_code 62 = .ok (.sipush 2048, 3) := by decide +kernel
theorem d3_65 : decode prog_11_method_2_code 65 = .ok (.invokespecial 41, 3) := by decide +kernel
theorem d3_68 : decode prog_11_method_2_code 68 = .ok (.putfield 42, 3) := by decide +kernel
theorem d3_71 : decode prog_11_method_2_code 71 = .ok (.iload_n 1, 1) := by decide +kernel
theorem d3_72 : decode prog_11_method_2_code 72 = .ok (.iconst 1, 1) := by decide +kernel
theorem d3_73 : decode prog_11_method_2_code 73 = .ok (.if_icmp .ge 17, 3) := by decide +kernel
theorem d3_90 : decode prog_11_method_2_code 90 = .ok (.aload_n 0, 1) := by decide +kernel
theorem d3_91 : decode prog_11_method_2_code 91 = .ok (.iload_n 1, 1) := by decide +kernel
theorem d3_92 : decode prog_11_method_2_code 92 = .ok (.putfield 55, 3) := by decide +kernel
theorem d3_95 : decode prog_11_method_2_code 95 = .ok (.return_, 1) := by decide +kernel
theorem ef_3 (m : MethodId) (a : Addr) : entryFrame m #[(.ref a), (.int (2147483647 : Int32))] 2 = mkF m 0 #[.val (.ref a), .val (.int (2147483647 : Int32))] [] := by first | (simp [entryFrame, mkF, argsToLocals, Value.category]; done) | rfl
def R3 : Room := ({ frames := 4, cells := 11, slots := 14340, locals := 58 } : Room)
set_option maxRecDepth 65536 in
set_option maxHeartbeats 40000000 in
theorem rm3 (l : Launch) (Z : State) (a0 : Array Value) (hw : ∀ d ∈ tables_1, d.before a0 Z = true) (a : Addr) (h0 : Heap) (n0 : Nat) (hO : Old Z n0 h0) (E_a : Exa Z h0 a "com/example/branchwise/branchwise/dd/DiagramManager") (ga : n0 ≤ a) (F_variables : Fld Z h0 a "com/example/branchwise/branchwise/dd/DiagramManager" "variables" "[I" .null) (F_highs : Fld Z h0 a "com/example/branchwise/branchwise/dd/DiagramManager" "highs" "[I" .null) (F_lows : Fld Z h0 a "com/example/branchwise/branchwise/dd/DiagramManager" "lows" "[I" .null) (F_values : Fld Z h0 a "com/example/branchwise/branchwise/dd/DiagramManager" "values" "[D" .null) (F_freeIds : Fld Z h0 a "com/example/branchwise/branchwise/dd/DiagramManager" "freeIds" "[I" .null) (F_uniqueTable : Fld Z h0 a "com/example/branchwise/branchwise/dd/DiagramManager" "uniqueTable" "[I" .null) (F_computed : Fld Z h0 a "com/example/branchwise/branchwise/dd/DiagramManager" "computed" "Lcom/example/branchwise/branchwise/dd/DiagramManager$ComputedTable;" .null) (F_nodeLimit : Fld Z h0 a "com/example/branchwise/branchwise/dd/DiagramManager" "nodeLimit" "I" (.int (0 : Int32))) (F_size : Fld Z h0 a "com/example/branchwise/branchwise/dd/DiagramManager" "size" "I" (.int (0 : Int32))) (F_freeCount : Fld Z h0 a "com/example/branchwise/branchwise/dd/DiagramManager" "freeCount" "I" (.int (0 : Int32))) :
    Con l Z (⟨"com/example/branchwise/branchwise/dd/DiagramManager", "<init>", "(I)V"⟩ : MethodName) prog_11_method_2_code 2 none [] R3 R3.cells R3.slots #[(.ref a), (.int (2147483647 : Int32))] h0 (fun v h L => v = none ∧ Fr n0 L ∧ Old Z n0 h ∧ DM Z n0 h a 0 (fun _ => ((0 : Int32), (0 : Int32), (0 : Int32), (0 : UInt64))) (fun _ => (-1 : Int32)) []) := by
  refine Con.intro (n0 := n0) (plainFor_of_name pn_1) (fun m => ef_3 m a) hO ?_
  intro p e s m below meth c T hs0 X0
  refine g_aloadN X0 d3_0 (pc' := 1) rfl rfl rfl ?_
  refine g_initO X0 (hw _ m14) (hw _ m15) (hw _ m16) rfl d3_1 (pc' := 4) rfl (by decide) (W := 0) rfl (by decide) (fun T54 X54 => ?_)
  refine g_aloadN X54 d3_4 (pc' := 5) rfl rfl rfl ?_
  refine g_sipush X54 d3_5 (pc' := 8) rfl (v := (1024 : Int32)) rfl ?_
  refine g_newarray X54 (aty := .int) (cap := 1024) (vs := (own_li 1024 (fun _ => (0 : Int32)))) (hw _ m17) (by decide) (by decide) (own_rep (n := 1024) (by omega)) (by decide) d3_8 (pc' := 10) rfl (by decide) (by decide) (fun T55 h55 b55 X55 g55 E55 A55 l55 => ?_)
  have ne56 : a ≠ b55 := ne_new E_a.lt g55
  have f57 := (F_variables.ext E55)
  have f58 := (E_a.ext E55)
  refine g_putF X55 (host := "") (Or.inl (hw _ m18)) Via.refl f57 f58 (Or.inl (hw _ m19)) (hw _ m9) (ty := (.array .int)) (by decide) rfl rfl ga d3_10 (pc' := 13) rfl (fun T59 h59 X59 W59 => ?_)
  have F59 := f57.same W59
  refine g_aloadN X59 d3_13 (pc' := 14) rfl rfl rfl ?_
  refine g_sipush X59 d3_14 (pc' := 17) rfl (v := (1024 : Int32)) rfl ?_
  refine g_newarray X59 (aty := .int) (cap := 1024) (vs := (own_li 1024 (fun _ => (0 : Int32)))) (hw _ m17) (by decide) (by decide) (own_rep (n := 1024) (by omega)) (by decide) d3_17 (pc' := 19) rfl (by decide) (by decide) (fun T60 h60 b60 X60 g60 E60 A60 l60 => ?_)
  have f62 := (f58.wr W59)
  have ne61 : a ≠ b60 := ne_new f62.lt g60
  have f64 := (A55.other W59 (Ne.symm ne56))
  have ne63 : b55 ≠ b60 := ne_new f64.lt g60
  have f65 := (((F_highs.ext E55).other W59 (Or.inr (slot_ne (Or.inl (hw _ m21)) (Or.inl (hw _ m19)) (by decide) (t := (.array .int)) (t' := (.array .int)) (by decide) (by decide)))).ext E60)
  have f66 := (f62.ext E60)
  refine g_putF X60 (host := "") (Or.inl (hw _ m20)) Via.refl f65 f66 (Or.inl (hw _ m21)) (hw _ m9) (ty := (.array .int)) (by decide) rfl rfl ga d3_19 (pc' := 22) rfl (fun T67 h67 X67 W67 => ?_)
  have F67 := f65.same W67
  refine g_aloadN X67 d3_22 (pc' := 23) rfl rfl rfl ?_
  refine g_sipush X67 d3_23 (pc' := 26) rfl (v := (1024 : Int32)) rfl ?_
  refine g_newarray X67 (aty := .int) (cap := 1024) (vs := (own_li 1024 (fun _ => (0 : Int32)))) (hw _ m17) (by decide) (by decide) (own_rep (n := 1024) (by omega)) (by decide) d3_26 (pc' := 28) rfl (by decide) (by decide) (fun T68 h68 b68 X68 g68 E68 A68 l68 => ?_)
  have f70 := (f66.wr W67)
  have ne69 : a ≠ b68 := ne_new f70.lt g68
  have f72 := ((f64.ext E60).other W67 (Ne.symm ne56))
  have ne71 : b55 ≠ b68 := ne_new f72.lt g68
  have f74 := (A60.other W67 (Ne.symm ne61))
  have ne73 : b60 ≠ b68 := ne_new f74.lt g68
  have f75 := (((((F_lows.ext E55).other W59 (Or.inr (slot_ne (Or.inl (hw _ m23)) (Or.inl (hw _ m19)) (by decide) (t := (.array .int)) (t' := (.array .int)) (by decide) (by decide)))).ext E60).other W67 (Or.inr (slot_ne (Or.inl (hw _ m23)) (Or.inl (hw _ m21)) (by decide) (t := (.array .int)) (t' := (.array .int)) (by decide) (by decide)))).ext E68)
  have f76 := (f70.ext E68)
  refine g_putF X68 (host := "") (Or.inl (hw _ m22)) Via.refl f75 f76 (Or.inl (hw _ m23)) (hw _ m9) (ty := (.array .int)) (by decide) rfl rfl ga d3_28 (pc' := 31) rfl (fun T77 h77 X77 W77 => ?_)
  have F77 := f75.same W77
  refine g_aloadN X77 d3_31 (pc' := 32) rfl rfl rfl ?_
  refine g_sipush X77 d3_32 (pc' := 35) rfl (v := (1024 : Int32)) rfl ?_
  refine g_newarray X77 (aty := .double) (cap := 1024) (vs := (own_ld 1024 (fun _ => (0 : UInt64)))) (hw _ m24) (by decide) (by decide) own_repD (by decide) d3_35 (pc' := 37) rfl (by decide) (by decide) (fun T78 h78 b78 X78 g78 E78 A78 l78 => ?_)
  have f80 := (f76.wr W77)
  have ne79 : a ≠ b78 := ne_new f80.lt g78
  have f82 := ((f72.ext E68).other W77 (Ne.symm ne56))
  have ne81 : b55 ≠ b78 := ne_new f82.lt g78
  have f84 := ((f74.ext E68).other W77 (Ne.symm ne61))
  have ne83 : b60 ≠ b78 := ne_new f84.lt g78
  have f86 := (A68.other W77 (Ne.symm ne69))
  have ne85 : b68 ≠ b78 := ne_new f86.lt g78
  have f87 := (((((((F_values.ext E55).other W59 (Or.inr (slot_ne (Or.inl (hw _ m26)) (Or.inl (hw _ m19)) (by decide) (t := (.array .double)) (t' := (.array .int)) (by decide) (by decide)))).ext E60).other W67 (Or.inr (slot_ne (Or.inl (hw _ m26)) (Or.inl (hw _ m21)) (by decide) (t := (.array .double)) (t' := (.array .int)) (by decide) (by decide)))).ext E68).other W77 (Or.inr (slot_ne (Or.inl (hw _ m26)) (Or.inl (hw _ m23)) (by decide) (t := (.array .double)) (t' := (.array .int)) (by decide) (by decide)))).ext E78)
  have f88 := (f80.ext E78)
  refine g_putF X78 (host := "") (Or.inl (hw _ m25)) Via.refl f87 f88 (Or.inl (hw _ m26)) (hw _ m9) (ty := (.array .double)) (by decide) rfl rfl ga d3_37 (pc' := 40) rfl (fun T89 h89 X89 W89 => ?_)
  have F89 := f87.same W89
  refine g_aloadN X89 d3_40 (pc' := 41) rfl rfl rfl ?_
  refine g_iconst X89 d3_41 (pc' := 42) rfl (v := (0 : Int32)) rfl ?_
  refine g_newarray X89 (aty := .int) (cap := 0) (vs := []) (hw _ m17) (by decide) (by decide) rfl (by decide) d3_42 (pc' := 44) rfl (by decide) (by decide) (fun T90 h90 b90 X90 g90 E90 A90 l90 => ?_)
  have f92 := (f88.wr W89)
  have ne91 : a ≠ b90 := ne_new f92.lt g90
  have f94 := ((f82.ext E78).other W89 (Ne.symm ne56))
  have ne93 : b55 ≠ b90 := ne_new f94.lt g90
  have f96 := ((f84.ext E78).other W89 (Ne.symm ne61))
  have ne95 : b60 ≠ b90 := ne_new f96.lt g90
  have f98 := ((f86.ext E78).other W89 (Ne.symm ne69))
  have ne97 : b68 ≠ b90 := ne_new f98.lt g90
  have f100 := (A78.other W89 (Ne.symm ne79))
  have ne99 : b78 ≠ b90 := ne_new f100.lt g90
  have f101 := (((((((((F_freeIds.ext E55).other W59 (Or.inr (slot_ne (Or.inl (hw _ m28)) (Or.inl (hw _ m19)) (by decide) (t := (.array .int)) (t' := (.array .int)) (by decide) (by decide)))).ext E60).other W67 (Or.inr (slot_ne (Or.inl (hw _ m28)) (Or.inl (hw _ m21)) (by decide) (t := (.array .int)) (t' := (.array .int)) (by decide) (by decide)))).ext E68).other W77 (Or.inr (slot_ne (Or.inl (hw _ m28)) (Or.inl (hw _ m23)) (by decide) (t := (.array .int)) (t' := (.array .int)) (by decide) (by decide)))).ext E78).other W89 (Or.inr (slot_ne (Or.inl (hw _ m28)) (Or.inl (hw _ m26)) (by decide) (t := (.array .int)) (t' := (.array .double)) (by decide) (by decide)))).ext E90)
  have f102 := (f92.ext E90)
  refine g_putF X90 (host := "") (Or.inl (hw _ m27)) Via.refl f101 f102 (Or.inl (hw _ m28)) (hw _ m9) (ty := (.array .int)) (by decide) rfl rfl ga d3_44 (pc' := 47) rfl (fun T103 h103 X103 W103 => ?_)
  have F103 := f101.same W103
  refine g_aloadN X103 d3_47 (pc' := 48) rfl rfl rfl ?_
  refine g_sipush X103 d3_48 (pc' := 51) rfl (v := (2048 : Int32)) rfl ?_
  have f104 := (f102.wr W103)
  have f105 := ((((((((F59.ext E60).other W67 (Or.inr (slot_ne (Or.inl (hw _ m19)) (Or.inl (hw _ m21)) (by decide) (t := (.array .int)) (t' := (.array .int)) (by decide) (by decide)))).ext E68).other W77 (Or.inr (slot_ne (Or.inl (hw _ m19)) (Or.inl (hw _ m23)) (by decide) (t := (.array .int)) (t' := (.array .int)) (by decide) (by decide)))).ext E78).other W89 (Or.inr (slot_ne (Or.inl (hw _ m19)) (Or.inl (hw _ m26)) (by decide) (t := (.array .int)) (t' := (.array .double)) (by decide) (by decide)))).ext E90).other W103 (Or.inr (slot_ne (Or.inl (hw _ m19)) (Or.inl (hw _ m28)) (by decide) (t := (.array .int)) (t' := (.array .int)) (by decide) (by decide))))
  have f106 := ((((((F67.ext E68).other W77 (Or.inr (slot_ne (Or.inl (hw _ m21)) (Or.inl (hw _ m23)) (by decide) (t := (.array .int)) (t' := (.array .int)) (by decide) (by decide)))).ext E78).other W89 (Or.inr (slot_ne (Or.inl (hw _ m21)) (Or.inl (hw _ m26)) (by decide) (t := (.array .int)) (t' := (.array .double)) (by decide) (by decide)))).ext E90).other W103 (Or.inr (slot_ne (Or.inl (hw _ m21)) (Or.inl (hw _ m28)) (by decide) (t := (.array .int)) (t' := (.array .int)) (by decide) (by decide))))
  have f107 := ((((F77.ext E78).other W89 (Or.inr (slot_ne (Or.inl (hw _ m23)) (Or.inl (hw _ m26)) (by decide) (t := (.array .int)) (t' := (.array .double)) (by decide) (by decide)))).ext E90).other W103 (Or.inr (slot_ne (Or.inl (hw _ m23)) (Or.inl (hw _ m28)) (by decide) (t := (.array .int)) (t' := (.array .int)) (by decide) (by decide))))
  have f108 := ((F89.ext E90).other W103 (Or.inr (slot_ne (Or.inl (hw _ m26)) (Or.inl (hw _ m28)) (by decide) (t := (.array .double)) (t' := (.array .int)) (by decide) (by decide))))
  have f109 := ((((((((((F_uniqueTable.ext E55).other W59 (Or.inr (slot_ne (Or.inl (hw _ m37)) (Or.inl (hw _ m19)) (by decide) (t := (.array .int)) (t' := (.array .int)) (by decide) (by decide)))).ext E60).other W67 (Or.inr (slot_ne (Or.inl (hw _ m37)) (Or.inl (hw _ m21)) (by decide) (t := (.array .int)) (t' := (.array .int)) (by decide) (by decide)))).ext E68).other W77 (Or.inr (slot_ne (Or.inl (hw _ m37)) (Or.inl (hw _ m23)) (by decide) (t := (.array .int)) (t' := (.array .int)) (by decide) (by decide)))).ext E78).other W89 (Or.inr (slot_ne (Or.inl (hw _ m37)) (Or.inl (hw _ m26)) (by decide) (t := (.array .int)) (t' := (.array .double)) (by decide) (by decide)))).ext E90).other W103 (Or.inr (slot_ne (Or.inl (hw _ m37)) (Or.inl (hw _ m28)) (by decide) (t := (.array .int)) (t' := (.array .int)) (by decide) (by decide))))
  have f110 := ((((((((((F_computed.ext E55).other W59 (Or.inr (slot_ne (Or.inr (hw _ m62)) (Or.inl (hw _ m19)) (by decide) (t := (.object "com/example/branchwise/branchwise/dd/DiagramManager$ComputedTable")) (t' := (.array .int)) (by decide) (by decide)))).ext E60).other W67 (Or.inr (slot_ne (Or.inr (hw _ m62)) (Or.inl (hw _ m21)) (by decide) (t := (.object "com/example/branchwise/branchwise/dd/DiagramManager$ComputedTable")) (t' := (.array .int)) (by decide) (by decide)))).ext E68).other W77 (Or.inr (slot_ne (Or.inr (hw _ m62)) (Or.inl (hw _ m23)) (by decide) (t := (.object "com/example/branchwise/branchwise/dd/DiagramManager$ComputedTable")) (t' := (.array .int)) (by decide) (by decide)))).ext E78).other W89 (Or.inr (slot_ne (Or.inr (hw _ m62)) (Or.inl (hw _ m26)) (by decide) (t := (.object "com/example/branchwise/branchwise/dd/DiagramManager$ComputedTable")) (t' := (.array .double)) (by decide) (by decide)))).ext E90).other W103 (Or.inr (slot_ne (Or.inr (hw _ m62)) (Or.inl (hw _ m28)) (by decide) (t := (.object "com/example/branchwise/branchwise/dd/DiagramManager$ComputedTable")) (t' := (.array .int)) (by decide) (by decide))))
  have f111 := ((((((((((F_nodeLimit.ext E55).other W59 (Or.inr (slot_ne (Or.inr (hw _ m64)) (Or.inl (hw _ m19)) (by decide) (t := .int) (t' := (.array .int)) (by decide) (by decide)))).ext E60).other W67 (Or.inr (slot_ne (Or.inr (hw _ m64)) (Or.inl (hw _ m21)) (by decide) (t := .int) (t' := (.array .int)) (by decide) (by decide)))).ext E68).other W77 (Or.inr (slot_ne (Or.inr (hw _ m64)) (Or.inl (hw _ m23)) (by decide) (t := .int) (t' := (.array .int)) (by decide) (by decide)))).ext E78).other W89 (Or.inr (slot_ne (Or.inr (hw _ m64)) (Or.inl (hw _ m26)) (by decide) (t := .int) (t' := (.array .double)) (by decide) (by decide)))).ext E90).other W103 (Or.inr (slot_ne (Or.inr (hw _ m64)) (Or.inl (hw _ m28)) (by decide) (t := .int) (t' := (.array .int)) (by decide) (by decide))))
  have f112 := ((((((((((F_size.ext E55).other W59 (Or.inr (slot_ne (Or.inl (hw _ m107)) (Or.inl (hw _ m19)) (by decide) (t := .int) (t' := (.array .int)) (by decide) (by decide)))).ext E60).other W67 (Or.inr (slot_ne (Or.inl (hw _ m107)) (Or.inl (hw _ m21)) (by decide) (t := .int) (t' := (.array .int)) (by decide) (by decide)))).ext E68).other W77 (Or.inr (slot_ne (Or.inl (hw _ m107)) (Or.inl (hw _ m23)) (by decide) (t := .int) (t' := (.array .int)) (by decide) (by decide)))).ext E78).other W89 (Or.inr (slot_ne (Or.inl (hw _ m107)) (Or.inl (hw _ m26)) (by decide) (t := .int) (t' := (.array .double)) (by decide) (by decide)))).ext E90).other W103 (Or.inr (slot_ne (Or.inl (hw _ m107)) (Or.inl (hw _ m28)) (by decide) (t := .int) (t' := (.array .int)) (by decide) (by decide))))
  have f113 := ((((((((((F_freeCount.ext E55).other W59 (Or.inr (slot_ne (Or.inl (hw _ m109)) (Or.inl (hw _ m19)) (by decide) (t := .int) (t' := (.array .int)) (by decide) (by decide)))).ext E60).other W67 (Or.inr (slot_ne (Or.inl (hw _ m109)) (Or.inl (hw _ m21)) (by decide) (t := .int) (t' := (.array .int)) (by decide) (by decide)))).ext E68).other W77 (Or.inr (slot_ne (Or.inl (hw _ m109)) (Or.inl (hw _ m23)) (by decide) (t := .int) (t' := (.array .int)) (by decide) (by decide)))).ext E78).other W89 (Or.inr (slot_ne (Or.inl (hw _ m109)) (Or.inl (hw _ m26)) (by decide) (t := .int) (t' := (.array .double)) (by decide) (by decide)))).ext E90).other W103 (Or.inr (slot_ne (Or.inl (hw _ m109)) (Or.inl (hw _ m28)) (by decide) (t := .int) (t' := (.array .int)) (by decide) (by decide))))
  have f114 := ((f94.ext E90).other W103 (Ne.symm ne56))
  have f115 := ((f96.ext E90).other W103 (Ne.symm ne61))
  have f116 := ((f98.ext E90).other W103 (Ne.symm ne69))
  have f117 := ((f100.ext E90).other W103 (Ne.symm ne79))
  have f118 := (A90.other W103 (Ne.symm ne91))
  have k119 := (Keep.refl h0 [a]).ext E55
  have k120 := k119.wr W59 (Or.inl (by simp))
  have k121 := k120.ext E60
  have k122 := k121.wr W67 (Or.inl (by simp))
  have k123 := k122.ext E68
  have k124 := k123.wr W77 (Or.inl (by simp))
  have k125 := k124.ext E78
  have k126 := k125.wr W89 (Or.inl (by simp))
  have k127 := k126.ext E90
  have k128 := k127.wr W103 (Or.inl (by simp))
  refine g_callS X103 (y := (⟨"com/example/branchwise/branchwise/dd/DiagramManager", "emptyTable", "(I)[I"⟩ : MethodName)) [(.int (2048 : Int32))] (hw _ m29) (hw _ m30) (hw _ m10) (hw _ m31) (hw _ m10) (rm5 l Z a0 hw 2048 h103 n0 X103.old (by omega)) (by decide) (by decide) (by decide) (by decide) (by decide) rfl pd_2 rfl (rest := [(.ref a)]) rfl (W := 1) rfl d3_51 (pc' := 54) rfl ?_
  rintro _ T129 h129 L129 Y129 ⟨b129, rfl, N129, K129, q129, A129x⟩
  have X129 := Y129 (X103.old.keep K129 all0) N129
  have g_b129 : n0 ≤ b129 := Nat.le_trans X103.sz q129
  have ne130 : a ≠ b129 := Nat.ne_of_lt (Nat.lt_of_lt_of_le f113.lt q129)
  have ne131 : b55 ≠ b129 := Nat.ne_of_lt (Nat.lt_of_lt_of_le f114.lt q129)
  have ne132 : b60 ≠ b129 := Nat.ne_of_lt (Nat.lt_of_lt_of_le f115.lt q129)
  have ne133 : b68 ≠ b129 := Nat.ne_of_lt (Nat.lt_of_lt_of_le f116.lt q129)
  have ne134 : b78 ≠ b129 := Nat.ne_of_lt (Nat.lt_of_lt_of_le f117.lt q129)
  have ne135 : b90 ≠ b129 := Nat.ne_of_lt (Nat.lt_of_lt_of_le f118.lt q129)
  show Go p e below _ (State.setTop _ (mkF m 54 #[.val (.ref a), .val (.int (2147483647 : Int32))] [(.ref b129), (.ref a)]))
  have f136 := (f109.keep K129 nm0)
  have f137 := (f104.keep K129)
  refine g_putF X129 (host := "") (Or.inl (hw _ m36)) Via.refl f136 f137 (Or.inl (hw _ m37)) (hw _ m9) (ty := (.array .int)) (by decide) rfl rfl ga d3_54 (pc' := 57) rfl (fun T138 h138 X138 W138 => ?_)
  have F138 := f136.same W138
  refine g_aloadN X138 d3_57 (pc' := 58) rfl rfl rfl ?_
  refine g_new X138 (hw _ m38) (hw _ m39) (hw _ m40) d3_58 (pc' := 61) rfl (by decide) (by decide) (fun T139 h139 b139 X139 g139 E139 A139 D139 l139 => ?_)
  have f141 := (f137.wr W138)
  have ne140 : a ≠ b139 := ne_new f141.lt g139
  have f143 := ((f114.keep K129 nm0).other W138 (Ne.symm ne56))
  have ne142 : b55 ≠ b139 := ne_new f143.lt g139
  have f145 := ((f115.keep K129 nm0).other W138 (Ne.symm ne61))
  have ne144 : b60 ≠ b139 := ne_new f145.lt g139
  have f147 := ((f116.keep K129 nm0).other W138 (Ne.symm ne69))
  have ne146 : b68 ≠ b139 := ne_new f147.lt g139
  have f149 := ((f117.keep K129 nm0).other W138 (Ne.symm ne79))
  have ne148 : b78 ≠ b139 := ne_new f149.lt g139
  have f151 := ((f118.keep K129 nm0).other W138 (Ne.symm ne91))
  have ne150 : b90 ≠ b139 := ne_new f151.lt g139
  have f153 := (A129x.other W138 (Ne.symm ne130))
  have ne152 : b129 ≠ b139 := ne_new f153.lt g139
  have F139_codes : Fld Z h139 b139 "com/example/branchwise/branchwise/dd/DiagramManager$ComputedTable" "codes" "[I" .null := D139 (Or.inl (hw _ m53)) (ty := (.array .int)) (by decide)
  have F139_firsts : Fld Z h139 b139 "com/example/branchwise/branchwise/dd/DiagramManager$ComputedTable" "firsts" "[I" .null := D139 (Or.inl (hw _ m56)) (ty := (.array .int)) (by decide)
  have F139_seconds : Fld Z h139 b139 "com/example/branchwise/branchwise/dd/DiagramManager$ComputedTable" "seconds" "[I" .null := D139 (Or.inl (hw _ m58)) (ty := (.array .int)) (by decide)
  have F139_results : Fld Z h139 b139 "com/example/branchwise/branchwise/dd/DiagramManager$ComputedTable" "results" "[I" .null := D139 (Or.inl (hw _ m60)) (ty := (.array .int)) (by decide)
  refine g_dup X139 d3_61 (pc' := 62) rfl rfl ?_
  refine g_sipush X139 d3_62 (pc' := 65) rfl (v := (2048 : Int32)) rfl ?_
  refine g_callI X139 (y := (⟨"com/example/branchwise/branchwise/dd/DiagramManager$ComputedTable", "<init>", "(I)V"⟩ : MethodName)) (a := b139) [(.int (2048 : Int32))] rfl (hw _ m41) (hw _ m42) rfl (hw _ m43) (hw _ m40) (rm7 l Z a0 hw b139 h139 n0 X139.old A139 l139 F139_codes F139_firsts F139_seconds F139_results) (by decide) (by decide) (by decide) (by decide) (by decide) rfl pd_3 rfl (rest := [(.ref b139), (.ref a)]) rfl (W := 2) rfl d3_65 (pc' := 68) rfl ?_
  rintro _ T154 h154 L154 Y154 ⟨rfl, N154, K154⟩
  have X154 := Y154 (X139.old.keep K154 (allS l139 all0)) N154
  show Go p e below _ (State.setTop _ (mkF m 68 #[.val (.ref a), .val (.int (2147483647 : Int32))] [(.ref b139), (.ref a)]))
  have f155 := ((((f110.keep K129 nm0).other W138 (Or.inr (slot_ne (Or.inr (hw _ m62)) (Or.inl (hw _ m37)) (by decide) (t := (.object "com/example/branchwise/branchwise/dd/DiagramManager$ComputedTable")) (t' := (.array .int)) (by decide) (by decide)))).ext E139).keep K154 (nm1 ne140))
  have f156 := ((f141.ext E139).keep K154)
  refine g_putF X154 (host := "") (Or.inl (hw _ m61)) Via.refl f155 f156 (Or.inr ⟨(hw _ m62), rfl, rfl⟩) (hw _ m9) (ty := (.object "com/example/branchwise/branchwise/dd/DiagramManager$ComputedTable")) (by decide) rfl rfl ga d3_68 (pc' := 71) rfl (fun T157 h157 X157 W157 => ?_)
  have F157 := f155.same W157
  refine g_iloadN X157 d3_71 (pc' := 72) rfl rfl ?_
  refine g_iconst X157 d3_72 (pc' := 73) rfl (v := (1 : Int32)) rfl ?_
  refine g_icmp_ge_t X157 d3_73 (pt := 90) (by decide) (by decide) ?_
  refine g_aloadN X157 d3_90 (pc' := 91) rfl rfl rfl ?_
  refine g_iloadN X157 d3_91 (pc' := 92) rfl rfl ?_
  have f158 := (((((f111.keep K129 nm0).other W138 (Or.inr (slot_ne (Or.inr (hw _ m64)) (Or.inl (hw _ m37)) (by decide) (t := .int) (t' := (.array .int)) (by decide) (by decide)))).ext E139).keep K154 (nm1 ne140)).other W157 (Or.inr (slot_ne (Or.inr (hw _ m64)) (Or.inr (hw _ m62)) (by decide) (t := .int) (t' := (.object "com/example/branchwise/branchwise/dd/DiagramManager$ComputedTable")) (by decide) (by decide))))
  have f159 := (f156.wr W157)
  refine g_putF X157 (host := "") (Or.inl (hw _ m63)) Via.refl f158 f159 (Or.inr ⟨(hw _ m64), rfl, rfl⟩) (hw _ m9) (ty := .int) (by decide) rfl rfl ga d3_92 (pc' := 95) rfl (fun T160 h160 X160 W160 => ?_)
  have F160 := f158.same W160
  have f161 := (f159.wr W160)
  have f162 := ((((((f105.keep K129 nm0).other W138 (Or.inr (slot_ne (Or.inl (hw _ m19)) (Or.inl (hw _ m37)) (by decide) (t := (.array .int)) (t' := (.array .int)) (by decide) (by decide)))).ext E139).keep K154 (nm1 ne140)).other W157 (Or.inr (slot_ne (Or.inl (hw _ m19)) (Or.inr (hw _ m62)) (by decide) (t := (.array .int)) (t' := (.object "com/example/branchwise/branchwise/dd/DiagramManager$ComputedTable")) (by decide) (by decide)))).other W160 (Or.inr (slot_ne (Or.inl (hw _ m19)) (Or.inr (hw _ m64)) (by decide) (t := (.array .int)) (t' := .int) (by decide) (by decide))))
  have f163 := ((((((f106.keep K129 nm0).other W138 (Or.inr (slot_ne (Or.inl (hw _ m21)) (Or.inl (hw _ m37)) (by decide) (t := (.array .int)) (t' := (.array .int)) (by decide) (by decide)))).ext E139).keep K154 (nm1 ne140)).other W157 (Or.inr (slot_ne (Or.inl (hw _ m21)) (Or.inr (hw _ m62)) (by decide) (t := (.array .int)) (t' := (.object "com/example/branchwise/branchwise/dd/DiagramManager$ComputedTable")) (by decide) (by decide)))).other W160 (Or.inr (slot_ne (Or.inl (hw _ m21)) (Or.inr (hw _ m64)) (by decide) (t := (.array .int)) (t' := .int) (by decide) (by decide))))
  have f164 := ((((((f107.keep K129 nm0).other W138 (Or.inr (slot_ne (Or.inl (hw _ m23)) (Or.inl (hw _ m37)) (by decide) (t := (.array .int)) (t' := (.array .int)) (by decide) (by decide)))).ext E139).keep K154 (nm1 ne140)).other W157 (Or.inr (slot_ne (Or.inl (hw _ m23)) (Or.inr (hw _ m62)) (by decide) (t := (.array .int)) (t' := (.object "com/example/branchwise/branchwise/dd/DiagramManager$ComputedTable")) (by decide) (by decide)))).other W160 (Or.inr (slot_ne (Or.inl (hw _ m23)) (Or.inr (hw _ m64)) (by decide) (t := (.array .int)) (t' := .int) (by decide) (by decide))))
  have f165 := ((((((f108.keep K129 nm0).other W138 (Or.inr (slot_ne (Or.inl (hw _ m26)) (Or.inl (hw _ m37)) (by decide) (t := (.array .double)) (t' := (.array .int)) (by decide) (by decide)))).ext E139).keep K154 (nm1 ne140)).other W157 (Or.inr (slot_ne (Or.inl (hw _ m26)) (Or.inr (hw _ m62)) (by decide) (t := (.array .double)) (t' := (.object "com/example/branchwise/branchwise/dd/DiagramManager$ComputedTable")) (by decide) (by decide)))).other W160 (Or.inr (slot_ne (Or.inl (hw _ m26)) (Or.inr (hw _ m64)) (by decide) (t := (.array .double)) (t' := .int) (by decide) (by decide))))
  have f166 := ((((F138.ext E139).keep K154 (nm1 ne140)).other W157 (Or.inr (slot_ne (Or.inl (hw _ m37)) (Or.inr (hw _ m62)) (by decide) (t := (.array .int)) (t' := (.object "com/example/branchwise/branchwise/dd/DiagramManager$ComputedTable")) (by decide) (by decide)))).other W160 (Or.inr (slot_ne (Or.inl (hw _ m37)) (Or.inr (hw _ m64)) (by decide) (t := (.array .int)) (t' := .int) (by decide) (by decide))))
  have f167 := ((((((f112.keep K129 nm0).other W138 (Or.inr (slot_ne (Or.inl (hw _ m107)) (Or.inl (hw _ m37)) (by decide) (t := .int) (t' := (.array .int)) (by decide) (by decide)))).ext E139).keep K154 (nm1 ne140)).other W157 (Or.inr (slot_ne (Or.inl (hw _ m107)) (Or.inr (hw _ m62)) (by decide) (t := .int) (t' := (.object "com/example/branchwise/branchwise/dd/DiagramManager$ComputedTable")) (by decide) (by decide)))).other W160 (Or.inr (slot_ne (Or.inl (hw _ m107)) (Or.inr (hw _ m64)) (by decide) (t := .int) (t' := .int) (by decide) (by decide))))
  have f168 := ((((((f113.keep K129 nm0).other W138 (Or.inr (slot_ne (Or.inl (hw _ m109)) (Or.inl (hw _ m37)) (by decide) (t := .int) (t' := (.array .int)) (by decide) (by decide)))).ext E139).keep K154 (nm1 ne140)).other W157 (Or.inr (slot_ne (Or.inl (hw _ m109)) (Or.inr (hw _ m62)) (by decide) (t := .int) (t' := (.object "com/example/branchwise/branchwise/dd/DiagramManager$ComputedTable")) (by decide) (by decide)))).other W160 (Or.inr (slot_ne (Or.inl (hw _ m109)) (Or.inr (hw _ m64)) (by decide) (t := .int) (t' := .int) (by decide) (by decide))))
  have f169 := ((((f143.ext E139).keep K154 (nm1 ne142)).other W157 (Ne.symm ne56)).other W160 (Ne.symm ne56))
  have f170 := ((((f145.ext E139).keep K154 (nm1 ne144)).other W157 (Ne.symm ne61)).other W160 (Ne.symm ne61))
  have f171 := ((((f147.ext E139).keep K154 (nm1 ne146)).other W157 (Ne.symm ne69)).other W160 (Ne.symm ne69))
  have f172 := ((((f149.ext E139).keep K154 (nm1 ne148)).other W157 (Ne.symm ne79)).other W160 (Ne.symm ne79))
  have f173 := ((((f153.ext E139).keep K154 (nm1 ne152)).other W157 (Ne.symm ne130)).other W160 (Ne.symm ne130))
  exact g_ret X160 rfl d3_95 (by decide) (by decide) ⟨rfl, X160.fr, X160.old, b55, b60, b68, b78, b129, f161, f162, f163, f164, f165, f166, f167, f168, F160, f169, f170, f171, f172, f173, ga, l55, l60, l68, l78, g_b129, ne56, ne61, ne69, ne79, ne130, ne63, ne71, ne81, ne131, ne73, ne83, ne132, ne85, ne133, ne134, (fun j hj => absurd hj (Nat.not_lt_zero j)), (fun j hj q => absurd rfl q), (fun j hj q => absurd rfl q)⟩

theorem own_node {q : (Int32 × Int32 × Int32 × UInt64)} {x y z : Int32} {d : UInt64} (h1 : q.1 = x) (h2 : q.2.1 = y) (h3 : q.2.2.1 = z) (h4 : q.2.2.2.toInt64 = d.toInt64) : q = (x, y, z, d) := by
  obtain ⟨q1, q2, q3, q4⟩ := q
  simp only at h1 h2 h3 h4
  rw [h1, h2, h3, own_bits h4]
theorem own_liF (p : (Int32 × Int32 × Int32 × UInt64) → Int32) (N : Nat → (Int32 × Int32 × Int32 × UInt64)) (k : Nat) (z : (Int32 × Int32 × Int32 × UInt64)) : (own_li 1024 (fun j => p (N j))).set k (.int (p z)) = own_li 1024 (fun j => p (own_set N k z j)) := by rw [own_li_set, own_fun]
theorem own_ldF (p : (Int32 × Int32 × Int32 × UInt64) → UInt64) (N : Nat → (Int32 × Int32 × Int32 × UInt64)) (k : Nat) (z : (Int32 × Int32 × Int32 × UInt64)) : (own_ld 1024 (fun j => p (N j))).set k (.double (p z)) = own_ld 1024 (fun j => p (own_set N k z j)) := by rw [own_ld_set, own_fun]
theorem own_ltM {k : Nat} (hk : k < 100) : Int32.ofNat k - (0 : Int32) < (2147483647 : Int32) := by
  rw [Int32.sub_zero, Int32.lt_iff_toInt_lt, own_small (by omega)]; have : (2147483647 : Int32).toInt = 2147483647 := rfl
  omega
theorem own_ne1024 {k : Nat} (hk : k < 100) : ¬ Int32.ofNat k = (1024 : Int32) := fun q => by
  have e := congrArg Int32.toInt q; rw [own_small (by omega)] at e; have : (1024 : Int32).toInt = 1024 := rfl
  omega
theorem own_ne1 {k : Nat} (hk : k < 100) : ¬ Int32.ofNat k = (-1 : Int32) := fun q => by
  have e := congrArg Int32.toInt q; rw [own_small (by omega)] at e; have : (-1 : Int32).toInt = -1 := rfl
  omega
theorem own_le2 {k : Nat} (hk : k < 100) : ¬ (2048 : Int32) < (2 : Int32) * Int32.ofNat (k + 1) := by
  rw [show (2 : Int32) = Int32.ofNat 2 from rfl, ← Int32.ofNat_mul, Int32.lt_iff_toInt_lt, own_small (by omega)]; have : (2048 : Int32).toInt = 2048 := rfl
  omega
theorem own_nnS {k : Nat} {N : Nat → (Int32 × Int32 × Int32 × UInt64)} {z : (Int32 × Int32 × Int32 × UInt64)} (h : ∀ j, j < k → Jvm.Free.Fl.NoNaN64 (N j).2.2.2) (hz : Jvm.Free.Fl.NoNaN64 z.2.2.2) : ∀ j, j < k + 1 → Jvm.Free.Fl.NoNaN64 (own_set N k z j).2.2.2 := by
  intro j hj
  by_cases q : j = k
  · rw [q, own_set_at]; exact hz
  · rw [own_set_ne _ _ q]; exact h j (by omega)
theorem own_tiS {k : Nat} {t : Nat → Int32} (h : ∀ j, j < 2048 → t j ≠ -1 → ∃ i, i < k ∧ t j = Int32.ofNat i) {r : Nat} (hr : r < k) (q : Nat) : ∀ j, j < 2048 → own_set t q (Int32.ofNat r) j ≠ -1 → ∃ i, i < k ∧ own_set t q (Int32.ofNat r) j = Int32.ofNat i := by
  intro j hj hne
  by_cases e : j = q
  · rw [e, own_set_at]; exact ⟨r, hr, rfl⟩
  · rw [own_set_ne _ _ e] at hne ⊢; exact h j hj hne
theorem own_tpS {t : Nat → Int32} {ps : List Nat} (h : ∀ j, j < 2048 → t j ≠ -1 → j ∈ ps) (q : Nat) (z : Int32) : ∀ j, j < 2048 → own_set t q z j ≠ -1 → j ∈ q :: ps := by
  intro j hj hne
  by_cases e : j = q
  · rw [e]; exact List.mem_cons_self
  · rw [own_set_ne _ _ e] at hne; exact List.mem_cons_of_mem _ (h j hj hne)
theorem own_tq {t : Nat → Int32} {ps : List Nat} (h : ∀ j, j < 2048 → t j ≠ -1 → j ∈ ps) {q : Nat} (hq : q < 2048) (hm : (q + 0) % 2048 ∉ ps) : t q = -1 := by
  have e : (q + 0) % 2048 = q := by omega
  rw [e] at hm
  exact Decidable.byContradiction fun g => hm (h q hq g)
theorem own_mod {q r : Nat} {ps : List Nat} (h : (q + (r + 1)) % 2048 ∉ ps) : ((q + 1) % 2048 + r) % 2048 ∉ ps := by
  have e : ((q + 1) % 2048 + r) % 2048 = (q + (r + 1)) % 2048 := by omega
  rw [e]; exact h
theorem own_var (x : Int32) : ∃ y : Int32, (x &&& (2147483647 : Int32)) % (2147483647 : Int32) = y ∧ ¬ y < 0 ∧ y < (2147483647 : Int32) := by
  have e1 : (x &&& (2147483647 : Int32)).toInt = x.toInt % 2 ^ 31 := Jvm.Kit.i32_mask x 2147483647 (k := 31) (by decide) (by decide)
  have h0 : 0 ≤ (x &&& (2147483647 : Int32)).toInt := by rw [e1]; omega
  have e2 : ((x &&& (2147483647 : Int32)) % (2147483647 : Int32)).toInt = (x &&& (2147483647 : Int32)).toInt % (2147483647 : Int32).toInt := by
    rw [Int32.toInt_mod, Int.tmod_eq_emod_of_nonneg h0]
  have e3 : (2147483647 : Int32).toInt = 2147483647 := rfl
  have e4 : (0 : Int32).toInt = 0 := rfl
  refine ⟨_, rfl, ?_, ?_⟩
  · rw [Int32.lt_iff_toInt_lt, e2, e3]; omega
  · rw [Int32.lt_iff_toInt_lt, e2, e3]; omega
theorem own_mm {a y z : Int32} (h1 : ¬ a < y) (h2 : ¬ z < a) : ¬ z < y := by
  rw [Int32.lt_iff_toInt_lt] at *; omega
theorem own_dmE {Z : State} {n0 : Nat} {h : Heap} {a : Addr} {k : Nat} {N : Nat → (Int32 × Int32 × Int32 × UInt64)} {t : Nat → Int32} {ps : List Nat} (H : DM Z n0 h a k N t ps) : Exa Z h a "com/example/branchwise/branchwise/dd/DiagramManager" := by
  obtain ⟨av, ah, al, ad, au, E, -⟩ := H; exact E
/-- what a maker of nodes promises: the node r, b nodes more at most, the older as they were -/
def FQ (Z : State) (n0 : Nat) (a : Addr) (k : Nat) (N : Nat → (Int32 × Int32 × Int32 × UInt64)) (b : Nat) (g : (Nat → (Int32 × Int32 × Int32 × UInt64)) → Nat → Nat → Prop) (v : Option Value) (h : Heap) (L : List Loc) : Prop :=
  ∃ (r k' : Nat) (N' : Nat → (Int32 × Int32 × Int32 × UInt64)) (t' : Nat → Int32) (ps' : List Nat), v = some (.int (Int32.ofNat r)) ∧ Fr n0 L ∧ Old Z n0 h ∧ DM Z n0 h a k' N' t' ps' ∧ r < k' ∧ k ≤ k' ∧ k' ≤ k + b ∧ ps'.length ≤ k' ∧ g N' k' r ∧ ∀ j, j < k → N' j = N j
theorem d14_0 : decode jdk_117_method_6_code 0 = .ok (.dload_n 0, 1) := by decide +kernel
theorem d14_1 : decode jdk_117_method_6_code 1 = .ok (.dload_n 0, 1) := by decide +kernel
theorem d14_2 : decode jdk_117_method_6_code 2 = .ok (.dcmp .l, 1) := by decide +kernel
theorem d14_3 : decode jdk_117_method_6_code 3 = .ok (.ifCond .eq 7, 3) := by decide +kernel
theorem d14_10 : decode jdk_117_method_6_code 10 = .ok (.iconst 0, 1) := by decide +kernel
theorem d14_11 : decode jdk_117_method_6_code 11 = .ok (.ireturn, 1) := by decide +kernel
theorem ef_14 (m : MethodId) (d : UInt64) : entryFrame m #[(.double d)] 2 = mkF m 0 #[.val (.double d), .second] [] := by first | (simp [entryFrame, mkF, argsToLocals, Value.category]; done) | rfl
def R14 : Room := ({ frames := 0, cells := 0, slots := 0, locals := 0 } : Room)
set_option maxRecDepth 65536 in
set_option maxHeartbeats 40000000 in
theorem rm14 (l : Launch) (Z : State) (a0 : Array Value) (hw : ∀ d ∈ tables_1, d.before a0 Z = true) (d : UInt64) (h0 : Heap) (n0 : Nat) (hO : Old Z n0 h0) (hn : Jvm.Free.Fl.NoNaN64 d) :
    Con l Z (⟨"java/lang/Double", "isNaN", "(D)Z"⟩ : MethodName) jdk_117_method_6_code 2 (some .boolean) [] R14 R14.cells R14.slots #[(.double d)] h0 (fun v h L => v = some (.int (0 : Int32)) ∧ h0 = h ∧ L = []) := by
  refine Con.intro (n0 := n0) (plainFor_of_name pn_3) (fun m => ef_14 m d) hO ?_
  intro p e s m below meth cc T hs0 X0
  refine g_dloadN X0 d14_0 (pc' := 1) rfl rfl ?_
  refine g_dloadN X0 d14_1 (pc' := 2) rfl rfl ?_
  refine g_dcmp X0 d14_2 (pc' := 3) rfl ?_
  refine g_if_eq_t X0 d14_3 (pt := 10) (by decide) (dcmpV_self hn _) ?_
  refine g_iconst X0 d14_10 (pc' := 11) rfl (v := (0 : Int32)) rfl ?_
  exact g_retN X0 (Or.inl rfl) rfl d14_11 (by decide) (by decide) ⟨rfl, rfl, rfl⟩

theorem d13_0 : decode jdk_117_method_23_code 0 = .ok (.dload_n 0, 1) := by decide +kernel
theorem d13_1 : decode jdk_117_method_23_code 1 = .ok (.invokestatic 122, 3) := by decide +kernel
theorem d13_4 : decode jdk_117_method_23_code 4 = .ok (.ifCond .ne 8, 3) := by decide +kernel
theorem d13_7 : decode jdk_117_method_23_code 7 = .ok (.dload_n 0, 1) := by decide +kernel
theorem d13_8 : decode jdk_117_method_23_code 8 = .ok (.invokestatic 134, 3) := by decide +kernel
theorem d13_11 : decode jdk_117_method_23_code 11 = .ok (.lreturn, 1) := by decide +kernel
theorem ef_13 (m : MethodId) (d : UInt64) : entryFrame m #[(.double d)] 2 = mkF m 0 #[.val (.double d), .second] [] := by first | (simp [entryFrame, mkF, argsToLocals, Value.category]; done) | rfl
def R13 : Room := ({ frames := 1, cells := 0, slots := 0, locals := 40 } : Room)
set_option maxRecDepth 65536 in
set_option maxHeartbeats 40000000 in
theorem rm13 (l : Launch) (Z : State) (a0 : Array Value) (hw : ∀ d ∈ tables_1, d.before a0 Z = true) (d : UInt64) (h0 : Heap) (n0 : Nat) (hO : Old Z n0 h0) (hn : Jvm.Free.Fl.NoNaN64 d) :
    Con l Z (⟨"java/lang/Double", "doubleToLongBits", "(D)J"⟩ : MethodName) jdk_117_method_23_code 2 (some .long) [] R13 R13.cells R13.slots #[(.double d)] h0 (fun v h L => v = some (.long d.toInt64) ∧ h0 = h ∧ L = []) := by
  refine Con.intro (n0 := n0) (plainFor_of_name pn_3) (fun m => ef_13 m d) hO ?_
  intro p e s m below meth cc T hs0 X0
  refine g_dloadN X0 d13_0 (pc' := 1) rfl rfl ?_
  refine g_callS X0 (y := (⟨"java/lang/Double", "isNaN", "(D)Z"⟩ : MethodName)) [(.double d)] (hw _ m85) (hw _ m86) (hw _ m72) (hw _ m87) (hw _ m72) (rm14 l Z a0 hw d h0 n0 X0.old hn) (by decide) (by decide) (by decide) (by decide) (by decide) rfl pd_4 rfl (rest := []) rfl (W := 0) rfl d13_1 (pc' := 4) rfl ?_
  rintro _ T174 _ _ Y174 ⟨rfl, rfl, rfl⟩
  have X174 := Y174 X0.old (Fr.nil _)
  show Go p e below _ (State.setTop _ (mkF m 4 #[.val (.double d), .second] [(.int (0 : Int32))]))
  refine g_if_ne_f X174 d13_4 (pc' := 7) rfl (by decide) ?_
  refine g_dloadN X174 d13_7 (pc' := 8) rfl rfl ?_
  refine g_rawbits X174 (W := 0) (hw _ m88) (hw _ m90) (hw _ m89) (hw _ m72) rfl rfl (by decide) (by decide) d13_8 (pc' := 11) rfl (fun T175 X175 => ?_)
  exact g_retL X175 rfl d13_11 (by decide) (by decide) ⟨rfl, rfl, rfl⟩

theorem d16_0 : decode prog_11_method_49_code 0 = .ok (.iload_n 0, 1) := by decide +kernel
theorem d16_1 : decode prog_11_method_49_code 1 = .ok (.i2l, 1) := by decide +kernel
theorem d16_2 : decode prog_11_method_49_code 2 = .ok (.ldc2_w 463, 3) := by decide +kernel
theorem d16_5 : decode prog_11_method_49_code 5 = .ok (.lmul, 1) := by decide +kernel
theorem d16_6 : decode prog_11_method_49_code 6 = .ok (.lstore 5, 2) := by decide +kernel
theorem d16_8 : decode prog_11_method_49_code 8 = .ok (.lload 5, 2) := by decide +kernel
theorem d16_10 : decode prog_11_method_49_code 10 = .ok (.iload_n 1, 1) := by decide +kernel
theorem d16_11 : decode prog_11_method_49_code 11 = .ok (.i2l, 1) := by decide +kernel
theorem d16_12 : decode prog_11_method_49_code 12 = .ok (.lxor, 1) := by decide +kernel
theorem d16_13 : decode prog_11_method_49_code 13 = .ok (.ldc2_w 465, 3) := by decide +kernel
theorem d16_16 : decode prog_11_method_49_code 16 = .ok (.lmul, 1) := by decide +kernel
theorem d16_17 : decode prog_11_method_49_code 17 = .ok (.lstore 5, 2) := by decide +kernel
theorem d16_19 : decode prog_11_method_49_code 19 = .ok (.lload 5, 2) := by decide +kernel
theorem d16_21 : decode prog_11_method_49_code 21 = .ok (.iload_n 2, 1) := by decide +kernel
theorem d16_22 : decode prog_11_method_49_code 22 = .ok (.i2l, 1) := by decide +kernel
theorem d16_23 : decode prog_11_method_49_code 23 = .ok (.lxor, 1) := by decide +kernel
theorem d16_24 : decode prog_11_method_49_code 24 = .ok (.ldc2_w 467, 3) := by decide +kernel
theorem d16_27 : decode prog_11_method_49_code 27 = .ok (.lmul, 1) := by decide +kernel
theorem d16_28 : decode prog_11_method_49_code 28 = .ok (.lstore 5, 2) := by decide +kernel
theorem d16_30 : decode prog_11_method_49_code 30 = .ok (.lload 5, 2) := by decide +kernel
theorem d16_32 : decode prog_11_method_49_code 32 = .ok (.lload_n 3, 1) := by decide +kernel
theorem d16_33 : decode prog_11_method_49_code 33 = .ok (.lxor, 1) := by decide +kernel
theorem d16_34 : decode prog_11_method_49_code 34 = .ok (.ldc2_w 463, 3) := by decide +kernel
theorem d16_37 : decode prog_11_method_49_code 37 = .ok (.lmul, 1) := by decide +kernel
theorem d16_38 : decode prog_11_method_49_code 38 = .ok (.lstore 5, 2) := by decide +kernel
theorem d16_40 : decode prog_11_method_49_code 40 = .ok (.lload 5, 2) := by decide +kernel
theorem d16_42 : decode prog_11_method_49_code 42 = .ok (.lload 5, 2) := by decide +kernel
theorem d16_44 : decode prog_11_method_49_code 44 = .ok (.bipush 31, 2) := by decide +kernel
theorem d16_46 : decode prog_11_method_49_code 46 = .ok (.lushr, 1) := by decide +kernel
theorem d16_47 : decode prog_11_method_49_code 47 = .ok (.lxor, 1) := by decide +kernel
theorem d16_48 : decode prog_11_method_49_code 48 = .ok (.lload 5, 2) := by decide +kernel
theorem d16_50 : decode prog_11_method_49_code 50 = .ok (.bipush 47, 2) := by decide +kernel
theorem d16_52 : decode prog_11_method_49_code 52 = .ok (.lushr, 1) := by decide +kernel
theorem d16_53 : decode prog_11_method_49_code 53 = .ok (.lxor, 1) := by decide +kernel
theorem d16_54 : decode prog_11_method_49_code 54 = .ok (.l2i, 1) := by decide +kernel
theorem d16_55 : decode prog_11_method_49_code 55 = .ok (.ireturn, 1) := by decide +kernel
theorem ef_16 (m : MethodId) (a : Int32) (b : Int32) (c' : Int32) (d : Int64) : entryFrame m #[(.int a), (.int b), (.int c'), (.long d)] 7 = mkF m 0 #[.val (.int a), .val (.int b), .val (.int c'), .val (.long d), .second, .unset, .unset] [] := by first | (simp [entryFrame, mkF, argsToLocals, Value.category]; done) | rfl
def R16 : Room := ({ frames := 0, cells := 0, slots := 0, locals := 0 } : Room)
set_option maxRecDepth 65536 in
set_option maxHeartbeats 40000000 in
theorem rm16 (l : Launch) (Z : State) (a0 : Array Value) (hw : ∀ d ∈ tables_1, d.before a0 Z = true) (a : Int32) (b : Int32) (c' : Int32) (d : Int64) (h0 : Heap) (n0 : Nat) (hO : Old Z n0 h0)  :
    Con l Z (⟨"com/example/branchwise/branchwise/dd/DiagramManager", "hash", "(IIIJ)I"⟩ : MethodName) prog_11_method_49_code 7 (some .int) [] R16 R16.cells R16.slots #[(.int a), (.int b), (.int c'), (.long d)] h0 (fun v h L => ∃ z : Int32, v = some (.int z) ∧ True ∧ h0 = h ∧ L = []) := by
  refine Con.intro (n0 := n0) (plainFor_of_name pn_1) (fun m => ef_16 m a b c' d) hO ?_
  intro p e s m below meth cc T hs0 X0
  refine g_iloadN X0 d16_0 (pc' := 1) rfl rfl ?_
  refine g_i2l X0 d16_1 (pc' := 2) rfl ?_
  refine g_ldc2 X0 (hw _ m99) d16_2 (pc' := 5) rfl ?_
  refine g_lmul X0 d16_5 (pc' := 6) rfl ?_
  refine g_lstore X0 d16_6 (pc' := 8) rfl (L' := #[.val (.int a), .val (.int b), .val (.int c'), .val (.long d), .second, .val (.long ((a.toInt64) * (-7046029254386353131 : Int64))), .second]) rfl ?_
  refine g_lload X0 d16_8 (pc' := 10) rfl rfl ?_
  refine g_iloadN X0 d16_10 (pc' := 11) rfl rfl ?_
  refine g_i2l X0 d16_11 (pc' := 12) rfl ?_
  refine g_lxor X0 d16_12 (pc' := 13) rfl ?_
  refine g_ldc2 X0 (hw _ m100) d16_13 (pc' := 16) rfl ?_
  refine g_lmul X0 d16_16 (pc' := 17) rfl ?_
  refine g_lstore X0 d16_17 (pc' := 19) rfl (L' := #[.val (.int a), .val (.int b), .val (.int c'), .val (.long d), .second, .val (.long ((((a.toInt64) * (-7046029254386353131 : Int64)) ^^^ (b.toInt64)) * (-4658895280553007687 : Int64))), .second]) rfl ?_
  refine g_lload X0 d16_19 (pc' := 21) rfl rfl ?_
  refine g_iloadN X0 d16_21 (pc' := 22) rfl rfl ?_
  refine g_i2l X0 d16_22 (pc' := 23) rfl ?_
  refine g_lxor X0 d16_23 (pc' := 24) rfl ?_
  refine g_ldc2 X0 (hw _ m101) d16_24 (pc' := 27) rfl ?_
  refine g_lmul X0 d16_27 (pc' := 28) rfl ?_
  refine g_lstore X0 d16_28 (pc' := 30) rfl (L' := #[.val (.int a), .val (.int b), .val (.int c'), .val (.long d), .second, .val (.long ((((((a.toInt64) * (-7046029254386353131 : Int64)) ^^^ (b.toInt64)) * (-4658895280553007687 : Int64)) ^^^ (c'.toInt64)) * (-7723592293110705685 : Int64))), .second]) rfl ?_
  refine g_lload X0 d16_30 (pc' := 32) rfl rfl ?_
  refine g_lloadN X0 d16_32 (pc' := 33) rfl rfl ?_
  refine g_lxor X0 d16_33 (pc' := 34) rfl ?_
  refine g_ldc2 X0 (hw _ m99) d16_34 (pc' := 37) rfl ?_
  refine g_lmul X0 d16_37 (pc' := 38) rfl ?_
  refine g_lstore X0 d16_38 (pc' := 40) rfl (L' := #[.val (.int a), .val (.int b), .val (.int c'), .val (.long d), .second, .val (.long ((((((((a.toInt64) * (-7046029254386353131 : Int64)) ^^^ (b.toInt64)) * (-4658895280553007687 : Int64)) ^^^ (c'.toInt64)) * (-7723592293110705685 : Int64)) ^^^ d) * (-7046029254386353131 : Int64))), .second]) rfl ?_
  refine g_lload X0 d16_40 (pc' := 42) rfl rfl ?_
  refine g_lload X0 d16_42 (pc' := 44) rfl rfl ?_
  refine g_bipush X0 d16_44 (pc' := 46) rfl (v := (31 : Int32)) rfl ?_
  refine g_lushr X0 d16_46 (pc' := 47) rfl ?_
  refine g_lxor X0 d16_47 (pc' := 48) rfl ?_
  refine g_lload X0 d16_48 (pc' := 50) rfl rfl ?_
  refine g_bipush X0 d16_50 (pc' := 52) rfl (v := (47 : Int32)) rfl ?_
  refine g_lushr X0 d16_52 (pc' := 53) rfl ?_
  refine g_lxor X0 d16_53 (pc' := 54) rfl ?_
  refine g_l2i X0 d16_54 (pc' := 55) rfl ?_
  exact g_retI X0 rfl d16_55 (by decide) (by decide) ⟨_, rfl, trivial, rfl, rfl⟩

theorem d21_0 : decode prog_11_method_47_code 0 = .ok (.iload_n 0, 1) := by decide +kernel
theorem d21_1 : decode prog_11_method_47_code 1 = .ok (.ifCond .lt 9, 3) := by decide +kernel
theorem d21_4 : decode prog_11_method_47_code 4 = .ok (.iload_n 0, 1) := by decide +kernel
theorem d21_5 : decode prog_11_method_47_code 5 = .ok (.ldc 5, 2) := by decide +kernel
theorem d21_7 : decode prog_11_method_47_code 7 = .ok (.if_icmp .lt 17, 3) := by decide +kernel
theorem d21_24 : decode prog_11_method_47_code 24 = .ok (.return_, 1) := by decide +kernel
theorem ef_21 (m : MethodId) (x : Int32) : entryFrame m #[(.int x)] 1 = mkF m 0 #[.val (.int x)] [] := by first | (simp [entryFrame, mkF, argsToLocals, Value.category]; done) | rfl
def R21 : Room := ({ frames := 0, cells := 0, slots := 0, locals := 0 } : Room)
set_option maxRecDepth 65536 in
set_option maxHeartbeats 40000000 in
theorem rm21 (l : Launch) (Z : State) (a0 : Array Value) (hw : ∀ d ∈ tables_1, d.before a0 Z = true) (x : Int32) (h0 : Heap) (n0 : Nat) (hO : Old Z n0 h0) (h1 : ¬ x < 0) (h2 : x < (2147483647 : Int32)) :
    Con l Z (⟨"com/example/branchwise/branchwise/dd/DiagramManager", "checkVariable", "(I)V"⟩ : MethodName) prog_11_method_47_code 1 none [] R21 R21.cells R21.slots #[(.int x)] h0 (fun v h L => v = none ∧ h0 = h ∧ L = []) := by
  refine Con.intro (n0 := n0) (plainFor_of_name pn_1) (fun m => ef_21 m x) hO ?_
  intro p e s m below meth cc T hs0 X0
  refine g_iloadN X0 d21_0 (pc' := 1) rfl rfl ?_
  refine g_if_lt_f X0 d21_1 (pc' := 4) rfl h1 ?_
  refine g_iloadN X0 d21_4 (pc' := 5) rfl rfl ?_
  refine g_ldc X0 (hw _ m91) d21_5 (pc' := 7) rfl ?_
  refine g_icmp_lt_t X0 d21_7 (pt := 24) (by decide) h2 ?_
  exact g_ret X0 rfl d21_24 (by decide) (by decide) ⟨rfl, rfl, rfl⟩

theorem d17_0 : decode prog_11_method_43_code 0 = .ok (.aload_n 0, 1) := by decide +kernel
theorem d17_1 : decode prog_11_method_43_code 1 = .ok (.getfield 216, 3) := by decide +kernel
theorem d17_4 : decode prog_11_method_43_code 4 = .ok (.aload_n 0, 1) := by decide +kernel
theorem d17_5 : decode prog_11_method_43_code 5 = .ok (.getfield 224, 3) := by decide +kernel
theorem d17_8 : decode prog_11_method_43_code 8 = .ok (.isub, 1) := by decide +kernel
theorem d17_9 : decode prog_11_method_43_code 9 = .ok (.aload_n 0, 1) := by decide +kernel
theorem d17_10 : decode prog_11_method_43_code 10 = .ok (.getfield 55, 3) := by decide +kernel
theorem d17_13 : decode prog_11_method_43_code 13 = .ok (.if_icmp .lt 15, 3) := by decide +kernel
theorem d17_28 : decode prog_11_method_43_code 28 = .ok (.aload_n 0, 1) := by decide +kernel
theorem d17_29 : decode prog_11_method_43_code 29 = .ok (.getfield 224, 3) := by decide +kernel
theorem d17_32 : decode prog_11_method_43_code 32 = .ok (.ifCond .le 27, 3) := by decide +kernel
theorem d17_59 : decode prog_11_method_43_code 59 = .ok (.aload_n 0, 1) := by decide +kernel
theorem d17_60 : decode prog_11_method_43_code 60 = .ok (.getfield 216, 3) := by decide +kernel
theorem d17_63 : decode prog_11_method_43_code 63 = .ok (.aload_n 0, 1) := by decide +kernel
theorem d17_64 : decode prog_11_method_43_code 64 = .ok (.getfield 15, 3) := by decide +kernel
theorem d17_67 : decode prog_11_method_43_code 67 = .ok (.arraylength, 1) := by decide +kernel
theorem d17_68 : decode prog_11_method_43_code 68 = .ok (.if_icmp .ne 76, 3) := by decide +kernel
theorem d17_144 : decode prog_11_method_43_code 144 = .ok (.aload_n 0, 1) := by decide +kernel
theorem d17_145 : decode prog_11_method_43_code 145 = .ok (.getfield 216, 3) := by decide +kernel
theorem d17_148 : decode prog_11_method_43_code 148 = .ok (.istore 6, 2) := by decide +kernel
theorem d17_150 : decode prog_11_method_43_code 150 = .ok (.aload_n 0, 1) := by decide +kernel
theorem d17_151 : decode prog_11_method_43_code 151 = .ok (.dup, 1) := by decide +kernel
theorem d17_152 : decode prog_11_method_43_code 152 = .ok (.getfield 216, 3) := by decide +kernel
theorem d17_155 : decode prog_11_method_43_code 155 = .ok (.iconst 1, 1) := by decide +kernel
theorem d17_156 : decode prog_11_method_43_code 156 = .ok (.iadd, 1) := by decide +kernel
theorem d17_157 : decode prog_11_method_43_code 157 = .ok (.putfield 216, 3) := by decide +kernel
theorem d17_160 : decode prog_11_method_43_code 160 = .ok (.aload_n 0, 1) := by decide +kernel
theorem d17_161 : decode prog_11_method_43_code 161 = .ok (.getfield 15, 3) := by decide +kernel
theorem d17_164 : decode prog_11_method_43_code 164 = .ok (.iload 6, 2) := by decide +kernel
theorem d17_166 : decode prog_11_method_43_code 166 = .ok (.iload_n 1, 1) := by decide +kernel
theorem d17_167 : decode prog_11_method_43_code 167 = .ok (.iastore, 1) := by decide +kernel
theorem d17_168 : decode prog_11_method_43_code 168 = .ok (.aload_n 0, 1) := by decide +kernel
theorem d17_169 : decode prog_11_method_43_code 169 = .ok (.getfield 19, 3) := by decide +kernel
theorem d17_172 : decode prog_11_method_43_code 172 = .ok (.iload 6, 2) := by decide +kernel
theorem d17_174 : decode prog_11_method_43_code 174 = .ok (.iload_n 2, 1) := by decide +kernel
theorem d17_175 : decode prog_11_method_43_code 175 = .ok (.iastore, 1) := by decide +kernel
theorem d17_176 : decode prog_11_method_43_code 176 = .ok (.aload_n 0, 1) := by decide +kernel
theorem d17_177 : decode prog_11_method_43_code 177 = .ok (.getfield 22, 3) := by decide +kernel
theorem d17_180 : decode prog_11_method_43_code 180 = .ok (.iload 6, 2) := by decide +kernel
theorem d17_182 : decode prog_11_method_43_code 182 = .ok (.iload_n 3, 1) := by decide +kernel
theorem d17_183 : decode prog_11_method_43_code 183 = .ok (.iastore, 1) := by decide +kernel
theorem d17_184 : decode prog_11_method_43_code 184 = .ok (.aload_n 0, 1) := by decide +kernel
theorem d17_185 : decode prog_11_method_43_code 185 = .ok (.getfield 25, 3) := by decide +kernel
theorem d17_188 : decode prog_11_method_43_code 188 = .ok (.iload 6, 2) := by decide +kernel
theorem d17_190 : decode prog_11_method_43_code 190 = .ok (.dload 4, 2) := by decide +kernel
theorem d17_192 : decode prog_11_method_43_code 192 = .ok (.dastore, 1) := by decide +kernel
theorem d17_193 : decode prog_11_method_43_code 193 = .ok (.iconst 2, 1) := by decide +kernel
theorem d17_194 : decode prog_11_method_43_code 194 = .ok (.aload_n 0, 1) := by decide +kernel
theorem d17_195 : decode prog_11_method_43_code 195 = .ok (.getfield 216, 3) := by decide +kernel
theorem d17_198 : decode prog_11_method_43_code 198 = .ok (.imul, 1) := by decide +kernel
theorem d17_199 : decode prog_11_method_43_code 199 = .ok (.aload_n 0, 1) := by decide +kernel
theorem d17_200 : decode prog_11_method_43_code 200 = .ok (.getfield 36, 3) := by decide +kernel
theorem d17_203 : decode prog_11_method_43_code 203 = .ok (.arraylength, 1) := by decide +kernel
theorem d17_204 : decode prog_11_method_43_code 204 = .ok (.if_icmp .le 28, 3) := by decide +kernel
theorem d17_232 : decode prog_11_method_43_code 232 = .ok (.iload 6, 2) := by decide +kernel
theorem d17_234 : decode prog_11_method_43_code 234 = .ok (.ireturn, 1) := by decide +kernel
theorem ef_17 (m : MethodId) (a : Addr) (x : Int32) (hi : Int32) (lo : Int32) (d : UInt64) : entryFrame m #[(.ref a), (.int x), (.int hi), (.int lo), (.double d)] 8 = mkF m 0 #[.val (.ref a), .val (.int x), .val (.int hi), .val (.int lo), .val (.double d), .second, .unset, .unset] [] := by first | (simp [entryFrame, mkF, argsToLocals, Value.category]; done) | rfl
def R17 : Room := ({ frames := 0, cells := 0, slots := 0, locals := 0 } : Room)
set_option maxRecDepth 65536 in
set_option maxHeartbeats 40000000 in
theorem rm17 (l : Launch) (Z : State) (a0 : Array Value) (hw : ∀ d ∈ tables_1, d.before a0 Z = true) (a : Addr) (x : Int32) (hi : Int32) (lo : Int32) (d : UInt64) (h0 : Heap) (n0 : Nat) (hO : Old Z n0 h0) (k : Nat) (N : Nat → Int32 × Int32 × Int32 × UInt64) (t : Nat → Int32) (ps : List Nat) (H : DM Z n0 h0 a k N t ps) (hk : k < 100) (hn : Jvm.Free.Fl.NoNaN64 d) :
    Con l Z (⟨"com/example/branchwise/branchwise/dd/DiagramManager", "addNode", "(IIID)I"⟩ : MethodName) prog_11_method_43_code 8 (some .int) [] R17 R17.cells R17.slots #[(.ref a), (.int x), (.int hi), (.int lo), (.double d)] h0 (fun v h L => v = some (.int (Int32.ofNat k)) ∧ Fr n0 L ∧ Old Z n0 h ∧ DM Z n0 h a (k + 1) (own_set N k (x, hi, lo, d)) t ps) := by
  refine Con.intro (n0 := n0) (plainFor_of_name pn_1) (fun m => ef_17 m a x hi lo d) hO ?_
  intro p e s m below meth cc T hs0 X0
  obtain ⟨av, ah, al, ad, au, E_a, F_variables, F_highs, F_lows, F_values, F_uniqueTable, F_size, F_freeCount, F_nodeLimit, A_av, A_ah, A_al, A_ad, A_au, g_a, g_av, g_ah, g_al, g_ad, g_au, n_a_av, n_a_ah, n_a_al, n_a_ad, n_a_au, n_av_ah, n_av_al, n_av_ad, n_av_au, n_ah_al, n_ah_ad, n_ah_au, n_al_ad, n_al_au, n_ad_au, hnn, hti, htp⟩ := id H
  refine g_aloadN X0 d17_0 (pc' := 1) rfl rfl rfl ?_
  refine g_getF X0 (host := "") (Or.inl (hw _ m106)) Via.refl F_size d17_1 (pc' := 4) rfl (fun T176 X176 => ?_)
  refine g_aloadN X176 d17_4 (pc' := 5) rfl rfl rfl ?_
  refine g_getF X176 (host := "") (Or.inl (hw _ m108)) Via.refl F_freeCount d17_5 (pc' := 8) rfl (fun T177 X177 => ?_)
  refine g_isub X177 d17_8 (pc' := 9) rfl ?_
  refine g_aloadN X177 d17_9 (pc' := 10) rfl rfl rfl ?_
  refine g_getF X177 (host := "") (Or.inl (hw _ m63)) Via.refl F_nodeLimit d17_10 (pc' := 13) rfl (fun T178 X178 => ?_)
  refine g_icmp_lt_t X178 d17_13 (pt := 28) (by decide) (own_ltM hk) ?_
  refine g_aloadN X178 d17_28 (pc' := 29) rfl rfl rfl ?_
  refine g_getF X178 (host := "") (Or.inl (hw _ m108)) Via.refl F_freeCount d17_29 (pc' := 32) rfl (fun T179 X179 => ?_)
  refine g_if_le_t X179 d17_32 (pt := 59) (by decide) (by decide) ?_
  refine g_aloadN X179 d17_59 (pc' := 60) rfl rfl rfl ?_
  refine g_getF X179 (host := "") (Or.inl (hw _ m106)) Via.refl F_size d17_60 (pc' := 63) rfl (fun T180 X180 => ?_)
  refine g_aloadN X180 d17_63 (pc' := 64) rfl rfl rfl ?_
  refine g_getF X180 (host := "") (Or.inl (hw _ m18)) Via.refl F_variables d17_64 (pc' := 67) rfl (fun T181 X181 => ?_)
  refine g_arraylength X181 (n := (1024 : Int32)) A_av (by rw [own_li_len] <;> rfl) d17_67 (pc' := 68) rfl ?_
  refine g_icmp_ne_t X181 d17_68 (pt := 144) (by decide) (own_ne1024 hk) ?_
  refine g_aloadN X181 d17_144 (pc' := 145) rfl rfl rfl ?_
  refine g_getF X181 (host := "") (Or.inl (hw _ m106)) Via.refl F_size d17_145 (pc' := 148) rfl (fun T182 X182 => ?_)
  refine g_istore X182 d17_148 (pc' := 150) rfl (L' := #[.val (.ref a), .val (.int x), .val (.int hi), .val (.int lo), .val (.double d), .second, .val (.int (Int32.ofNat k)), .unset]) rfl ?_
  refine g_aloadN X182 d17_150 (pc' := 151) rfl rfl rfl ?_
  refine g_dup X182 d17_151 (pc' := 152) rfl rfl ?_
  refine g_getF X182 (host := "") (Or.inl (hw _ m106)) Via.refl F_size d17_152 (pc' := 155) rfl (fun T183 X183 => ?_)
  refine g_iconst X183 d17_155 (pc' := 156) rfl (v := (1 : Int32)) rfl ?_
  refine g_iadd X183 d17_156 (pc' := 157) rfl ?_
  rw [own_succ]
  refine g_putF X183 (host := "") (Or.inl (hw _ m106)) Via.refl F_size E_a (Or.inl (hw _ m107)) (hw _ m9) (ty := .int) (by decide) rfl rfl g_a d17_157 (pc' := 160) rfl (fun T184 h184 X184 W184 => ?_)
  have F184 := F_size.same W184
  refine g_aloadN X184 d17_160 (pc' := 161) rfl rfl rfl ?_
  have f185 := (F_variables.other W184 (Or.inr (slot_ne (Or.inl (hw _ m19)) (Or.inl (hw _ m107)) (by decide) (t := (.array .int)) (t' := .int) (by decide) (by decide))))
  refine g_getF X184 (host := "") (Or.inl (hw _ m18)) Via.refl f185 d17_161 (pc' := 164) rfl (fun T186 X186 => ?_)
  refine g_iload X186 d17_164 (pc' := 166) rfl rfl ?_
  refine g_iloadN X186 d17_166 (pc' := 167) rfl rfl ?_
  have f187 := (A_av.other W184 (Ne.symm n_a_av))
  refine g_iastore X186 (i := k) f187 (own_small (by omega)) (by rw [own_li_len]; omega) g_av d17_167 (pc' := 168) rfl (fun T188 h188 X188 W188 A188 => ?_)
  have A188 : Arx Z h188 av .int (own_li 1024 (fun j => ((own_set N k (x, hi, lo, d)) j).1)) := by rw [show own_li 1024 (fun j => ((own_set N k (x, hi, lo, d)) j).1) = (own_li 1024 (fun j => (N j).1)).set k (.int x) from (own_liF (fun q => q.1) N k (x, hi, lo, d)).symm]; exact A188
  refine g_aloadN X188 d17_168 (pc' := 169) rfl rfl rfl ?_
  have f189 := ((F_highs.other W184 (Or.inr (slot_ne (Or.inl (hw _ m21)) (Or.inl (hw _ m107)) (by decide) (t := (.array .int)) (t' := .int) (by decide) (by decide)))).other W188 (Or.inl n_a_av))
  refine g_getF X188 (host := "") (Or.inl (hw _ m20)) Via.refl f189 d17_169 (pc' := 172) rfl (fun T190 X190 => ?_)
  refine g_iload X190 d17_172 (pc' := 174) rfl rfl ?_
  refine g_iloadN X190 d17_174 (pc' := 175) rfl rfl ?_
  have f191 := ((A_ah.other W184 (Ne.symm n_a_ah)).other W188 (Ne.symm n_av_ah))
  refine g_iastore X190 (i := k) f191 (own_small (by omega)) (by rw [own_li_len]; omega) g_ah d17_175 (pc' := 176) rfl (fun T192 h192 X192 W192 A192 => ?_)
  have A192 : Arx Z h192 ah .int (own_li 1024 (fun j => ((own_set N k (x, hi, lo, d)) j).2.1)) := by rw [show own_li 1024 (fun j => ((own_set N k (x, hi, lo, d)) j).2.1) = (own_li 1024 (fun j => (N j).2.1)).set k (.int hi) from (own_liF (fun q => q.2.1) N k (x, hi, lo, d)).symm]; exact A192
  refine g_aloadN X192 d17_176 (pc' := 177) rfl rfl rfl ?_
  have f193 := (((F_lows.other W184 (Or.inr (slot_ne (Or.inl (hw _ m23)) (Or.inl (hw _ m107)) (by decide) (t := (.array .int)) (t' := .int) (by decide) (by decide)))).other W188 (Or.inl n_a_av)).other W192 (Or.inl n_a_ah))
  refine g_getF X192 (host := "") (Or.inl (hw _ m22)) Via.refl f193 d17_177 (pc' := 180) rfl (fun T194 X194 => ?_)
  refine g_iload X194 d17_180 (pc' := 182) rfl rfl ?_
  refine g_iloadN X194 d17_182 (pc' := 183) rfl rfl ?_
  have f195 := (((A_al.other W184 (Ne.symm n_a_al)).other W188 (Ne.symm n_av_al)).other W192 (Ne.symm n_ah_al))
  refine g_iastore X194 (i := k) f195 (own_small (by omega)) (by rw [own_li_len]; omega) g_al d17_183 (pc' := 184) rfl (fun T196 h196 X196 W196 A196 => ?_)
  have A196 : Arx Z h196 al .int (own_li 1024 (fun j => ((own_set N k (x, hi, lo, d)) j).2.2.1)) := by rw [show own_li 1024 (fun j => ((own_set N k (x, hi, lo, d)) j).2.2.1) = (own_li 1024 (fun j => (N j).2.2.1)).set k (.int lo) from (own_liF (fun q => q.2.2.1) N k (x, hi, lo, d)).symm]; exact A196
  refine g_aloadN X196 d17_184 (pc' := 185) rfl rfl rfl ?_
  have f197 := ((((F_values.other W184 (Or.inr (slot_ne (Or.inl (hw _ m26)) (Or.inl (hw _ m107)) (by decide) (t := (.array .double)) (t' := .int) (by decide) (by decide)))).other W188 (Or.inl n_a_av)).other W192 (Or.inl n_a_ah)).other W196 (Or.inl n_a_al))
  refine g_getF X196 (host := "") (Or.inl (hw _ m25)) Via.refl f197 d17_185 (pc' := 188) rfl (fun T198 X198 => ?_)
  refine g_iload X198 d17_188 (pc' := 190) rfl rfl ?_
  refine g_dload X198 d17_190 (pc' := 192) rfl rfl ?_
  have f199 := ((((A_ad.other W184 (Ne.symm n_a_ad)).other W188 (Ne.symm n_av_ad)).other W192 (Ne.symm n_ah_ad)).other W196 (Ne.symm n_al_ad))
  refine g_dastore X198 (i := k) f199 (own_small (by omega)) (by rw [own_ld_len]; omega) g_ad d17_192 (pc' := 193) rfl (fun T200 h200 X200 W200 A200 => ?_)
  have A200 : Arx Z h200 ad .double (own_ld 1024 (fun j => ((own_set N k (x, hi, lo, d)) j).2.2.2)) := by rw [show own_ld 1024 (fun j => ((own_set N k (x, hi, lo, d)) j).2.2.2) = (own_ld 1024 (fun j => (N j).2.2.2)).set k (.double d) from (own_ldF (fun q => q.2.2.2) N k (x, hi, lo, d)).symm]; exact A200
  refine g_iconst X200 d17_193 (pc' := 194) rfl (v := (2 : Int32)) rfl ?_
  refine g_aloadN X200 d17_194 (pc' := 195) rfl rfl rfl ?_
  have f201 := ((((F184.other W188 (Or.inl n_a_av)).other W192 (Or.inl n_a_ah)).other W196 (Or.inl n_a_al)).other W200 (Or.inl n_a_ad))
  refine g_getF X200 (host := "") (Or.inl (hw _ m106)) Via.refl f201 d17_195 (pc' := 198) rfl (fun T202 X202 => ?_)
  refine g_imul X202 d17_198 (pc' := 199) rfl ?_
  refine g_aloadN X202 d17_199 (pc' := 200) rfl rfl rfl ?_
  have f203 := (((((F_uniqueTable.other W184 (Or.inr (slot_ne (Or.inl (hw _ m37)) (Or.inl (hw _ m107)) (by decide) (t := (.array .int)) (t' := .int) (by decide) (by decide)))).other W188 (Or.inl n_a_av)).other W192 (Or.inl n_a_ah)).other W196 (Or.inl n_a_al)).other W200 (Or.inl n_a_ad))
  refine g_getF X202 (host := "") (Or.inl (hw _ m36)) Via.refl f203 d17_200 (pc' := 203) rfl (fun T204 X204 => ?_)
  have f205 := (((((A_au.other W184 (Ne.symm n_a_au)).other W188 (Ne.symm n_av_au)).other W192 (Ne.symm n_ah_au)).other W196 (Ne.symm n_al_au)).other W200 (Ne.symm n_ad_au))
  refine g_arraylength X204 (n := (2048 : Int32)) f205 (by rw [own_li_len] <;> rfl) d17_203 (pc' := 204) rfl ?_
  refine g_icmp_le_t X204 d17_204 (pt := 232) (by decide) (own_le2 hk) ?_
  refine g_iload X204 d17_232 (pc' := 234) rfl rfl ?_
  have f206 := (((((E_a.wr W184).wr W188).wr W192).wr W196).wr W200)
  have f207 := ((((f185.other W188 (Or.inl n_a_av)).other W192 (Or.inl n_a_ah)).other W196 (Or.inl n_a_al)).other W200 (Or.inl n_a_ad))
  have f208 := (((f189.other W192 (Or.inl n_a_ah)).other W196 (Or.inl n_a_al)).other W200 (Or.inl n_a_ad))
  have f209 := ((f193.other W196 (Or.inl n_a_al)).other W200 (Or.inl n_a_ad))
  have f210 := (f197.other W200 (Or.inl n_a_ad))
  have f211 := (((((F_freeCount.other W184 (Or.inr (slot_ne (Or.inl (hw _ m109)) (Or.inl (hw _ m107)) (by decide) (t := .int) (t' := .int) (by decide) (by decide)))).other W188 (Or.inl n_a_av)).other W192 (Or.inl n_a_ah)).other W196 (Or.inl n_a_al)).other W200 (Or.inl n_a_ad))
  have f212 := (((((F_nodeLimit.other W184 (Or.inr (slot_ne (Or.inr (hw _ m64)) (Or.inl (hw _ m107)) (by decide) (t := .int) (t' := .int) (by decide) (by decide)))).other W188 (Or.inl n_a_av)).other W192 (Or.inl n_a_ah)).other W196 (Or.inl n_a_al)).other W200 (Or.inl n_a_ad))
  have f213 := (((A188.other W192 n_av_ah).other W196 n_av_al).other W200 n_av_ad)
  have f214 := ((A192.other W196 n_ah_al).other W200 n_ah_ad)
  have f215 := (A196.other W200 n_al_ad)
  exact g_retI X204 rfl d17_234 (by decide) (by decide) ⟨rfl, X204.fr, X204.old, ⟨av, ah, al, ad, au, f206, f207, f208, f209, f210, f203, f201, f211, f212, f213, f214, f215, A200, f205, g_a, g_av, g_ah, g_al, g_ad, g_au, n_a_av, n_a_ah, n_a_al, n_a_ad, n_a_au, n_av_ah, n_av_al, n_av_ad, n_av_au, n_ah_al, n_ah_ad, n_ah_au, n_al_ad, n_al_au, n_ad_au, (own_nnS hnn hn), (fun j hj q => (hti j hj q).imp fun i g => ⟨Nat.lt_succ_of_lt g.1, g.2⟩), htp⟩⟩

theorem d18_0 : decode prog_11_method_45_code 0 = .ok (.aload_n 0, 1) := by decide +kernel
theorem d18_1 : decode prog_11_method_45_code 1 = .ok (.getfield 36, 3) := by decide +kernel
theorem d18_4 : decode prog_11_method_45_code 4 = .ok (.arraylength, 1) := by decide +kernel
theorem d18_5 : decode prog_11_method_45_code 5 = .ok (.iconst 1, 1) := by decide +kernel
theorem d18_6 : decode prog_11_method_45_code 6 = .ok (.isub, 1) := by decide +kernel
theorem d18_7 : decode prog_11_method_45_code 7 = .ok (.istore_n 2, 1) := by decide +kernel
theorem d18_8 : decode prog_11_method_45_code 8 = .ok (.aload_n 0, 1) := by decide +kernel
theorem d18_9 : decode prog_11_method_45_code 9 = .ok (.getfield 15, 3) := by decide +kernel
theorem d18_12 : decode prog_11_method_45_code 12 = .ok (.iload_n 1, 1) := by decide +kernel
theorem d18_13 : decode prog_11_method_45_code 13 = .ok (.iaload, 1) := by decide +kernel
theorem d18_14 : decode prog_11_method_45_code 14 = .ok (.aload_n 0, 1) := by decide +kernel
theorem d18_15 : decode prog_11_method_45_code 15 = .ok (.getfield 19, 3) := by decide +kernel
theorem d18_18 : decode prog_11_method_45_code 18 = .ok (.iload_n 1, 1) := by decide +kernel
theorem d18_19 : decode prog_11_method_45_code 19 = .ok (.iaload, 1) := by decide +kernel
theorem d18_20 : decode prog_11_method_45_code 20 = .ok (.aload_n 0, 1) := by decide +kernel
theorem d18_21 : decode prog_11_method_45_code 21 = .ok (.getfield 22, 3) := by decide +kernel
theorem d18_24 : decode prog_11_method_45_code 24 = .ok (.iload_n 1, 1) := by decide +kernel
theorem d18_25 : decode prog_11_method_45_code 25 = .ok (.iaload, 1) := by decide +kernel
theorem d18_26 : decode prog_11_method_45_code 26 = .ok (.aload_n 0, 1) := by decide +kernel
theorem d18_27 : decode prog_11_method_45_code 27 = .ok (.getfield 25, 3) := by decide +kernel
theorem d18_30 : decode prog_11_method_45_code 30 = .ok (.iload_n 1, 1) := by decide +kernel
theorem d18_31 : decode prog_11_method_45_code 31 = .ok (.daload, 1) := by decide +kernel
theorem d18_32 : decode prog_11_method_45_code 32 = .ok (.invokestatic 391, 3) := by decide +kernel
theorem d18_35 : decode prog_11_method_45_code 35 = .ok (.invokestatic 433, 3) := by decide +kernel
theorem d18_38 : decode prog_11_method_45_code 38 = .ok (.iload_n 2, 1) := by decide +kernel
theorem d18_39 : decode prog_11_method_45_code 39 = .ok (.iand, 1) := by decide +kernel
theorem d18_40 : decode prog_11_method_45_code 40 = .ok (.istore_n 3, 1) := by decide +kernel
theorem d18_41 : decode prog_11_method_45_code 41 = .ok (.aload_n 0, 1) := by decide +kernel
theorem d18_42 : decode prog_11_method_45_code 42 = .ok (.getfield 36, 3) := by decide +kernel
theorem d18_45 : decode prog_11_method_45_code 45 = .ok (.iload_n 3, 1) := by decide +kernel
theorem d18_46 : decode prog_11_method_45_code 46 = .ok (.iaload, 1) := by decide +kernel
theorem d18_47 : decode prog_11_method_45_code 47 = .ok (.iconst (-1), 1) := by decide +kernel
theorem d18_48 : decode prog_11_method_45_code 48 = .ok (.if_icmp .eq 12, 3) := by decide +kernel
theorem d18_51 : decode prog_11_method_45_code 51 = .ok (.iload_n 3, 1) := by decide +kernel
theorem d18_52 : decode prog_11_method_45_code 52 = .ok (.iconst 1, 1) := by decide +kernel
theorem d18_53 : decode prog_11_method_45_code 53 = .ok (.iadd, 1) := by decide +kernel
theorem d18_54 : decode prog_11_method_45_code 54 = .ok (.iload_n 2, 1) := by decide +kernel
theorem d18_55 : decode prog_11_method_45_code 55 = .ok (.iand, 1) := by decide +kernel
theorem d18_56 : decode prog_11_method_45_code 56 = .ok (.istore_n 3, 1) := by decide +kernel
theorem d18_57 : decode prog_11_method_45_code 57 = .ok (.goto (-16), 3) := by decide +kernel
theorem d18_60 : decode prog_11_method_45_code 60 = .ok (.aload_n 0, 1) := by decide +kernel
theorem d18_61 : decode prog_11_method_45_code 61 = .ok (.getfield 36, 3) := by decide +kernel
theorem d18_64 : decode prog_11_method_45_code 64 = .ok (.iload_n 3, 1) := by decide +kernel
theorem d18_65 : decode prog_11_method_45_code 65 = .ok (.iload_n 1, 1) := by decide +kernel
theorem d18_66 : decode prog_11_method_45_code 66 = .ok (.iastore, 1) := by decide +kernel
theorem d18_67 : decode prog_11_method_45_code 67 = .ok (.return_, 1) := by decide +kernel
theorem ef_18 (m : MethodId) (a : Addr) (r : Nat) : entryFrame m #[(.ref a), (.int (Int32.ofNat r))] 4 = mkF m 0 #[.val (.ref a), .val (.int (Int32.ofNat r)), .unset, .unset] [] := by first | (simp [entryFrame, mkF, argsToLocals, Value.category]; done) | rfl
def R18 : Room := ({ frames := 2, cells := 0, slots := 0, locals := 56 } : Room)
set_option maxRecDepth 65536 in
set_option maxHeartbeats 40000000 in
theorem rm18 (l : Launch) (Z : State) (a0 : Array Value) (hw : ∀ d ∈ tables_1, d.before a0 Z = true) (a : Addr) (r : Nat) (h0 : Heap) (n0 : Nat) (hO : Old Z n0 h0) (k : Nat) (N : Nat → Int32 × Int32 × Int32 × UInt64) (t : Nat → Int32) (ps : List Nat) (H : DM Z n0 h0 a k N t ps) (hk : k < 110) (hr : r < k) (hps : ps.length + 1 ≤ k) :
    Con l Z (⟨"com/example/branchwise/branchwise/dd/DiagramManager", "insert", "(I)V"⟩ : MethodName) prog_11_method_45_code 4 none [] R18 R18.cells R18.slots #[(.ref a), (.int (Int32.ofNat r))] h0 (fun v h L => ∃ (t' : Nat → Int32) (ps' : List Nat), v = none ∧ Fr n0 L ∧ Old Z n0 h ∧ DM Z n0 h a k N t' ps' ∧ ps'.length = ps.length + 1) := by
  refine Con.intro (n0 := n0) (plainFor_of_name pn_1) (fun m => ef_18 m a r) hO ?_
  intro p e s m below meth cc T hs0 X0
  obtain ⟨av, ah, al, ad, au, E_a, F_variables, F_highs, F_lows, F_values, F_uniqueTable, F_size, F_freeCount, F_nodeLimit, A_av, A_ah, A_al, A_ad, A_au, g_a, g_av, g_ah, g_al, g_ad, g_au, n_a_av, n_a_ah, n_a_al, n_a_ad, n_a_au, n_av_ah, n_av_al, n_av_ad, n_av_au, n_ah_al, n_ah_ad, n_ah_au, n_al_ad, n_al_au, n_ad_au, hnn, hti, htp⟩ := id H
  have loop : ∀ (mm q : Nat) (T : State) (locs : List Loc), q < 2048 → (q + mm) % 2048 ∉ ps → St Z n0 p l e R18 s m #[(.ref a), (.int (Int32.ofNat r))] below meth cc ("com/example/branchwise/branchwise/dd/DiagramManager") ("insert") prog_11_method_45_code 4 none T locs 0 0 h0 → Go p e below (Kq s R18.cells R18.slots (fun v h L => ∃ (t' : Nat → Int32) (ps' : List Nat), v = none ∧ Fr n0 L ∧ Old Z n0 h ∧ DM Z n0 h a k N t' ps' ∧ ps'.length = ps.length + 1)) (T.setTop (mkF m 41 #[.val (.ref a), .val (.int (Int32.ofNat r)), .val (.int (2047 : Int32)), .val (.int (Int32.ofNat q))] [])) := by
    intro mm
    induction mm with
    | zero =>
      intro q T locs hq hm X
      refine g_aloadN X d18_41 (pc' := 42) rfl rfl rfl ?_
      refine g_getF X (host := "") (Or.inl (hw _ m36)) Via.refl F_uniqueTable d18_42 (pc' := 45) rfl (fun T216 X216 => ?_)
      refine g_iloadN X216 d18_45 (pc' := 46) rfl rfl ?_
      refine g_iaload X216 (i := q) (v := (.int (t q))) A_au (own_small (by omega)) (own_li_at _ hq) d18_46 (pc' := 47) rfl ?_
      refine g_iconst X216 d18_47 (pc' := 48) rfl (v := (-1 : Int32)) rfl ?_
      refine g_icmp_eq_t X216 d18_48 (pt := 60) (by decide) (own_tq htp hq hm) ?_
      refine g_aloadN X216 d18_60 (pc' := 61) rfl rfl rfl ?_
      refine g_getF X216 (host := "") (Or.inl (hw _ m36)) Via.refl F_uniqueTable d18_61 (pc' := 64) rfl (fun T217 X217 => ?_)
      refine g_iloadN X217 d18_64 (pc' := 65) rfl rfl ?_
      refine g_iloadN X217 d18_65 (pc' := 66) rfl rfl ?_
      refine g_iastore X217 (i := q) A_au (own_small (by omega)) (by rw [own_li_len]; exact hq) g_au d18_66 (pc' := 67) rfl (fun T218 h218 X218 W218 A218 => ?_)
      rw [own_li_set] at A218
      have f219 := (E_a.wr W218)
      have f220 := (F_variables.other W218 (Or.inl n_a_au))
      have f221 := (F_highs.other W218 (Or.inl n_a_au))
      have f222 := (F_lows.other W218 (Or.inl n_a_au))
      have f223 := (F_values.other W218 (Or.inl n_a_au))
      have f224 := (F_uniqueTable.other W218 (Or.inl n_a_au))
      have f225 := (F_size.other W218 (Or.inl n_a_au))
      have f226 := (F_freeCount.other W218 (Or.inl n_a_au))
      have f227 := (F_nodeLimit.other W218 (Or.inl n_a_au))
      have f228 := (A_av.other W218 n_av_au)
      have f229 := (A_ah.other W218 n_ah_au)
      have f230 := (A_al.other W218 n_al_au)
      have f231 := (A_ad.other W218 n_ad_au)
      exact g_ret X218 rfl d18_67 (by decide) (by decide) ⟨_, _, rfl, X218.fr, X218.old, ⟨av, ah, al, ad, au, f219, f220, f221, f222, f223, f224, f225, f226, f227, f228, f229, f230, f231, A218, g_a, g_av, g_ah, g_al, g_ad, g_au, n_a_av, n_a_ah, n_a_al, n_a_ad, n_a_au, n_av_ah, n_av_al, n_av_ad, n_av_au, n_ah_al, n_ah_ad, n_ah_au, n_al_ad, n_al_au, n_ad_au, hnn, (own_tiS hti hr q), (own_tpS htp q (Int32.ofNat r))⟩, rfl⟩
    | succ mm ih =>
      intro q T locs hq hm X
      refine g_aloadN X d18_41 (pc' := 42) rfl rfl rfl ?_
      refine g_getF X (host := "") (Or.inl (hw _ m36)) Via.refl F_uniqueTable d18_42 (pc' := 45) rfl (fun T232 X232 => ?_)
      refine g_iloadN X232 d18_45 (pc' := 46) rfl rfl ?_
      refine g_iaload X232 (i := q) (v := (.int (t q))) A_au (own_small (by omega)) (own_li_at _ hq) d18_46 (pc' := 47) rfl ?_
      refine g_iconst X232 d18_47 (pc' := 48) rfl (v := (-1 : Int32)) rfl ?_
      refine g_icmp_eq X232 d18_48 (pt := 60) (by decide) (pc' := 51) rfl (fun hc48 => ?_) (fun hc48 => ?_)
      · refine g_aloadN X232 d18_60 (pc' := 61) rfl rfl rfl ?_
        refine g_getF X232 (host := "") (Or.inl (hw _ m36)) Via.refl F_uniqueTable d18_61 (pc' := 64) rfl (fun T233 X233 => ?_)
        refine g_iloadN X233 d18_64 (pc' := 65) rfl rfl ?_
        refine g_iloadN X233 d18_65 (pc' := 66) rfl rfl ?_
        refine g_iastore X233 (i := q) A_au (own_small (by omega)) (by rw [own_li_len]; exact hq) g_au d18_66 (pc' := 67) rfl (fun T234 h234 X234 W234 A234 => ?_)
        rw [own_li_set] at A234
        have f235 := (E_a.wr W234)
        have f236 := (F_variables.other W234 (Or.inl n_a_au))
        have f237 := (F_highs.other W234 (Or.inl n_a_au))
        have f238 := (F_lows.other W234 (Or.inl n_a_au))
        have f239 := (F_values.other W234 (Or.inl n_a_au))
        have f240 := (F_uniqueTable.other W234 (Or.inl n_a_au))
        have f241 := (F_size.other W234 (Or.inl n_a_au))
        have f242 := (F_freeCount.other W234 (Or.inl n_a_au))
        have f243 := (F_nodeLimit.other W234 (Or.inl n_a_au))
        have f244 := (A_av.other W234 n_av_au)
        have f245 := (A_ah.other W234 n_ah_au)
        have f246 := (A_al.other W234 n_al_au)
        have f247 := (A_ad.other W234 n_ad_au)
        exact g_ret X234 rfl d18_67 (by decide) (by decide) ⟨_, _, rfl, X234.fr, X234.old, ⟨av, ah, al, ad, au, f235, f236, f237, f238, f239, f240, f241, f242, f243, f244, f245, f246, f247, A234, g_a, g_av, g_ah, g_al, g_ad, g_au, n_a_av, n_a_ah, n_a_al, n_a_ad, n_a_au, n_av_ah, n_av_al, n_av_ad, n_av_au, n_ah_al, n_ah_ad, n_ah_au, n_al_ad, n_al_au, n_ad_au, hnn, (own_tiS hti hr q), (own_tpS htp q (Int32.ofNat r))⟩, rfl⟩
      · refine g_iloadN X232 d18_51 (pc' := 52) rfl rfl ?_
        refine g_iconst X232 d18_52 (pc' := 53) rfl (v := (1 : Int32)) rfl ?_
        refine g_iadd X232 d18_53 (pc' := 54) rfl ?_
        refine g_iloadN X232 d18_54 (pc' := 55) rfl rfl ?_
        refine g_iand X232 d18_55 (pc' := 56) rfl ?_
        rw [own_next hq]
        refine g_istoreN X232 d18_56 (pc' := 57) rfl (L' := #[.val (.ref a), .val (.int (Int32.ofNat r)), .val (.int (2047 : Int32)), .val (.int (Int32.ofNat ((q + 1) % 2048)))]) rfl ?_
        refine g_goto X232 d18_57 (pt := 41) (by decide) ?_
        exact ih ((q + 1) % 2048) _ _ (Nat.mod_lt _ (by omega)) (own_mod hm) X232
  refine g_aloadN X0 d18_0 (pc' := 1) rfl rfl rfl ?_
  refine g_getF X0 (host := "") (Or.inl (hw _ m36)) Via.refl F_uniqueTable d18_1 (pc' := 4) rfl (fun T248 X248 => ?_)
  refine g_arraylength X248 (n := (2048 : Int32)) A_au (by rw [own_li_len] <;> rfl) d18_4 (pc' := 5) rfl ?_
  refine g_iconst X248 d18_5 (pc' := 6) rfl (v := (1 : Int32)) rfl ?_
  refine g_isub X248 d18_6 (pc' := 7) rfl ?_
  rw [show ((2048 : Int32) - (1 : Int32)) = (2047 : Int32) from rfl]
  refine g_istoreN X248 d18_7 (pc' := 8) rfl (L' := #[.val (.ref a), .val (.int (Int32.ofNat r)), .val (.int (2047 : Int32)), .unset]) rfl ?_
  refine g_aloadN X248 d18_8 (pc' := 9) rfl rfl rfl ?_
  refine g_getF X248 (host := "") (Or.inl (hw _ m18)) Via.refl F_variables d18_9 (pc' := 12) rfl (fun T249 X249 => ?_)
  refine g_iloadN X249 d18_12 (pc' := 13) rfl rfl ?_
  refine g_iaload X249 (i := r) (v := (.int (N r).1)) A_av (own_small (by omega)) (own_li_at _ (by omega)) d18_13 (pc' := 14) rfl ?_
  refine g_aloadN X249 d18_14 (pc' := 15) rfl rfl rfl ?_
  refine g_getF X249 (host := "") (Or.inl (hw _ m20)) Via.refl F_highs d18_15 (pc' := 18) rfl (fun T250 X250 => ?_)
  refine g_iloadN X250 d18_18 (pc' := 19) rfl rfl ?_
  refine g_iaload X250 (i := r) (v := (.int (N r).2.1)) A_ah (own_small (by omega)) (own_li_at _ (by omega)) d18_19 (pc' := 20) rfl ?_
  refine g_aloadN X250 d18_20 (pc' := 21) rfl rfl rfl ?_
  refine g_getF X250 (host := "") (Or.inl (hw _ m22)) Via.refl F_lows d18_21 (pc' := 24) rfl (fun T251 X251 => ?_)
  refine g_iloadN X251 d18_24 (pc' := 25) rfl rfl ?_
  refine g_iaload X251 (i := r) (v := (.int (N r).2.2.1)) A_al (own_small (by omega)) (own_li_at _ (by omega)) d18_25 (pc' := 26) rfl ?_
  refine g_aloadN X251 d18_26 (pc' := 27) rfl rfl rfl ?_
  refine g_getF X251 (host := "") (Or.inl (hw _ m25)) Via.refl F_values d18_27 (pc' := 30) rfl (fun T252 X252 => ?_)
  refine g_iloadN X252 d18_30 (pc' := 31) rfl rfl ?_
  refine g_daload X252 (i := r) (v := (.double (N r).2.2.2)) A_ad (own_small (by omega)) (own_ld_at _ (by omega)) d18_31 (pc' := 32) rfl ?_
  refine g_callS X252 (y := (⟨"java/lang/Double", "doubleToLongBits", "(D)J"⟩ : MethodName)) [(.double (N r).2.2.2)] (hw _ m82) (hw _ m83) (hw _ m72) (hw _ m84) (hw _ m72) (rm13 l Z a0 hw (N r).2.2.2 h0 n0 X252.old (hnn r hr)) (by decide) (by decide) (by decide) (by decide) (by decide) rfl pd_5 rfl (rest := [(.int (N r).2.2.1), (.int (N r).2.1), (.int (N r).1)]) rfl (W := 3) rfl d18_32 (pc' := 35) rfl ?_
  rintro _ T253 _ _ Y253 ⟨rfl, rfl, rfl⟩
  have X253 := Y253 X252.old (Fr.nil _)
  show Go p e below _ (State.setTop _ (mkF m 35 #[.val (.ref a), .val (.int (Int32.ofNat r)), .val (.int (2047 : Int32)), .unset] [(.long (N r).2.2.2.toInt64), (.int (N r).2.2.1), (.int (N r).2.1), (.int (N r).1)]))
  refine g_callS X253 (y := (⟨"com/example/branchwise/branchwise/dd/DiagramManager", "hash", "(IIIJ)I"⟩ : MethodName)) [(.int (N r).1), (.int (N r).2.1), (.int (N r).2.2.1), (.long (N r).2.2.2.toInt64)] (hw _ m96) (hw _ m97) (hw _ m10) (hw _ m98) (hw _ m10) (rm16 l Z a0 hw (N r).1 (N r).2.1 (N r).2.2.1 (N r).2.2.2.toInt64 h0 n0 X253.old) (by decide) (by decide) (by decide) (by decide) (by decide) rfl pd_6 rfl (rest := []) rfl (W := 0) rfl d18_35 (pc' := 38) rfl ?_
  rintro _ T254 _ _ Y254 ⟨z254, rfl, r254, rfl, rfl⟩
  have X254 := Y254 X253.old (Fr.nil _)
  show Go p e below _ (State.setTop _ (mkF m 38 #[.val (.ref a), .val (.int (Int32.ofNat r)), .val (.int (2047 : Int32)), .unset] [(.int z254)]))
  refine g_iloadN X254 d18_38 (pc' := 39) rfl rfl ?_
  refine g_iand X254 d18_39 (pc' := 40) rfl ?_
  obtain ⟨q, hq, eq_⟩ := own_mask z254
  rw [eq_]
  refine g_istoreN X254 d18_40 (pc' := 41) rfl (L' := #[.val (.ref a), .val (.int (Int32.ofNat r)), .val (.int (2047 : Int32)), .val (.int (Int32.ofNat q))]) rfl ?_
  obtain ⟨mm, hm⟩ := own_free hq (Nat.le_of_succ_le hps) (by omega)
  exact loop mm q _ _ hq hm X254

theorem d15_0 : decode prog_11_method_42_code 0 = .ok (.dload 4, 2) := by decide +kernel
theorem d15_2 : decode prog_11_method_42_code 2 = .ok (.invokestatic 391, 3) := by decide +kernel
theorem d15_5 : decode prog_11_method_42_code 5 = .ok (.lstore 6, 2) := by decide +kernel
theorem d15_7 : decode prog_11_method_42_code 7 = .ok (.aload_n 0, 1) := by decide +kernel
theorem d15_8 : decode prog_11_method_42_code 8 = .ok (.getfield 36, 3) := by decide +kernel
theorem d15_11 : decode prog_11_method_42_code 11 = .ok (.arraylength, 1) := by decide +kernel
theorem d15_12 : decode prog_11_method_42_code 12 = .ok (.iconst 1, 1) := by decide +kernel
theorem d15_13 : decode prog_11_method_42_code 13 = .ok (.isub, 1) := by decide +kernel
theorem d15_14 : decode prog_11_method_42_code 14 = .ok (.istore 8, 2) := by decide +kernel
theorem d15_16 : decode prog_11_method_42_code 16 = .ok (.iload_n 1, 1) := by decide +kernel
theorem d15_17 : decode prog_11_method_42_code 17 = .ok (.iload_n 2, 1) := by decide +kernel
theorem d15_18 : decode prog_11_method_42_code 18 = .ok (.iload_n 3, 1) := by decide +kernel
theorem d15_19 : decode prog_11_method_42_code 19 = .ok (.lload 6, 2) := by decide +kernel
theorem d15_21 : decode prog_11_method_42_code 21 = .ok (.invokestatic 433, 3) := by decide +kernel
theorem d15_24 : decode prog_11_method_42_code 24 = .ok (.iload 8, 2) := by decide +kernel
theorem d15_26 : decode prog_11_method_42_code 26 = .ok (.iand, 1) := by decide +kernel
theorem d15_27 : decode prog_11_method_42_code 27 = .ok (.istore 9, 2) := by decide +kernel
theorem d15_29 : decode prog_11_method_42_code 29 = .ok (.iconst (-1), 1) := by decide +kernel
theorem d15_30 : decode prog_11_method_42_code 30 = .ok (.istore 10, 2) := by decide +kernel
theorem d15_32 : decode prog_11_method_42_code 32 = .ok (.iload 10, 2) := by decide +kernel
theorem d15_34 : decode prog_11_method_42_code 34 = .ok (.iconst (-1), 1) := by decide +kernel
theorem d15_35 : decode prog_11_method_42_code 35 = .ok (.if_icmp .ne 88, 3) := by decide +kernel
theorem d15_38 : decode prog_11_method_42_code 38 = .ok (.aload_n 0, 1) := by decide +kernel
theorem d15_39 : decode prog_11_method_42_code 39 = .ok (.getfield 36, 3) := by decide +kernel
theorem d15_42 : decode prog_11_method_42_code 42 = .ok (.iload 9, 2) := by decide +kernel
theorem d15_44 : decode prog_11_method_42_code 44 = .ok (.iaload, 1) := by decide +kernel
theorem d15_45 : decode prog_11_method_42_code 45 = .ok (.iconst (-1), 1) := by decide +kernel
theorem d15_46 : decode prog_11_method_42_code 46 = .ok (.if_icmp .eq 77, 3) := by decide +kernel
theorem d15_49 : decode prog_11_method_42_code 49 = .ok (.aload_n 0, 1) := by decide +kernel
theorem d15_50 : decode prog_11_method_42_code 50 = .ok (.getfield 36, 3) := by decide +kernel
theorem d15_53 : decode prog_11_method_42_code 53 = .ok (.iload 9, 2) := by decide +kernel
theorem d15_55 : decode prog_11_method_42_code 55 = .ok (.iaload, 1) := by decide +kernel
theorem d15_56 : decode prog_11_method_42_code 56 = .ok (.istore 11, 2) := by decide +kernel
theorem d15_58 : decode prog_11_method_42_code 58 = .ok (.aload_n 0, 1) := by decide +kernel
theorem d15_59 : decode prog_11_method_42_code 59 = .ok (.getfield 15, 3) := by decide +kernel
theorem d15_62 : decode prog_11_method_42_code 62 = .ok (.iload 11, 2) := by decide +kernel
theorem d15_64 : decode prog_11_method_42_code 64 = .ok (.iaload, 1) := by decide +kernel
theorem d15_65 : decode prog_11_method_42_code 65 = .ok (.iload_n 1, 1) := by decide +kernel
theorem d15_66 : decode prog_11_method_42_code 66 = .ok (.if_icmp .ne 45, 3) := by decide +kernel
theorem d15_69 : decode prog_11_method_42_code 69 = .ok (.aload_n 0, 1) := by decide +kernel
theorem d15_70 : decode prog_11_method_42_code 70 = .ok (.getfield 19, 3) := by decide +kernel
theorem d15_73 : decode prog_11_method_42_code 73 = .ok (.iload 11, 2) := by decide +kernel
theorem d15_75 : decode prog_11_method_42_code 75 = .ok (.iaload, 1) := by decide +kernel
theorem d15_76 : decode prog_11_method_42_code 76 = .ok (.iload_n 2, 1) := by decide +kernel
theorem d15_77 : decode prog_11_method_42_code 77 = .ok (.if_icmp .ne 34, 3) := by decide +kernel
theorem d15_80 : decode prog_11_method_42_code 80 = .ok (.aload_n 0, 1) := by decide +kernel
theorem d15_81 : decode prog_11_method_42_code 81 = .ok (.getfield 22, 3) := by decide +kernel
theorem d15_84 : decode prog_11_method_42_code 84 = .ok (.iload 11, 2) := by decide +kernel
theorem d15_86 : decode prog_11_method_42_code 86 = .ok (.iaload, 1) := by decide +kernel
theorem d15_87 : decode prog_11_method_42_code 87 = .ok (.iload_n 3, 1) := by decide +kernel
theorem d15_88 : decode prog_11_method_42_code 88 = .ok (.if_icmp .ne 23, 3) := by decide +kernel
theorem d15_91 : decode prog_11_method_42_code 91 = .ok (.aload_n 0, 1) := by decide +kernel
theorem d15_92 : decode prog_11_method_42_code 92 = .ok (.getfield 25, 3) := by decide +kernel
theorem d15_95 : decode prog_11_method_42_code 95 = .ok (.iload 11, 2) := by decide +kernel
theorem d15_97 : decode prog_11_method_42_code 97 = .ok (.daload, 1) := by decide +kernel
theorem d15_98 : decode prog_11_method_42_code 98 = .ok (.invokestatic 391, 3) := by decide +kernel
theorem d15_101 : decode prog_11_method_42_code 101 = .ok (.lload 6, 2) := by decide +kernel
theorem d15_103 : decode prog_11_method_42_code 103 = .ok (.lcmp, 1) := by decide +kernel
theorem d15_104 : decode prog_11_method_42_code 104 = .ok (.ifCond .ne 7, 3) := by decide +kernel
theorem d15_107 : decode prog_11_method_42_code 107 = .ok (.iload 11, 2) := by decide +kernel
theorem d15_109 : decode prog_11_method_42_code 109 = .ok (.istore 10, 2) := by decide +kernel
theorem d15_111 : decode prog_11_method_42_code 111 = .ok (.iload 9, 2) := by decide +kernel
theorem d15_113 : decode prog_11_method_42_code 113 = .ok (.iconst 1, 1) := by decide +kernel
theorem d15_114 : decode prog_11_method_42_code 114 = .ok (.iadd, 1) := by decide +kernel
theorem d15_115 : decode prog_11_method_42_code 115 = .ok (.iload 8, 2) := by decide +kernel
theorem d15_117 : decode prog_11_method_42_code 117 = .ok (.iand, 1) := by decide +kernel
theorem d15_118 : decode prog_11_method_42_code 118 = .ok (.istore 9, 2) := by decide +kernel
theorem d15_120 : decode prog_11_method_42_code 120 = .ok (.goto (-88), 3) := by decide +kernel
theorem d15_123 : decode prog_11_method_42_code 123 = .ok (.iload 10, 2) := by decide +kernel
theorem d15_125 : decode prog_11_method_42_code 125 = .ok (.iconst (-1), 1) := by decide +kernel
theorem d15_126 : decode prog_11_method_42_code 126 = .ok (.if_icmp .ne 20, 3) := by decide +kernel
theorem d15_129 : decode prog_11_method_42_code 129 = .ok (.aload_n 0, 1) := by decide +kernel
theorem d15_130 : decode prog_11_method_42_code 130 = .ok (.iload_n 1, 1) := by decide +kernel
theorem d15_131 : decode prog_11_method_42_code 131 = .ok (.iload_n 2, 1) := by decide +kernel
theorem d15_132 : decode prog_11_method_42_code 132 = .ok (.iload_n 3, 1) := by decide +kernel
theorem d15_133 : decode prog_11_method_42_code 133 = .ok (.dload 4, 2) := by decide +kernel
theorem d15_135 : decode prog_11_method_42_code 135 = .ok (.invokevirtual 437, 3) := by decide +kernel
theorem d15_138 : decode prog_11_method_42_code 138 = .ok (.istore 10, 2) := by decide +kernel
theorem d15_140 : decode prog_11_method_42_code 140 = .ok (.aload_n 0, 1) := by decide +kernel
theorem d15_141 : decode prog_11_method_42_code 141 = .ok (.iload 10, 2) := by decide +kernel
theorem d15_143 : decode prog_11_method_42_code 143 = .ok (.invokevirtual 440, 3) := by decide +kernel
theorem d15_146 : decode prog_11_method_42_code 146 = .ok (.iload 10, 2) := by decide +kernel
theorem d15_148 : decode prog_11_method_42_code 148 = .ok (.ireturn, 1) := by decide +kernel
theorem ef_15 (m : MethodId) (a : Addr) (x : Int32) (hi : Int32) (lo : Int32) (d : UInt64) : entryFrame m #[(.ref a), (.int x), (.int hi), (.int lo), (.double d)] 12 = mkF m 0 #[.val (.ref a), .val (.int x), .val (.int hi), .val (.int lo), .val (.double d), .second, .unset, .unset, .unset, .unset, .unset, .unset] [] := by first | (simp [entryFrame, mkF, argsToLocals, Value.category]; done) | rfl
def R15 : Room := ({ frames := 3, cells := 0, slots := 0, locals := 71 } : Room)
set_option maxRecDepth 65536 in
set_option maxHeartbeats 40000000 in
theorem rm15 (l : Launch) (Z : State) (a0 : Array Value) (hw : ∀ d ∈ tables_1, d.before a0 Z = true) (a : Addr) (x : Int32) (hi : Int32) (lo : Int32) (d : UInt64) (h0 : Heap) (n0 : Nat) (hO : Old Z n0 h0) (k : Nat) (N : Nat → Int32 × Int32 × Int32 × UInt64) (t : Nat → Int32) (ps : List Nat) (H : DM Z n0 h0 a k N t ps) (hk : k < 99) (hps : ps.length ≤ k) (hn : Jvm.Free.Fl.NoNaN64 d) :
    Con l Z (⟨"com/example/branchwise/branchwise/dd/DiagramManager", "findOrAdd", "(IIID)I"⟩ : MethodName) prog_11_method_42_code 12 (some .int) [] R15 R15.cells R15.slots #[(.ref a), (.int x), (.int hi), (.int lo), (.double d)] h0 (FQ Z n0 a k N 1 (fun N' _ r => N' r = (x, hi, lo, d))) := by
  refine Con.intro (n0 := n0) (plainFor_of_name pn_1) (fun m => ef_15 m a x hi lo d) hO ?_
  intro p e s m below meth cc T hs0 X0
  obtain ⟨av, ah, al, ad, au, E_a, F_variables, F_highs, F_lows, F_values, F_uniqueTable, F_size, F_freeCount, F_nodeLimit, A_av, A_ah, A_al, A_ad, A_au, g_a, g_av, g_ah, g_al, g_ad, g_au, n_a_av, n_a_ah, n_a_al, n_a_ad, n_a_au, n_av_ah, n_av_al, n_av_ad, n_av_au, n_ah_al, n_ah_ad, n_ah_au, n_al_ad, n_al_au, n_ad_au, hnn, hti, htp⟩ := id H
  have J123 : ∀ (q : Nat) (T : State) (locs : List Loc) (s11 : Slot), St Z n0 p l e R15 s m #[(.ref a), (.int x), (.int hi), (.int lo), (.double d)] below meth cc ("com/example/branchwise/branchwise/dd/DiagramManager") ("findOrAdd") prog_11_method_42_code 12 (some .int) T locs 0 0 h0 → Go p e below (Kq s R15.cells R15.slots (FQ Z n0 a k N 1 (fun N' _ r => N' r = (x, hi, lo, d)))) (T.setTop (mkF m 123 #[.val (.ref a), .val (.int x), .val (.int hi), .val (.int lo), .val (.double d), .second, .val (.long d.toInt64), .second, .val (.int (2047 : Int32)), .val (.int (Int32.ofNat q)), .val (.int (-1 : Int32)), s11] [])) := by
    intro q T locs s11 X
    refine g_iload X d15_123 (pc' := 125) rfl rfl ?_
    refine g_iconst X d15_125 (pc' := 126) rfl (v := (-1 : Int32)) rfl ?_
    refine g_icmp_ne_f X d15_126 (pc' := 129) rfl (by decide) ?_
    refine g_aloadN X d15_129 (pc' := 130) rfl rfl rfl ?_
    refine g_iloadN X d15_130 (pc' := 131) rfl rfl ?_
    refine g_iloadN X d15_131 (pc' := 132) rfl rfl ?_
    refine g_iloadN X d15_132 (pc' := 133) rfl rfl ?_
    refine g_dload X d15_133 (pc' := 135) rfl rfl ?_
    refine g_callP X (y := (⟨"com/example/branchwise/branchwise/dd/DiagramManager", "addNode", "(IIID)I"⟩ : MethodName)) (a := a) [(.int x), (.int hi), (.int lo), (.double d)] (hw _ m102) (hw _ m103) (hw _ m104) (hw _ m9) E_a (hw _ m105) (hw _ m10) (rm17 l Z a0 hw a x hi lo d h0 n0 X.old k N t ps H (by omega) hn) (by decide) (by decide) (by decide) (by decide) (by decide) rfl pd_7 rfl (rest := []) rfl (W := 0) rfl d15_135 (pc' := 138) rfl ?_
    rintro _ T255 h255 L255 Y255 ⟨rfl, N255, z255, H255⟩
    have X255 := Y255 z255 N255
    have q256 := own_dmE H255
    show Go p e below _ (State.setTop _ (mkF m 138 #[.val (.ref a), .val (.int x), .val (.int hi), .val (.int lo), .val (.double d), .second, .val (.long d.toInt64), .second, .val (.int (2047 : Int32)), .val (.int (Int32.ofNat q)), .val (.int (-1 : Int32)), s11] [(.int (Int32.ofNat k))]))
    refine g_istore X255 d15_138 (pc' := 140) rfl (L' := #[.val (.ref a), .val (.int x), .val (.int hi), .val (.int lo), .val (.double d), .second, .val (.long d.toInt64), .second, .val (.int (2047 : Int32)), .val (.int (Int32.ofNat q)), .val (.int (Int32.ofNat k)), s11]) rfl ?_
    refine g_aloadN X255 d15_140 (pc' := 141) rfl rfl rfl ?_
    refine g_iload X255 d15_141 (pc' := 143) rfl rfl ?_
    refine g_callP X255 (y := (⟨"com/example/branchwise/branchwise/dd/DiagramManager", "insert", "(I)V"⟩ : MethodName)) (a := a) [(.int (Int32.ofNat k))] (hw _ m110) (hw _ m111) (hw _ m112) (hw _ m9) q256 (hw _ m113) (hw _ m10) (rm18 l Z a0 hw a k h255 n0 X255.old (k + 1) (own_set N k (x, hi, lo, d)) t ps H255 (by omega) (by omega) (Nat.succ_le_succ hps)) (by decide) (by decide) (by decide) (by decide) (by decide) rfl pd_3 rfl (rest := []) rfl (W := 0) rfl d15_143 (pc' := 146) rfl ?_
    rintro _ T257 h257 L257 Y257 ⟨t257, p257, rfl, N257, z257, H257, l257⟩
    have X257 := Y257 z257 N257
    have q258 := own_dmE H257
    show Go p e below _ (State.setTop _ (mkF m 146 #[.val (.ref a), .val (.int x), .val (.int hi), .val (.int lo), .val (.double d), .second, .val (.long d.toInt64), .second, .val (.int (2047 : Int32)), .val (.int (Int32.ofNat q)), .val (.int (Int32.ofNat k)), s11] []))
    refine g_iload X257 d15_146 (pc' := 148) rfl rfl ?_
    exact g_retI X257 rfl d15_148 (by decide) (by decide) ⟨k, (k + 1), (own_set N k (x, hi, lo, d)), t257, p257, rfl, X257.fr, X257.old, H257, Nat.lt_succ_self _, Nat.le_succ _, Nat.le_refl _, (Nat.le_trans (Nat.le_of_eq l257) (Nat.succ_le_succ hps)), own_set_at _ _ _, fun j hj => own_set_ne _ _ (Nat.ne_of_lt hj)⟩
  have loop : ∀ (mm q : Nat) (T : State) (locs : List Loc) (s11 : Slot), (s11 = .unset ∨ ∃ w : Value, s11 = .val w ∧ w.category = 1) → q < 2048 → (q + mm) % 2048 ∉ ps → St Z n0 p l e R15 s m #[(.ref a), (.int x), (.int hi), (.int lo), (.double d)] below meth cc ("com/example/branchwise/branchwise/dd/DiagramManager") ("findOrAdd") prog_11_method_42_code 12 (some .int) T locs 0 0 h0 → Go p e below (Kq s R15.cells R15.slots (FQ Z n0 a k N 1 (fun N' _ r => N' r = (x, hi, lo, d)))) (T.setTop (mkF m 32 #[.val (.ref a), .val (.int x), .val (.int hi), .val (.int lo), .val (.double d), .second, .val (.long d.toInt64), .second, .val (.int (2047 : Int32)), .val (.int (Int32.ofNat q)), .val (.int (-1 : Int32)), s11] [])) := by
    intro mm
    induction mm with
    | zero =>
      intro q T locs s11 h11 hq hm X
      refine g_iload X d15_32 (pc' := 34) rfl rfl ?_
      refine g_iconst X d15_34 (pc' := 35) rfl (v := (-1 : Int32)) rfl ?_
      refine g_icmp_ne_f X d15_35 (pc' := 38) rfl (by decide) ?_
      refine g_aloadN X d15_38 (pc' := 39) rfl rfl rfl ?_
      refine g_getF X (host := "") (Or.inl (hw _ m36)) Via.refl F_uniqueTable d15_39 (pc' := 42) rfl (fun T259 X259 => ?_)
      refine g_iload X259 d15_42 (pc' := 44) rfl rfl ?_
      refine g_iaload X259 (i := q) (v := (.int (t q))) A_au (own_small (by omega)) (own_li_at _ hq) d15_44 (pc' := 45) rfl ?_
      refine g_iconst X259 d15_45 (pc' := 46) rfl (v := (-1 : Int32)) rfl ?_
      refine g_icmp_eq_t X259 d15_46 (pt := 123) (by decide) (own_tq htp hq hm) ?_
      exact J123 _ _ _ _ X259
    | succ mm ih =>
      intro q T locs s11 h11 hq hm X
      refine g_iload X d15_32 (pc' := 34) rfl rfl ?_
      refine g_iconst X d15_34 (pc' := 35) rfl (v := (-1 : Int32)) rfl ?_
      refine g_icmp_ne_f X d15_35 (pc' := 38) rfl (by decide) ?_
      refine g_aloadN X d15_38 (pc' := 39) rfl rfl rfl ?_
      refine g_getF X (host := "") (Or.inl (hw _ m36)) Via.refl F_uniqueTable d15_39 (pc' := 42) rfl (fun T260 X260 => ?_)
      refine g_iload X260 d15_42 (pc' := 44) rfl rfl ?_
      refine g_iaload X260 (i := q) (v := (.int (t q))) A_au (own_small (by omega)) (own_li_at _ hq) d15_44 (pc' := 45) rfl ?_
      refine g_iconst X260 d15_45 (pc' := 46) rfl (v := (-1 : Int32)) rfl ?_
      refine g_icmp_eq X260 d15_46 (pt := 123) (by decide) (pc' := 49) rfl (fun hc46 => ?_) (fun hc46 => ?_)
      · exact J123 _ _ _ _ X260
      · refine g_aloadN X260 d15_49 (pc' := 50) rfl rfl rfl ?_
        refine g_getF X260 (host := "") (Or.inl (hw _ m36)) Via.refl F_uniqueTable d15_50 (pc' := 53) rfl (fun T261 X261 => ?_)
        refine g_iload X261 d15_53 (pc' := 55) rfl rfl ?_
        refine g_iaload X261 (i := q) (v := (.int (t q))) A_au (own_small (by omega)) (own_li_at _ hq) d15_55 (pc' := 56) rfl ?_
        obtain ⟨i, hi_, ei⟩ := hti q hq hc46
        rw [ei]
        refine g_istore X261 d15_56 (pc' := 58) rfl (L' := #[.val (.ref a), .val (.int x), .val (.int hi), .val (.int lo), .val (.double d), .second, .val (.long d.toInt64), .second, .val (.int (2047 : Int32)), .val (.int (Int32.ofNat q)), .val (.int (-1 : Int32)), .val (.int (Int32.ofNat i))]) (XS.store1 rfl h11 rfl) ?_
        refine g_aloadN X261 d15_58 (pc' := 59) rfl rfl rfl ?_
        refine g_getF X261 (host := "") (Or.inl (hw _ m18)) Via.refl F_variables d15_59 (pc' := 62) rfl (fun T262 X262 => ?_)
        refine g_iload X262 d15_62 (pc' := 64) rfl rfl ?_
        refine g_iaload X262 (i := i) (v := (.int (N i).1)) A_av (own_small (by omega)) (own_li_at _ (by omega)) d15_64 (pc' := 65) rfl ?_
        refine g_iloadN X262 d15_65 (pc' := 66) rfl rfl ?_
        refine g_icmp_ne X262 d15_66 (pt := 111) (by decide) (pc' := 69) rfl (fun hc66 => ?_) (fun hc66 => ?_)
        · refine g_iload X262 d15_111 (pc' := 113) rfl rfl ?_
          refine g_iconst X262 d15_113 (pc' := 114) rfl (v := (1 : Int32)) rfl ?_
          refine g_iadd X262 d15_114 (pc' := 115) rfl ?_
          refine g_iload X262 d15_115 (pc' := 117) rfl rfl ?_
          refine g_iand X262 d15_117 (pc' := 118) rfl ?_
          rw [own_next hq]
          refine g_istore X262 d15_118 (pc' := 120) rfl (L' := #[.val (.ref a), .val (.int x), .val (.int hi), .val (.int lo), .val (.double d), .second, .val (.long d.toInt64), .second, .val (.int (2047 : Int32)), .val (.int (Int32.ofNat ((q + 1) % 2048))), .val (.int (-1 : Int32)), .val (.int (Int32.ofNat i))]) rfl ?_
          refine g_goto X262 d15_120 (pt := 32) (by decide) ?_
          exact ih ((q + 1) % 2048) _ _ _ (Or.inr ⟨_, rfl, rfl⟩) (Nat.mod_lt _ (by omega)) (own_mod hm) X262
        · refine g_aloadN X262 d15_69 (pc' := 70) rfl rfl rfl ?_
          refine g_getF X262 (host := "") (Or.inl (hw _ m20)) Via.refl F_highs d15_70 (pc' := 73) rfl (fun T263 X263 => ?_)
          refine g_iload X263 d15_73 (pc' := 75) rfl rfl ?_
          refine g_iaload X263 (i := i) (v := (.int (N i).2.1)) A_ah (own_small (by omega)) (own_li_at _ (by omega)) d15_75 (pc' := 76) rfl ?_
          refine g_iloadN X263 d15_76 (pc' := 77) rfl rfl ?_
          refine g_icmp_ne X263 d15_77 (pt := 111) (by decide) (pc' := 80) rfl (fun hc77 => ?_) (fun hc77 => ?_)
          · refine g_iload X263 d15_111 (pc' := 113) rfl rfl ?_
            refine g_iconst X263 d15_113 (pc' := 114) rfl (v := (1 : Int32)) rfl ?_
            refine g_iadd X263 d15_114 (pc' := 115) rfl ?_
            refine g_iload X263 d15_115 (pc' := 117) rfl rfl ?_
            refine g_iand X263 d15_117 (pc' := 118) rfl ?_
            rw [own_next hq]
            refine g_istore X263 d15_118 (pc' := 120) rfl (L' := #[.val (.ref a), .val (.int x), .val (.int hi), .val (.int lo), .val (.double d), .second, .val (.long d.toInt64), .second, .val (.int (2047 : Int32)), .val (.int (Int32.ofNat ((q + 1) % 2048))), .val (.int (-1 : Int32)), .val (.int (Int32.ofNat i))]) rfl ?_
            refine g_goto X263 d15_120 (pt := 32) (by decide) ?_
            exact ih ((q + 1) % 2048) _ _ _ (Or.inr ⟨_, rfl, rfl⟩) (Nat.mod_lt _ (by omega)) (own_mod hm) X263
          · refine g_aloadN X263 d15_80 (pc' := 81) rfl rfl rfl ?_
            refine g_getF X263 (host := "") (Or.inl (hw _ m22)) Via.refl F_lows d15_81 (pc' := 84) rfl (fun T264 X264 => ?_)
            refine g_iload X264 d15_84 (pc' := 86) rfl rfl ?_
            refine g_iaload X264 (i := i) (v := (.int (N i).2.2.1)) A_al (own_small (by omega)) (own_li_at _ (by omega)) d15_86 (pc' := 87) rfl ?_
            refine g_iloadN X264 d15_87 (pc' := 88) rfl rfl ?_
            refine g_icmp_ne X264 d15_88 (pt := 111) (by decide) (pc' := 91) rfl (fun hc88 => ?_) (fun hc88 => ?_)
            · refine g_iload X264 d15_111 (pc' := 113) rfl rfl ?_
              refine g_iconst X264 d15_113 (pc' := 114) rfl (v := (1 : Int32)) rfl ?_
              refine g_iadd X264 d15_114 (pc' := 115) rfl ?_
              refine g_iload X264 d15_115 (pc' := 117) rfl rfl ?_
              refine g_iand X264 d15_117 (pc' := 118) rfl ?_
              rw [own_next hq]
              refine g_istore X264 d15_118 (pc' := 120) rfl (L' := #[.val (.ref a), .val (.int x), .val (.int hi), .val (.int lo), .val (.double d), .second, .val (.long d.toInt64), .second, .val (.int (2047 : Int32)), .val (.int (Int32.ofNat ((q + 1) % 2048))), .val (.int (-1 : Int32)), .val (.int (Int32.ofNat i))]) rfl ?_
              refine g_goto X264 d15_120 (pt := 32) (by decide) ?_
              exact ih ((q + 1) % 2048) _ _ _ (Or.inr ⟨_, rfl, rfl⟩) (Nat.mod_lt _ (by omega)) (own_mod hm) X264
            · refine g_aloadN X264 d15_91 (pc' := 92) rfl rfl rfl ?_
              refine g_getF X264 (host := "") (Or.inl (hw _ m25)) Via.refl F_values d15_92 (pc' := 95) rfl (fun T265 X265 => ?_)
              refine g_iload X265 d15_95 (pc' := 97) rfl rfl ?_
              refine g_daload X265 (i := i) (v := (.double (N i).2.2.2)) A_ad (own_small (by omega)) (own_ld_at _ (by omega)) d15_97 (pc' := 98) rfl ?_
              refine g_callS X265 (y := (⟨"java/lang/Double", "doubleToLongBits", "(D)J"⟩ : MethodName)) [(.double (N i).2.2.2)] (hw _ m82) (hw _ m83) (hw _ m72) (hw _ m84) (hw _ m72) (rm13 l Z a0 hw (N i).2.2.2 h0 n0 X265.old (hnn i hi_)) (by decide) (by decide) (by decide) (by decide) (by decide) rfl pd_5 rfl (rest := []) rfl (W := 0) rfl d15_98 (pc' := 101) rfl ?_
              rintro _ T266 _ _ Y266 ⟨rfl, rfl, rfl⟩
              have X266 := Y266 X265.old (Fr.nil _)
              show Go p e below _ (State.setTop _ (mkF m 101 #[.val (.ref a), .val (.int x), .val (.int hi), .val (.int lo), .val (.double d), .second, .val (.long d.toInt64), .second, .val (.int (2047 : Int32)), .val (.int (Int32.ofNat q)), .val (.int (-1 : Int32)), .val (.int (Int32.ofNat i))] [(.long (N i).2.2.2.toInt64)]))
              refine g_lload X266 d15_101 (pc' := 103) rfl rfl ?_
              refine g_lcmp_ne X266 d15_103 d15_104 (pt := 111) (by decide) (pc' := 107) rfl (fun hc104 => ?_) (fun hc104 => ?_)
              · refine g_iload X266 d15_111 (pc' := 113) rfl rfl ?_
                refine g_iconst X266 d15_113 (pc' := 114) rfl (v := (1 : Int32)) rfl ?_
                refine g_iadd X266 d15_114 (pc' := 115) rfl ?_
                refine g_iload X266 d15_115 (pc' := 117) rfl rfl ?_
                refine g_iand X266 d15_117 (pc' := 118) rfl ?_
                rw [own_next hq]
                refine g_istore X266 d15_118 (pc' := 120) rfl (L' := #[.val (.ref a), .val (.int x), .val (.int hi), .val (.int lo), .val (.double d), .second, .val (.long d.toInt64), .second, .val (.int (2047 : Int32)), .val (.int (Int32.ofNat ((q + 1) % 2048))), .val (.int (-1 : Int32)), .val (.int (Int32.ofNat i))]) rfl ?_
                refine g_goto X266 d15_120 (pt := 32) (by decide) ?_
                exact ih ((q + 1) % 2048) _ _ _ (Or.inr ⟨_, rfl, rfl⟩) (Nat.mod_lt _ (by omega)) (own_mod hm) X266
              · refine g_iload X266 d15_107 (pc' := 109) rfl rfl ?_
                refine g_istore X266 d15_109 (pc' := 111) rfl (L' := #[.val (.ref a), .val (.int x), .val (.int hi), .val (.int lo), .val (.double d), .second, .val (.long d.toInt64), .second, .val (.int (2047 : Int32)), .val (.int (Int32.ofNat q)), .val (.int (Int32.ofNat i)), .val (.int (Int32.ofNat i))]) rfl ?_
                refine g_iload X266 d15_111 (pc' := 113) rfl rfl ?_
                refine g_iconst X266 d15_113 (pc' := 114) rfl (v := (1 : Int32)) rfl ?_
                refine g_iadd X266 d15_114 (pc' := 115) rfl ?_
                refine g_iload X266 d15_115 (pc' := 117) rfl rfl ?_
                refine g_iand X266 d15_117 (pc' := 118) rfl ?_
                rw [own_next hq]
                refine g_istore X266 d15_118 (pc' := 120) rfl (L' := #[.val (.ref a), .val (.int x), .val (.int hi), .val (.int lo), .val (.double d), .second, .val (.long d.toInt64), .second, .val (.int (2047 : Int32)), .val (.int (Int32.ofNat ((q + 1) % 2048))), .val (.int (Int32.ofNat i)), .val (.int (Int32.ofNat i))]) rfl ?_
                refine g_goto X266 d15_120 (pt := 32) (by decide) ?_
                refine g_iload X266 d15_32 (pc' := 34) rfl rfl ?_
                refine g_iconst X266 d15_34 (pc' := 35) rfl (v := (-1 : Int32)) rfl ?_
                refine g_icmp_ne_t X266 d15_35 (pt := 123) (by decide) (own_ne1 (by omega)) ?_
                refine g_iload X266 d15_123 (pc' := 125) rfl rfl ?_
                refine g_iconst X266 d15_125 (pc' := 126) rfl (v := (-1 : Int32)) rfl ?_
                refine g_icmp_ne_t X266 d15_126 (pt := 146) (by decide) (own_ne1 (by omega)) ?_
                refine g_iload X266 d15_146 (pc' := 148) rfl rfl ?_
                exact g_retI X266 rfl d15_148 (by decide) (by decide) ⟨i, k, N, t, ps, rfl, X266.fr, X266.old, H, hi_, Nat.le_refl _, Nat.le_succ _, hps, own_node hc66 hc77 hc88 hc104, fun _ _ => rfl⟩
  refine g_dload X0 d15_0 (pc' := 2) rfl rfl ?_
  refine g_callS X0 (y := (⟨"java/lang/Double", "doubleToLongBits", "(D)J"⟩ : MethodName)) [(.double d)] (hw _ m82) (hw _ m83) (hw _ m72) (hw _ m84) (hw _ m72) (rm13 l Z a0 hw d h0 n0 X0.old hn) (by decide) (by decide) (by decide) (by decide) (by decide) rfl pd_5 rfl (rest := []) rfl (W := 0) rfl d15_2 (pc' := 5) rfl ?_
  rintro _ T267 _ _ Y267 ⟨rfl, rfl, rfl⟩
  have X267 := Y267 X0.old (Fr.nil _)
  show Go p e below _ (State.setTop _ (mkF m 5 #[.val (.ref a), .val (.int x), .val (.int hi), .val (.int lo), .val (.double d), .second, .unset, .unset, .unset, .unset, .unset, .unset] [(.long d.toInt64)]))
  refine g_lstore X267 d15_5 (pc' := 7) rfl (L' := #[.val (.ref a), .val (.int x), .val (.int hi), .val (.int lo), .val (.double d), .second, .val (.long d.toInt64), .second, .unset, .unset, .unset, .unset]) rfl ?_
  refine g_aloadN X267 d15_7 (pc' := 8) rfl rfl rfl ?_
  refine g_getF X267 (host := "") (Or.inl (hw _ m36)) Via.refl F_uniqueTable d15_8 (pc' := 11) rfl (fun T268 X268 => ?_)
  refine g_arraylength X268 (n := (2048 : Int32)) A_au (by rw [own_li_len] <;> rfl) d15_11 (pc' := 12) rfl ?_
  refine g_iconst X268 d15_12 (pc' := 13) rfl (v := (1 : Int32)) rfl ?_
  refine g_isub X268 d15_13 (pc' := 14) rfl ?_
  rw [show ((2048 : Int32) - (1 : Int32)) = (2047 : Int32) from rfl]
  refine g_istore X268 d15_14 (pc' := 16) rfl (L' := #[.val (.ref a), .val (.int x), .val (.int hi), .val (.int lo), .val (.double d), .second, .val (.long d.toInt64), .second, .val (.int (2047 : Int32)), .unset, .unset, .unset]) rfl ?_
  refine g_iloadN X268 d15_16 (pc' := 17) rfl rfl ?_
  refine g_iloadN X268 d15_17 (pc' := 18) rfl rfl ?_
  refine g_iloadN X268 d15_18 (pc' := 19) rfl rfl ?_
  refine g_lload X268 d15_19 (pc' := 21) rfl rfl ?_
  refine g_callS X268 (y := (⟨"com/example/branchwise/branchwise/dd/DiagramManager", "hash", "(IIIJ)I"⟩ : MethodName)) [(.int x), (.int hi), (.int lo), (.long d.toInt64)] (hw _ m96) (hw _ m97) (hw _ m10) (hw _ m98) (hw _ m10) (rm16 l Z a0 hw x hi lo d.toInt64 h0 n0 X268.old) (by decide) (by decide) (by decide) (by decide) (by decide) rfl pd_6 rfl (rest := []) rfl (W := 0) rfl d15_21 (pc' := 24) rfl ?_
  rintro _ T269 _ _ Y269 ⟨z269, rfl, r269, rfl, rfl⟩
  have X269 := Y269 X268.old (Fr.nil _)
  show Go p e below _ (State.setTop _ (mkF m 24 #[.val (.ref a), .val (.int x), .val (.int hi), .val (.int lo), .val (.double d), .second, .val (.long d.toInt64), .second, .val (.int (2047 : Int32)), .unset, .unset, .unset] [(.int z269)]))
  refine g_iload X269 d15_24 (pc' := 26) rfl rfl ?_
  refine g_iand X269 d15_26 (pc' := 27) rfl ?_
  obtain ⟨q, hq, eq_⟩ := own_mask z269
  rw [eq_]
  refine g_istore X269 d15_27 (pc' := 29) rfl (L' := #[.val (.ref a), .val (.int x), .val (.int hi), .val (.int lo), .val (.double d), .second, .val (.long d.toInt64), .second, .val (.int (2047 : Int32)), .val (.int (Int32.ofNat q)), .unset, .unset]) rfl ?_
  refine g_iconst X269 d15_29 (pc' := 30) rfl (v := (-1 : Int32)) rfl ?_
  refine g_istore X269 d15_30 (pc' := 32) rfl (L' := #[.val (.ref a), .val (.int x), .val (.int hi), .val (.int lo), .val (.double d), .second, .val (.long d.toInt64), .second, .val (.int (2047 : Int32)), .val (.int (Int32.ofNat q)), .val (.int (-1 : Int32)), .unset]) rfl ?_
  obtain ⟨mm, hm⟩ := own_free hq hps (by omega)
  exact loop mm q _ _ _ (Or.inl rfl) hq hm X269

theorem d12_0 : decode prog_11_method_39_code 0 = .ok (.dload_n 3, 1) := by decide +kernel
theorem d12_1 : decode prog_11_method_39_code 1 = .ok (.dconst 0, 1) := by decide +kernel
theorem d12_2 : decode prog_11_method_39_code 2 = .ok (.dadd, 1) := by decide +kernel
theorem d12_3 : decode prog_11_method_39_code 3 = .ok (.invokestatic 391, 3) := by decide +kernel
theorem d12_6 : decode prog_11_method_39_code 6 = .ok (.dload_n 1, 1) := by decide +kernel
theorem d12_7 : decode prog_11_method_39_code 7 = .ok (.dconst 0, 1) := by decide +kernel
theorem d12_8 : decode prog_11_method_39_code 8 = .ok (.dadd, 1) := by decide +kernel
theorem d12_9 : decode prog_11_method_39_code 9 = .ok (.invokestatic 391, 3) := by decide +kernel
theorem d12_12 : decode prog_11_method_39_code 12 = .ok (.lxor, 1) := by decide +kernel
theorem d12_13 : decode prog_11_method_39_code 13 = .ok (.lstore 5, 2) := by decide +kernel
theorem d12_15 : decode prog_11_method_39_code 15 = .ok (.aload_n 0, 1) := by decide +kernel
theorem d12_16 : decode prog_11_method_39_code 16 = .ok (.ldc 5, 2) := by decide +kernel
theorem d12_18 : decode prog_11_method_39_code 18 = .ok (.lload 5, 2) := by decide +kernel
theorem d12_20 : decode prog_11_method_39_code 20 = .ok (.bipush 32, 2) := by decide +kernel
theorem d12_22 : decode prog_11_method_39_code 22 = .ok (.lushr, 1) := by decide +kernel
theorem d12_23 : decode prog_11_method_39_code 23 = .ok (.l2i, 1) := by decide +kernel
theorem d12_24 : decode prog_11_method_39_code 24 = .ok (.lload 5, 2) := by decide +kernel
theorem d12_26 : decode prog_11_method_39_code 26 = .ok (.l2i, 1) := by decide +kernel
theorem d12_27 : decode prog_11_method_39_code 27 = .ok (.dload_n 1, 1) := by decide +kernel
theorem d12_28 : decode prog_11_method_39_code 28 = .ok (.dconst 0, 1) := by decide +kernel
theorem d12_29 : decode prog_11_method_39_code 29 = .ok (.dadd, 1) := by decide +kernel
theorem d12_30 : decode prog_11_method_39_code 30 = .ok (.invokevirtual 400, 3) := by decide +kernel
theorem d12_33 : decode prog_11_method_39_code 33 = .ok (.ireturn, 1) := by decide +kernel
theorem ef_12 (m : MethodId) (a : Addr) (d : UInt64) (f : UInt64) : entryFrame m #[(.ref a), (.double d), (.double f)] 7 = mkF m 0 #[.val (.ref a), .val (.double d), .second, .val (.double f), .second, .unset, .unset] [] := by first | (simp [entryFrame, mkF, argsToLocals, Value.category]; done) | rfl
def R12 : Room := ({ frames := 4, cells := 0, slots := 0, locals := 94 } : Room)
set_option maxRecDepth 65536 in
set_option maxHeartbeats 40000000 in
theorem rm12 (l : Launch) (Z : State) (a0 : Array Value) (hw : ∀ d ∈ tables_1, d.before a0 Z = true) (a : Addr) (d : UInt64) (f : UInt64) (h0 : Heap) (n0 : Nat) (hO : Old Z n0 h0) (k : Nat) (N : Nat → Int32 × Int32 × Int32 × UInt64) (t : Nat → Int32) (ps : List Nat) (H : DM Z n0 h0 a k N t ps) (hk : k < 99) (hps : ps.length ≤ k) (hd : Jvm.Free.Fl.Fin64 d) (hf : Jvm.Free.Fl.Fin64 f) :
    Con l Z (⟨"com/example/branchwise/branchwise/dd/DiagramManager", "leaf", "(DD)I"⟩ : MethodName) prog_11_method_39_code 7 (some .int) [] R12 R12.cells R12.slots #[(.ref a), (.double d), (.double f)] h0 (FQ Z n0 a k N 1 (fun N' _ r => (N' r).1 = (2147483647 : Int32) ∧ (N' r).2.2.2 = FP.dadd d FP.dconst0)) := by
  refine Con.intro (n0 := n0) (plainFor_of_name pn_1) (fun m => ef_12 m a d f) hO ?_
  intro p e s m below meth cc T hs0 X0
  have E_a := own_dmE H
  refine g_dloadN X0 d12_0 (pc' := 1) rfl rfl ?_
  refine g_dconst0 X0 d12_1 (pc' := 2) rfl ?_
  refine g_dadd X0 d12_2 (pc' := 3) rfl (Jvm.Free.Fl.dadd_out hf.noNaN own_fin0) ?_
  refine g_callS X0 (y := (⟨"java/lang/Double", "doubleToLongBits", "(D)J"⟩ : MethodName)) [(.double (FP.dadd f FP.dconst0))] (hw _ m82) (hw _ m83) (hw _ m72) (hw _ m84) (hw _ m72) (rm13 l Z a0 hw (FP.dadd f FP.dconst0) h0 n0 X0.old (Jvm.Free.Fl.dadd_out hf.noNaN own_fin0)) (by decide) (by decide) (by decide) (by decide) (by decide) rfl pd_5 rfl (rest := []) rfl (W := 0) rfl d12_3 (pc' := 6) rfl ?_
  rintro _ T270 _ _ Y270 ⟨rfl, rfl, rfl⟩
  have X270 := Y270 X0.old (Fr.nil _)
  show Go p e below _ (State.setTop _ (mkF m 6 #[.val (.ref a), .val (.double d), .second, .val (.double f), .second, .unset, .unset] [(.long (FP.dadd f FP.dconst0).toInt64)]))
  refine g_dloadN X270 d12_6 (pc' := 7) rfl rfl ?_
  refine g_dconst0 X270 d12_7 (pc' := 8) rfl ?_
  refine g_dadd X270 d12_8 (pc' := 9) rfl (Jvm.Free.Fl.dadd_out hd.noNaN own_fin0) ?_
  refine g_callS X270 (y := (⟨"java/lang/Double", "doubleToLongBits", "(D)J"⟩ : MethodName)) [(.double (FP.dadd d FP.dconst0))] (hw _ m82) (hw _ m83) (hw _ m72) (hw _ m84) (hw _ m72) (rm13 l Z a0 hw (FP.dadd d FP.dconst0) h0 n0 X270.old (Jvm.Free.Fl.dadd_out hd.noNaN own_fin0)) (by decide) (by decide) (by decide) (by decide) (by decide) rfl pd_5 rfl (rest := [(.long (FP.dadd f FP.dconst0).toInt64)]) rfl (W := 2) rfl d12_9 (pc' := 12) rfl ?_
  rintro _ T271 _ _ Y271 ⟨rfl, rfl, rfl⟩
  have X271 := Y271 X270.old (Fr.nil _)
  show Go p e below _ (State.setTop _ (mkF m 12 #[.val (.ref a), .val (.double d), .second, .val (.double f), .second, .unset, .unset] [(.long (FP.dadd d FP.dconst0).toInt64), (.long (FP.dadd f FP.dconst0).toInt64)]))
  refine g_lxor X271 d12_12 (pc' := 13) rfl ?_
  refine g_lstore X271 d12_13 (pc' := 15) rfl (L' := #[.val (.ref a), .val (.double d), .second, .val (.double f), .second, .val (.long ((FP.dadd f FP.dconst0).toInt64 ^^^ (FP.dadd d FP.dconst0).toInt64)), .second]) rfl ?_
  refine g_aloadN X271 d12_15 (pc' := 16) rfl rfl rfl ?_
  refine g_ldc X271 (hw _ m91) d12_16 (pc' := 18) rfl ?_
  refine g_lload X271 d12_18 (pc' := 20) rfl rfl ?_
  refine g_bipush X271 d12_20 (pc' := 22) rfl (v := (32 : Int32)) rfl ?_
  refine g_lushr X271 d12_22 (pc' := 23) rfl ?_
  refine g_l2i X271 d12_23 (pc' := 24) rfl ?_
  refine g_lload X271 d12_24 (pc' := 26) rfl rfl ?_
  refine g_l2i X271 d12_26 (pc' := 27) rfl ?_
  refine g_dloadN X271 d12_27 (pc' := 28) rfl rfl ?_
  refine g_dconst0 X271 d12_28 (pc' := 29) rfl ?_
  refine g_dadd X271 d12_29 (pc' := 30) rfl (Jvm.Free.Fl.dadd_out hd.noNaN own_fin0) ?_
  refine g_callP X271 (y := (⟨"com/example/branchwise/branchwise/dd/DiagramManager", "findOrAdd", "(IIID)I"⟩ : MethodName)) (a := a) [(.int (2147483647 : Int32)), (.int (((((FP.dadd f FP.dconst0).toInt64 ^^^ (FP.dadd d FP.dconst0).toInt64).toUInt64 >>> ((32 : Int32) &&& 0x3f).toInt64.toUInt64).toInt64).toInt32)), (.int (((FP.dadd f FP.dconst0).toInt64 ^^^ (FP.dadd d FP.dconst0).toInt64).toInt32)), (.double (FP.dadd d FP.dconst0))] (hw _ m92) (hw _ m93) (hw _ m94) (hw _ m9) E_a (hw _ m95) (hw _ m10) (rm15 l Z a0 hw a (2147483647 : Int32) (((((FP.dadd f FP.dconst0).toInt64 ^^^ (FP.dadd d FP.dconst0).toInt64).toUInt64 >>> ((32 : Int32) &&& 0x3f).toInt64.toUInt64).toInt64).toInt32) (((FP.dadd f FP.dconst0).toInt64 ^^^ (FP.dadd d FP.dconst0).toInt64).toInt32) (FP.dadd d FP.dconst0) h0 n0 X271.old k N t ps H (by omega) hps (Jvm.Free.Fl.dadd_out hd.noNaN own_fin0)) (by decide) (by decide) (by decide) (by decide) (by decide) rfl pd_7 rfl (rest := []) rfl (W := 0) rfl d12_30 (pc' := 33) rfl ?_
  rintro _ T272 h272 L272 Y272 ⟨r272, k272, M272, t272, p272, rfl, N272, z272, H272, hr272, ha272, hb272, hl272, hg272, hN272⟩
  have X272 := Y272 z272 N272
  have q273 := own_dmE H272
  show Go p e below _ (State.setTop _ (mkF m 33 #[.val (.ref a), .val (.double d), .second, .val (.double f), .second, .val (.long ((FP.dadd f FP.dconst0).toInt64 ^^^ (FP.dadd d FP.dconst0).toInt64)), .second] [(.int (Int32.ofNat r272))]))
  exact g_retI X272 rfl d12_33 (by decide) (by decide) ⟨r272, k272, M272, t272, p272, rfl, X272.fr, X272.old, H272, hr272, ha272, hb272, hl272, ⟨(congrArg (fun q => q.1) hg272).trans rfl, (congrArg (fun q => q.2.2.2) hg272).trans rfl⟩, hN272⟩

theorem own_fintab {args : Array Value} {s : State} (h1 : (Jvm.Cond.code Jvm.Free.Fl.IsFinite.yN Jvm.Free.Fl.IsFinite.yB 2 (some .boolean)).before args s = true) (h2 : (Jvm.Cond.methodLink "java/lang/Double" 38 Jvm.Free.Fl.Abs.absDN).before args s = true) (h3 : (Jvm.Cond.static Jvm.Free.Fl.Abs.absDN).before args s = true) (h4 : (Jvm.Cond.initialized "java/lang/Math").before args s = true) (h5 : (Jvm.Cond.code Jvm.Free.Fl.Abs.absDN Jvm.Free.Fl.Abs.absDCode 2 (some .double)).before args s = true) (h6 : (Jvm.Cond.constantDouble "java/lang/Double" 111 Jvm.Free.Fl.maxD).before args s = true) : Jvm.Free.Fl.IsFinite.tab.before args s = true := by
  simp only [Jvm.Free.Fl.IsFinite.tab, Cond.before_and, Bool.and_eq_true]; exact ⟨h1, h2, h3, h4, h5, h6⟩
theorem d9_0 : decode prog_11_method_3_code 0 = .ok (.dload_n 1, 1) := by decide +kernel
theorem d9_1 : decode prog_11_method_3_code 1 = .ok (.invokestatic 59, 3) := by decide +kernel
theorem d9_4 : decode prog_11_method_3_code 4 = .ok (.ifCond .ne 17, 3) := by decide +kernel
theorem d9_21 : decode prog_11_method_3_code 21 = .ok (.aload_n 0, 1) := by decide +kernel
theorem d9_22 : decode prog_11_method_3_code 22 = .ok (.dload_n 1, 1) := by decide +kernel
theorem d9_23 : decode prog_11_method_3_code 23 = .ok (.dload_n 1, 1) := by decide +kernel
theorem d9_24 : decode prog_11_method_3_code 24 = .ok (.invokevirtual 68, 3) := by decide +kernel
theorem d9_27 : decode prog_11_method_3_code 27 = .ok (.ireturn, 1) := by decide +kernel
theorem ef_9 (m : MethodId) (a : Addr) (d : UInt64) : entryFrame m #[(.ref a), (.double d)] 3 = mkF m 0 #[.val (.ref a), .val (.double d), .second] [] := by first | (simp [entryFrame, mkF, argsToLocals, Value.category]; done) | rfl
def R9 : Room := ({ frames := 5, cells := 0, slots := 0, locals := 112 } : Room)
set_option maxRecDepth 65536 in
set_option maxHeartbeats 40000000 in
theorem rm9 (l : Launch) (Z : State) (a0 : Array Value) (hw : ∀ d ∈ tables_1, d.before a0 Z = true) (a : Addr) (d : UInt64) (h0 : Heap) (n0 : Nat) (hO : Old Z n0 h0) (k : Nat) (N : Nat → Int32 × Int32 × Int32 × UInt64) (t : Nat → Int32) (ps : List Nat) (H : DM Z n0 h0 a k N t ps) (hk : k < 99) (hps : ps.length ≤ k) (hd : Jvm.Free.Fl.Fin64 d) :
    Con l Z (⟨"com/example/branchwise/branchwise/dd/DiagramManager", "constant", "(D)I"⟩ : MethodName) prog_11_method_3_code 3 (some .int) [] R9 R9.cells R9.slots #[(.ref a), (.double d)] h0 (FQ Z n0 a k N 1 (fun N' _ r => (N' r).1 = (2147483647 : Int32) ∧ (N' r).2.2.2 = FP.dadd d FP.dconst0)) := by
  refine Con.intro (n0 := n0) (plainFor_of_name pn_1) (fun m => ef_9 m a d) hO ?_
  intro p e s m below meth cc T hs0 X0
  have E_a := own_dmE H
  refine g_dloadN X0 d9_0 (pc' := 1) rfl rfl ?_
  refine g_callSB X0 (y := (⟨"java/lang/Double", "isFinite", "(D)Z"⟩ : MethodName)) [(.double d)] (hw _ m70) (hw _ m71) (hw _ m72) (hw _ m73) ((Jvm.Free.Fl.IsFinite.pays (W := 0) (by decide) (by decide) (own_fintab (mvT X0.hZ (hw _ m73)) (mvT X0.hZ (hw _ m74)) (mvT X0.hZ (hw _ m75)) (mvT X0.hZ (hw _ m3)) (mvT X0.hZ (hw _ m76)) (mvT X0.hZ (hw _ m77))) (mvT X0.hZ (hw _ m72))).mono (fun A a' q => ⟨q.2.2.1, q.2.2.2, _, q.1, hd.noNaN⟩) (fun A a' v B q r => ⟨[], ⟨(r.2 _ ⟨q.1, hd.noNaN⟩).trans (by rw [if_pos ((Jvm.Free.Fl.le_max_iff hd.noNaN).mpr hd)]), (r.1.1.trans q.2.1).symm, rfl⟩, r.1.2.1.trans (List.append_nil _).symm, r.1.2.2.1, r.1.2.2.2⟩)) (cc := 0) (ss := 0) (Q := (fun v h' L => v = some (.int (1 : Int32)) ∧ h0 = h' ∧ L = [])) (by decide) (by decide) (by decide) rfl pd_4 rfl (rest := []) rfl (W := 0) rfl d9_1 (pc' := 4) rfl ?_
  rintro _ T274 _ _ Y274 ⟨rfl, rfl, rfl⟩
  have X274 := Y274 X0.old (Fr.nil _)
  show Go p e below _ (State.setTop _ (mkF m 4 #[.val (.ref a), .val (.double d), .second] [(.int (1 : Int32))]))
  refine g_if_ne_t X274 d9_4 (pt := 21) (by decide) (by decide) ?_
  refine g_aloadN X274 d9_21 (pc' := 22) rfl rfl rfl ?_
  refine g_dloadN X274 d9_22 (pc' := 23) rfl rfl ?_
  refine g_dloadN X274 d9_23 (pc' := 24) rfl rfl ?_
  refine g_callP X274 (y := (⟨"com/example/branchwise/branchwise/dd/DiagramManager", "leaf", "(DD)I"⟩ : MethodName)) (a := a) [(.double d), (.double d)] (hw _ m78) (hw _ m79) (hw _ m80) (hw _ m9) E_a (hw _ m81) (hw _ m10) (rm12 l Z a0 hw a d d h0 n0 X274.old k N t ps H (by omega) hps hd hd) (by decide) (by decide) (by decide) (by decide) (by decide) rfl pd_8 rfl (rest := []) rfl (W := 0) rfl d9_24 (pc' := 27) rfl ?_
  rintro _ T275 h275 L275 Y275 ⟨r275, k275, M275, t275, p275, rfl, N275, z275, H275, hr275, ha275, hb275, hl275, hg275, hN275⟩
  have X275 := Y275 z275 N275
  have q276 := own_dmE H275
  show Go p e below _ (State.setTop _ (mkF m 27 #[.val (.ref a), .val (.double d), .second] [(.int (Int32.ofNat r275))]))
  exact g_retI X275 rfl d9_27 (by decide) (by decide) ⟨r275, k275, M275, t275, p275, rfl, X275.fr, X275.old, H275, hr275, ha275, hb275, hl275, hg275, hN275⟩

theorem d19_0 : decode prog_11_method_4_code 0 = .ok (.dload_n 1, 1) := by decide +kernel
theorem d19_1 : decode prog_11_method_4_code 1 = .ok (.invokestatic 59, 3) := by decide +kernel
theorem d19_4 : decode prog_11_method_4_code 4 = .ok (.ifCond .eq 10, 3) := by decide +kernel
theorem d19_7 : decode prog_11_method_4_code 7 = .ok (.dload_n 3, 1) := by decide +kernel
theorem d19_8 : decode prog_11_method_4_code 8 = .ok (.invokestatic 59, 3) := by decide +kernel
theorem d19_11 : decode prog_11_method_4_code 11 = .ok (.ifCond .ne 18, 3) := by decide +kernel
theorem d19_29 : decode prog_11_method_4_code 29 = .ok (.dload_n 1, 1) := by decide +kernel
theorem d19_30 : decode prog_11_method_4_code 30 = .ok (.dload_n 3, 1) := by decide +kernel
theorem d19_31 : decode prog_11_method_4_code 31 = .ok (.dcmp .l, 1) := by decide +kernel
theorem d19_32 : decode prog_11_method_4_code 32 = .ok (.ifCond .le 18, 3) := by decide +kernel
theorem d19_50 : decode prog_11_method_4_code 50 = .ok (.aload_n 0, 1) := by decide +kernel
theorem d19_51 : decode prog_11_method_4_code 51 = .ok (.dload_n 1, 1) := by decide +kernel
theorem d19_52 : decode prog_11_method_4_code 52 = .ok (.dload_n 3, 1) := by decide +kernel
theorem d19_53 : decode prog_11_method_4_code 53 = .ok (.invokevirtual 68, 3) := by decide +kernel
theorem d19_56 : decode prog_11_method_4_code 56 = .ok (.ireturn, 1) := by decide +kernel
theorem ef_19 (m : MethodId) (a : Addr) (d : UInt64) (f : UInt64) : entryFrame m #[(.ref a), (.double d), (.double f)] 5 = mkF m 0 #[.val (.ref a), .val (.double d), .second, .val (.double f), .second] [] := by first | (simp [entryFrame, mkF, argsToLocals, Value.category]; done) | rfl
def R19 : Room := ({ frames := 5, cells := 0, slots := 0, locals := 112 } : Room)
set_option maxRecDepth 65536 in
set_option maxHeartbeats 40000000 in
theorem rm19 (l : Launch) (Z : State) (a0 : Array Value) (hw : ∀ d ∈ tables_1, d.before a0 Z = true) (a : Addr) (d : UInt64) (f : UInt64) (h0 : Heap) (n0 : Nat) (hO : Old Z n0 h0) (k : Nat) (N : Nat → Int32 × Int32 × Int32 × UInt64) (t : Nat → Int32) (ps : List Nat) (H : DM Z n0 h0 a k N t ps) (hk : k < 99) (hps : ps.length ≤ k) (hd : Jvm.Free.Fl.Fin64 d) (hf : Jvm.Free.Fl.Fin64 f) (hc : ¬ 0 < cmpValue (FP.dcmp d f) .l) :
    Con l Z (⟨"com/example/branchwise/branchwise/dd/DiagramManager", "range", "(DD)I"⟩ : MethodName) prog_11_method_4_code 5 (some .int) [] R19 R19.cells R19.slots #[(.ref a), (.double d), (.double f)] h0 (FQ Z n0 a k N 1 (fun N' _ r => (N' r).1 = (2147483647 : Int32) ∧ (N' r).2.2.2 = FP.dadd d FP.dconst0)) := by
  refine Con.intro (n0 := n0) (plainFor_of_name pn_1) (fun m => ef_19 m a d f) hO ?_
  intro p e s m below meth cc T hs0 X0
  have E_a := own_dmE H
  refine g_dloadN X0 d19_0 (pc' := 1) rfl rfl ?_
  refine g_callSB X0 (y := (⟨"java/lang/Double", "isFinite", "(D)Z"⟩ : MethodName)) [(.double d)] (hw _ m70) (hw _ m71) (hw _ m72) (hw _ m73) ((Jvm.Free.Fl.IsFinite.pays (W := 0) (by decide) (by decide) (own_fintab (mvT X0.hZ (hw _ m73)) (mvT X0.hZ (hw _ m74)) (mvT X0.hZ (hw _ m75)) (mvT X0.hZ (hw _ m3)) (mvT X0.hZ (hw _ m76)) (mvT X0.hZ (hw _ m77))) (mvT X0.hZ (hw _ m72))).mono (fun A a' q => ⟨q.2.2.1, q.2.2.2, _, q.1, hd.noNaN⟩) (fun A a' v B q r => ⟨[], ⟨(r.2 _ ⟨q.1, hd.noNaN⟩).trans (by rw [if_pos ((Jvm.Free.Fl.le_max_iff hd.noNaN).mpr hd)]), (r.1.1.trans q.2.1).symm, rfl⟩, r.1.2.1.trans (List.append_nil _).symm, r.1.2.2.1, r.1.2.2.2⟩)) (cc := 0) (ss := 0) (Q := (fun v h' L => v = some (.int (1 : Int32)) ∧ h0 = h' ∧ L = [])) (by decide) (by decide) (by decide) rfl pd_4 rfl (rest := []) rfl (W := 0) rfl d19_1 (pc' := 4) rfl ?_
  rintro _ T277 _ _ Y277 ⟨rfl, rfl, rfl⟩
  have X277 := Y277 X0.old (Fr.nil _)
  show Go p e below _ (State.setTop _ (mkF m 4 #[.val (.ref a), .val (.double d), .second, .val (.double f), .second] [(.int (1 : Int32))]))
  refine g_if_eq_f X277 d19_4 (pc' := 7) rfl (by decide) ?_
  refine g_dloadN X277 d19_7 (pc' := 8) rfl rfl ?_
  refine g_callSB X277 (y := (⟨"java/lang/Double", "isFinite", "(D)Z"⟩ : MethodName)) [(.double f)] (hw _ m70) (hw _ m71) (hw _ m72) (hw _ m73) ((Jvm.Free.Fl.IsFinite.pays (W := 0) (by decide) (by decide) (own_fintab (mvT X277.hZ (hw _ m73)) (mvT X277.hZ (hw _ m74)) (mvT X277.hZ (hw _ m75)) (mvT X277.hZ (hw _ m3)) (mvT X277.hZ (hw _ m76)) (mvT X277.hZ (hw _ m77))) (mvT X277.hZ (hw _ m72))).mono (fun A a' q => ⟨q.2.2.1, q.2.2.2, _, q.1, hf.noNaN⟩) (fun A a' v B q r => ⟨[], ⟨(r.2 _ ⟨q.1, hf.noNaN⟩).trans (by rw [if_pos ((Jvm.Free.Fl.le_max_iff hf.noNaN).mpr hf)]), (r.1.1.trans q.2.1).symm, rfl⟩, r.1.2.1.trans (List.append_nil _).symm, r.1.2.2.1, r.1.2.2.2⟩)) (cc := 0) (ss := 0) (Q := (fun v h' L => v = some (.int (1 : Int32)) ∧ h0 = h' ∧ L = [])) (by decide) (by decide) (by decide) rfl pd_4 rfl (rest := []) rfl (W := 0) rfl d19_8 (pc' := 11) rfl ?_
  rintro _ T278 _ _ Y278 ⟨rfl, rfl, rfl⟩
  have X278 := Y278 X277.old (Fr.nil _)
  show Go p e below _ (State.setTop _ (mkF m 11 #[.val (.ref a), .val (.double d), .second, .val (.double f), .second] [(.int (1 : Int32))]))
  refine g_if_ne_t X278 d19_11 (pt := 29) (by decide) (by decide) ?_
  refine g_dloadN X278 d19_29 (pc' := 30) rfl rfl ?_
  refine g_dloadN X278 d19_30 (pc' := 31) rfl rfl ?_
  refine g_dcmp X278 d19_31 (pc' := 32) rfl ?_
  refine g_if_le_t X278 d19_32 (pt := 50) (by decide) hc ?_
  refine g_aloadN X278 d19_50 (pc' := 51) rfl rfl rfl ?_
  refine g_dloadN X278 d19_51 (pc' := 52) rfl rfl ?_
  refine g_dloadN X278 d19_52 (pc' := 53) rfl rfl ?_
  refine g_callP X278 (y := (⟨"com/example/branchwise/branchwise/dd/DiagramManager", "leaf", "(DD)I"⟩ : MethodName)) (a := a) [(.double d), (.double f)] (hw _ m78) (hw _ m79) (hw _ m80) (hw _ m9) E_a (hw _ m81) (hw _ m10) (rm12 l Z a0 hw a d f h0 n0 X278.old k N t ps H (by omega) hps hd hf) (by decide) (by decide) (by decide) (by decide) (by decide) rfl pd_8 rfl (rest := []) rfl (W := 0) rfl d19_53 (pc' := 56) rfl ?_
  rintro _ T279 h279 L279 Y279 ⟨r279, k279, M279, t279, p279, rfl, N279, z279, H279, hr279, ha279, hb279, hl279, hg279, hN279⟩
  have X279 := Y279 z279 N279
  have q280 := own_dmE H279
  show Go p e below _ (State.setTop _ (mkF m 56 #[.val (.ref a), .val (.double d), .second, .val (.double f), .second] [(.int (Int32.ofNat r279))]))
  exact g_retI X279 rfl d19_56 (by decide) (by decide) ⟨r279, k279, M279, t279, p279, rfl, X279.fr, X279.old, H279, hr279, ha279, hb279, hl279, hg279, hN279⟩

theorem d22_0 : decode prog_11_method_41_code 0 = .ok (.iload_n 2, 1) := by decide +kernel
theorem d22_1 : decode prog_11_method_41_code 1 = .ok (.iload_n 3, 1) := by decide +kernel
theorem d22_2 : decode prog_11_method_41_code 2 = .ok (.if_icmp .ne 7, 3) := by decide +kernel
theorem d22_9 : decode prog_11_method_41_code 9 = .ok (.aload_n 0, 1) := by decide +kernel
theorem d22_10 : decode prog_11_method_41_code 10 = .ok (.iload_n 1, 1) := by decide +kernel
theorem d22_11 : decode prog_11_method_41_code 11 = .ok (.iload_n 2, 1) := by decide +kernel
theorem d22_12 : decode prog_11_method_41_code 12 = .ok (.iload_n 3, 1) := by decide +kernel
theorem d22_13 : decode prog_11_method_41_code 13 = .ok (.dconst 0, 1) := by decide +kernel
theorem d22_14 : decode prog_11_method_41_code 14 = .ok (.invokevirtual 400, 3) := by decide +kernel
theorem d22_17 : decode prog_11_method_41_code 17 = .ok (.ireturn, 1) := by decide +kernel
theorem ef_22 (m : MethodId) (a : Addr) (x : Int32) (y : Int32) (z : Int32) : entryFrame m #[(.ref a), (.int x), (.int y), (.int z)] 4 = mkF m 0 #[.val (.ref a), .val (.int x), .val (.int y), .val (.int z)] [] := by first | (simp [entryFrame, mkF, argsToLocals, Value.category]; done) | rfl
def R22 : Room := ({ frames := 4, cells := 0, slots := 0, locals := 94 } : Room)
set_option maxRecDepth 65536 in
set_option maxHeartbeats 40000000 in
theorem rm22 (l : Launch) (Z : State) (a0 : Array Value) (hw : ∀ d ∈ tables_1, d.before a0 Z = true) (a : Addr) (x : Int32) (y : Int32) (z : Int32) (h0 : Heap) (n0 : Nat) (hO : Old Z n0 h0) (k : Nat) (N : Nat → Int32 × Int32 × Int32 × UInt64) (t : Nat → Int32) (ps : List Nat) (H : DM Z n0 h0 a k N t ps) (hk : k < 99) (hps : ps.length ≤ k) (hne : ¬ y = z) :
    Con l Z (⟨"com/example/branchwise/branchwise/dd/DiagramManager", "node", "(III)I"⟩ : MethodName) prog_11_method_41_code 4 (some .int) [] R22 R22.cells R22.slots #[(.ref a), (.int x), (.int y), (.int z)] h0 (FQ Z n0 a k N 1 (fun N' _ r => N' r = (x, y, z, FP.dconst0))) := by
  refine Con.intro (n0 := n0) (plainFor_of_name pn_1) (fun m => ef_22 m a x y z) hO ?_
  intro p e s m below meth cc T hs0 X0
  have E_a := own_dmE H
  refine g_iloadN X0 d22_0 (pc' := 1) rfl rfl ?_
  refine g_iloadN X0 d22_1 (pc' := 2) rfl rfl ?_
  refine g_icmp_ne_t X0 d22_2 (pt := 9) (by decide) hne ?_
  refine g_aloadN X0 d22_9 (pc' := 10) rfl rfl rfl ?_
  refine g_iloadN X0 d22_10 (pc' := 11) rfl rfl ?_
  refine g_iloadN X0 d22_11 (pc' := 12) rfl rfl ?_
  refine g_iloadN X0 d22_12 (pc' := 13) rfl rfl ?_
  refine g_dconst0 X0 d22_13 (pc' := 14) rfl ?_
  refine g_callP X0 (y := (⟨"com/example/branchwise/branchwise/dd/DiagramManager", "findOrAdd", "(IIID)I"⟩ : MethodName)) (a := a) [(.int x), (.int y), (.int z), (.double FP.dconst0)] (hw _ m92) (hw _ m93) (hw _ m94) (hw _ m9) E_a (hw _ m95) (hw _ m10) (rm15 l Z a0 hw a x y z FP.dconst0 h0 n0 X0.old k N t ps H (by omega) hps own_nn0) (by decide) (by decide) (by decide) (by decide) (by decide) rfl pd_7 rfl (rest := []) rfl (W := 0) rfl d22_14 (pc' := 17) rfl ?_
  rintro _ T281 h281 L281 Y281 ⟨r281, k281, M281, t281, p281, rfl, N281, z281, H281, hr281, ha281, hb281, hl281, hg281, hN281⟩
  have X281 := Y281 z281 N281
  have q282 := own_dmE H281
  show Go p e below _ (State.setTop _ (mkF m 17 #[.val (.ref a), .val (.int x), .val (.int y), .val (.int z)] [(.int (Int32.ofNat r281))]))
  exact g_retI X281 rfl d22_17 (by decide) (by decide) ⟨r281, k281, M281, t281, p281, rfl, X281.fr, X281.old, H281, hr281, ha281, hb281, hl281, hg281, hN281⟩

theorem d20_0 : decode prog_11_method_5_code 0 = .ok (.iload_n 1, 1) := by decide +kernel
theorem d20_1 : decode prog_11_method_5_code 1 = .ok (.invokestatic 76, 3) := by decide +kernel
theorem d20_4 : decode prog_11_method_5_code 4 = .ok (.aload_n 0, 1) := by decide +kernel
theorem d20_5 : decode prog_11_method_5_code 5 = .ok (.iload_n 1, 1) := by decide +kernel
theorem d20_6 : decode prog_11_method_5_code 6 = .ok (.aload_n 0, 1) := by decide +kernel
theorem d20_7 : decode prog_11_method_5_code 7 = .ok (.dconst 1, 1) := by decide +kernel
theorem d20_8 : decode prog_11_method_5_code 8 = .ok (.invokevirtual 79, 3) := by decide +kernel
theorem d20_11 : decode prog_11_method_5_code 11 = .ok (.aload_n 0, 1) := by decide +kernel
theorem d20_12 : decode prog_11_method_5_code 12 = .ok (.dconst 0, 1) := by decide +kernel
theorem d20_13 : decode prog_11_method_5_code 13 = .ok (.invokevirtual 79, 3) := by decide +kernel
theorem d20_16 : decode prog_11_method_5_code 16 = .ok (.invokevirtual 83, 3) := by decide +kernel
theorem d20_19 : decode prog_11_method_5_code 19 = .ok (.ireturn, 1) := by decide +kernel
theorem ef_20 (m : MethodId) (a : Addr) (x : Int32) : entryFrame m #[(.ref a), (.int x)] 2 = mkF m 0 #[.val (.ref a), .val (.int x)] [] := by first | (simp [entryFrame, mkF, argsToLocals, Value.category]; done) | rfl
def R20 : Room := ({ frames := 6, cells := 0, slots := 0, locals := 129 } : Room)
set_option maxRecDepth 65536 in
set_option maxHeartbeats 40000000 in
theorem rm20 (l : Launch) (Z : State) (a0 : Array Value) (hw : ∀ d ∈ tables_1, d.before a0 Z = true) (a : Addr) (x : Int32) (h0 : Heap) (n0 : Nat) (hO : Old Z n0 h0) (k : Nat) (N : Nat → Int32 × Int32 × Int32 × UInt64) (t : Nat → Int32) (ps : List Nat) (H : DM Z n0 h0 a k N t ps) (hk : k < 90) (hps : ps.length ≤ k) (hx0 : ¬ x < 0) (hx1 : x < (2147483647 : Int32)) :
    Con l Z (⟨"com/example/branchwise/branchwise/dd/DiagramManager", "indicator", "(I)I"⟩ : MethodName) prog_11_method_5_code 2 (some .int) [] R20 R20.cells R20.slots #[(.ref a), (.int x)] h0 (FQ Z n0 a k N 3 (fun N' k' r => (N' r).1 = x ∧ ∃ i j, i < k' ∧ j < k' ∧ (N' r).2.1 = Int32.ofNat i ∧ (N' r).2.2.1 = Int32.ofNat j ∧ (N' i).1 = (2147483647 : Int32) ∧ (N' j).1 = (2147483647 : Int32))) := by
  refine Con.intro (n0 := n0) (plainFor_of_name pn_1) (fun m => ef_20 m a x) hO ?_
  intro p e s m below meth cc T hs0 X0
  have E_a := own_dmE H
  refine g_iloadN X0 d20_0 (pc' := 1) rfl rfl ?_
  refine g_callS X0 (y := (⟨"com/example/branchwise/branchwise/dd/DiagramManager", "checkVariable", "(I)V"⟩ : MethodName)) [(.int x)] (hw _ m124) (hw _ m125) (hw _ m10) (hw _ m126) (hw _ m10) (rm21 l Z a0 hw x h0 n0 X0.old hx0 hx1) (by decide) (by decide) (by decide) (by decide) (by decide) rfl pd_3 rfl (rest := []) rfl (W := 0) rfl d20_1 (pc' := 4) rfl ?_
  rintro _ T283 _ _ Y283 ⟨rfl, rfl, rfl⟩
  have X283 := Y283 X0.old (Fr.nil _)
  show Go p e below _ (State.setTop _ (mkF m 4 #[.val (.ref a), .val (.int x)] []))
  refine g_aloadN X283 d20_4 (pc' := 5) rfl rfl rfl ?_
  refine g_iloadN X283 d20_5 (pc' := 6) rfl rfl ?_
  refine g_aloadN X283 d20_6 (pc' := 7) rfl rfl rfl ?_
  refine g_dconst1 X283 d20_7 (pc' := 8) rfl ?_
  refine g_callV X283 (y := (⟨"com/example/branchwise/branchwise/dd/DiagramManager", "constant", "(D)I"⟩ : MethodName)) (z := (⟨"com/example/branchwise/branchwise/dd/DiagramManager", "constant", "(D)I"⟩ : MethodName)) (a := a) [(.double FP.dconst1)] (hw _ m127) (hw _ m66) (notFace_of_selects (args := #[]) (mvT X283.hZ (hw _ m68))) (hw _ m68) (hw _ m67) E_a (hw _ m69) (hw _ m10) (rm9 l Z a0 hw a FP.dconst1 h0 n0 X283.old k N t ps H (by omega) hps own_fin1) (by decide) (by decide) (by decide) (by decide) (by decide) rfl pd_9 rfl (rest := [(.int x), (.ref a)]) rfl (W := 2) rfl d20_8 (pc' := 11) rfl ?_
  rintro _ T284 h284 L284 Y284 ⟨r284, k284, M284, t284, p284, rfl, N284, z284, H284, hr284, ha284, hb284, hl284, hg284, hN284⟩
  have X284 := Y284 z284 N284
  have q285 := own_dmE H284
  show Go p e below _ (State.setTop _ (mkF m 11 #[.val (.ref a), .val (.int x)] [(.int (Int32.ofNat r284)), (.int x), (.ref a)]))
  refine g_aloadN X284 d20_11 (pc' := 12) rfl rfl rfl ?_
  refine g_dconst0 X284 d20_12 (pc' := 13) rfl ?_
  refine g_callV X284 (y := (⟨"com/example/branchwise/branchwise/dd/DiagramManager", "constant", "(D)I"⟩ : MethodName)) (z := (⟨"com/example/branchwise/branchwise/dd/DiagramManager", "constant", "(D)I"⟩ : MethodName)) (a := a) [(.double FP.dconst0)] (hw _ m127) (hw _ m66) (notFace_of_selects (args := #[]) (mvT X284.hZ (hw _ m68))) (hw _ m68) (hw _ m67) q285 (hw _ m69) (hw _ m10) (rm9 l Z a0 hw a FP.dconst0 h284 n0 X284.old k284 M284 t284 p284 H284 (by omega) hl284 own_fin0) (by decide) (by decide) (by decide) (by decide) (by decide) rfl pd_9 rfl (rest := [(.int (Int32.ofNat r284)), (.int x), (.ref a)]) rfl (W := 3) rfl d20_13 (pc' := 16) rfl ?_
  rintro _ T286 h286 L286 Y286 ⟨r286, k286, M286, t286, p286, rfl, N286, z286, H286, hr286, ha286, hb286, hl286, hg286, hN286⟩
  have X286 := Y286 z286 N286
  have q287 := own_dmE H286
  show Go p e below _ (State.setTop _ (mkF m 16 #[.val (.ref a), .val (.int x)] [(.int (Int32.ofNat r286)), (.int (Int32.ofNat r284)), (.int x), (.ref a)]))
  have e1 : M286 r284 = M284 r284 := hN286 _ hr284
  have hne : ¬ Int32.ofNat r284 = Int32.ofNat r286 := fun q => by
    have q2 := (own_inj (by omega) (by omega)).mp q
    rw [← q2, e1] at hg286
    exact own_zo (hg284.2.symm.trans hg286.2)
  refine g_callP X286 (y := (⟨"com/example/branchwise/branchwise/dd/DiagramManager", "node", "(III)I"⟩ : MethodName)) (a := a) [(.int x), (.int (Int32.ofNat r284)), (.int (Int32.ofNat r286))] (hw _ m128) (hw _ m129) (hw _ m130) (hw _ m9) q287 (hw _ m131) (hw _ m10) (rm22 l Z a0 hw a x (Int32.ofNat r284) (Int32.ofNat r286) h286 n0 X286.old k286 M286 t286 p286 H286 (by omega) hl286 hne) (by decide) (by decide) (by decide) (by decide) (by decide) rfl pd_10 rfl (rest := []) rfl (W := 0) rfl d20_16 (pc' := 19) rfl ?_
  rintro _ T288 h288 L288 Y288 ⟨r288, k288, M288, t288, p288, rfl, N288, z288, H288, hr288, ha288, hb288, hl288, hg288, hN288⟩
  have X288 := Y288 z288 N288
  have q289 := own_dmE H288
  show Go p e below _ (State.setTop _ (mkF m 19 #[.val (.ref a), .val (.int x)] [(.int (Int32.ofNat r288))]))
  exact g_retI X288 rfl d20_19 (by decide) (by decide) ⟨r288, k288, M288, t288, p288, rfl, X288.fr, X288.old, H288, hr288, (by omega), (by omega), hl288, ⟨congrArg (fun q => q.1) hg288, r284, r286, (by omega), (by omega), congrArg (fun q => q.2.1) hg288, congrArg (fun q => q.2.2.1) hg288, (by rw [hN288 _ (by omega), e1]; exact hg284.1), (by rw [hN288 _ (by omega)]; exact hg286.1)⟩, (fun j hj => by rw [hN288 _ (by omega), hN286 _ (by omega), hN284 _ hj])⟩

theorem d23_0 : decode prog_11_method_30_code 0 = .ok (.aload_n 0, 1) := by decide +kernel
theorem d23_1 : decode prog_11_method_30_code 1 = .ok (.getfield 15, 3) := by decide +kernel
theorem d23_4 : decode prog_11_method_30_code 4 = .ok (.iload_n 1, 1) := by decide +kernel
theorem d23_5 : decode prog_11_method_30_code 5 = .ok (.iaload, 1) := by decide +kernel
theorem d23_6 : decode prog_11_method_30_code 6 = .ok (.ldc 5, 2) := by decide +kernel
theorem d23_8 : decode prog_11_method_30_code 8 = .ok (.if_icmp .ne 7, 3) := by decide +kernel
theorem d23_11 : decode prog_11_method_30_code 11 = .ok (.iconst 1, 1) := by decide +kernel
theorem d23_12 : decode prog_11_method_30_code 12 = .ok (.goto 4, 3) := by decide +kernel
theorem d23_15 : decode prog_11_method_30_code 15 = .ok (.iconst 0, 1) := by decide +kernel
theorem d23_16 : decode prog_11_method_30_code 16 = .ok (.ireturn, 1) := by decide +kernel
theorem ef_23 (m : MethodId) (a : Addr) (r : Nat) : entryFrame m #[(.ref a), (.int (Int32.ofNat r))] 2 = mkF m 0 #[.val (.ref a), .val (.int (Int32.ofNat r))] [] := by first | (simp [entryFrame, mkF, argsToLocals, Value.category]; done) | rfl
def R23 : Room := ({ frames := 0, cells := 0, slots := 0, locals := 0 } : Room)
set_option maxRecDepth 65536 in
set_option maxHeartbeats 40000000 in
theorem rm23 (l : Launch) (Z : State) (a0 : Array Value) (hw : ∀ d ∈ tables_1, d.before a0 Z = true) (a : Addr) (r : Nat) (h0 : Heap) (n0 : Nat) (hO : Old Z n0 h0) (k : Nat) (N : Nat → Int32 × Int32 × Int32 × UInt64) (t : Nat → Int32) (ps : List Nat) (H : DM Z n0 h0 a k N t ps) (hk : k < 110) (hr : r < k) (b : Int32) (hb : ((N r).1 = (2147483647 : Int32) ∧ b = 1) ∨ (¬ (N r).1 = (2147483647 : Int32) ∧ b = 0)) :
    Con l Z (⟨"com/example/branchwise/branchwise/dd/DiagramManager", "isLeaf", "(I)Z"⟩ : MethodName) prog_11_method_30_code 2 (some .boolean) [] R23 R23.cells R23.slots #[(.ref a), (.int (Int32.ofNat r))] h0 (fun v h L => v = some (.int b) ∧ h0 = h ∧ L = []) := by
  refine Con.intro (n0 := n0) (plainFor_of_name pn_1) (fun m => ef_23 m a r) hO ?_
  intro p e s m below meth cc T hs0 X0
  obtain ⟨av, ah, al, ad, au, E_a, F_variables, F_highs, F_lows, F_values, F_uniqueTable, F_size, F_freeCount, F_nodeLimit, A_av, A_ah, A_al, A_ad, A_au, g_a, g_av, g_ah, g_al, g_ad, g_au, n_a_av, n_a_ah, n_a_al, n_a_ad, n_a_au, n_av_ah, n_av_al, n_av_ad, n_av_au, n_ah_al, n_ah_ad, n_ah_au, n_al_ad, n_al_au, n_ad_au, hnn, hti, htp⟩ := id H
  refine g_aloadN X0 d23_0 (pc' := 1) rfl rfl rfl ?_
  refine g_getF X0 (host := "") (Or.inl (hw _ m18)) Via.refl F_variables d23_1 (pc' := 4) rfl (fun T290 X290 => ?_)
  refine g_iloadN X290 d23_4 (pc' := 5) rfl rfl ?_
  refine g_iaload X290 (i := r) (v := (.int (N r).1)) A_av (own_small (by omega)) (own_li_at _ (by omega)) d23_5 (pc' := 6) rfl ?_
  refine g_ldc X290 (hw _ m91) d23_6 (pc' := 8) rfl ?_
  refine g_icmp_ne X290 d23_8 (pt := 15) (by decide) (pc' := 11) rfl (fun hc8 => ?_) (fun hc8 => ?_)
  · refine g_iconst X290 d23_15 (pc' := 16) rfl (v := (0 : Int32)) rfl ?_
    exact g_retN X290 (Or.inl rfl) rfl d23_16 (by decide) (by decide) ⟨(by rw [hb.elim (fun q => absurd q.1 hc8) (fun q => q.2)]; rfl), rfl, rfl⟩
  · refine g_iconst X290 d23_11 (pc' := 12) rfl (v := (1 : Int32)) rfl ?_
    refine g_goto X290 d23_12 (pt := 16) (by decide) ?_
    exact g_retN X290 (Or.inl rfl) rfl d23_16 (by decide) (by decide) ⟨(by rw [hb.elim (fun q => q.2) (fun q => absurd hc8 q.1)]; rfl), rfl, rfl⟩

theorem d24_0 : decode prog_11_method_32_code 0 = .ok (.aload_n 0, 1) := by decide +kernel
theorem d24_1 : decode prog_11_method_32_code 1 = .ok (.getfield 19, 3) := by decide +kernel
theorem d24_4 : decode prog_11_method_32_code 4 = .ok (.iload_n 1, 1) := by decide +kernel
theorem d24_5 : decode prog_11_method_32_code 5 = .ok (.iaload, 1) := by decide +kernel
theorem d24_6 : decode prog_11_method_32_code 6 = .ok (.ireturn, 1) := by decide +kernel
theorem ef_24 (m : MethodId) (a : Addr) (r : Nat) : entryFrame m #[(.ref a), (.int (Int32.ofNat r))] 2 = mkF m 0 #[.val (.ref a), .val (.int (Int32.ofNat r))] [] := by first | (simp [entryFrame, mkF, argsToLocals, Value.category]; done) | rfl
def R24 : Room := ({ frames := 0, cells := 0, slots := 0, locals := 0 } : Room)
set_option maxRecDepth 65536 in
set_option maxHeartbeats 40000000 in
theorem rm24 (l : Launch) (Z : State) (a0 : Array Value) (hw : ∀ d ∈ tables_1, d.before a0 Z = true) (a : Addr) (r : Nat) (h0 : Heap) (n0 : Nat) (hO : Old Z n0 h0) (k : Nat) (N : Nat → Int32 × Int32 × Int32 × UInt64) (t : Nat → Int32) (ps : List Nat) (H : DM Z n0 h0 a k N t ps) (hk : k < 110) (hr : r < k) (z : Int32) (hz : (N r).2.1 = z) :
    Con l Z (⟨"com/example/branchwise/branchwise/dd/DiagramManager", "highOf", "(I)I"⟩ : MethodName) prog_11_method_32_code 2 (some .int) [] R24 R24.cells R24.slots #[(.ref a), (.int (Int32.ofNat r))] h0 (fun v h L => v = some (.int z) ∧ h0 = h ∧ L = []) := by
  refine Con.intro (n0 := n0) (plainFor_of_name pn_1) (fun m => ef_24 m a r) hO ?_
  intro p e s m below meth cc T hs0 X0
  obtain ⟨av, ah, al, ad, au, E_a, F_variables, F_highs, F_lows, F_values, F_uniqueTable, F_size, F_freeCount, F_nodeLimit, A_av, A_ah, A_al, A_ad, A_au, g_a, g_av, g_ah, g_al, g_ad, g_au, n_a_av, n_a_ah, n_a_al, n_a_ad, n_a_au, n_av_ah, n_av_al, n_av_ad, n_av_au, n_ah_al, n_ah_ad, n_ah_au, n_al_ad, n_al_au, n_ad_au, hnn, hti, htp⟩ := id H
  refine g_aloadN X0 d24_0 (pc' := 1) rfl rfl rfl ?_
  refine g_getF X0 (host := "") (Or.inl (hw _ m20)) Via.refl F_highs d24_1 (pc' := 4) rfl (fun T291 X291 => ?_)
  refine g_iloadN X291 d24_4 (pc' := 5) rfl rfl ?_
  refine g_iaload X291 (i := r) (v := (.int (N r).2.1)) A_ah (own_small (by omega)) (own_li_at _ (by omega)) d24_5 (pc' := 6) rfl ?_
  exact g_retI X291 rfl d24_6 (by decide) (by decide) ⟨(by rw [hz]), rfl, rfl⟩

theorem d25_0 : decode prog_11_method_33_code 0 = .ok (.aload_n 0, 1) := by decide +kernel
theorem d25_1 : decode prog_11_method_33_code 1 = .ok (.getfield 22, 3) := by decide +kernel
theorem d25_4 : decode prog_11_method_33_code 4 = .ok (.iload_n 1, 1) := by decide +kernel
theorem d25_5 : decode prog_11_method_33_code 5 = .ok (.iaload, 1) := by decide +kernel
theorem d25_6 : decode prog_11_method_33_code 6 = .ok (.ireturn, 1) := by decide +kernel
theorem ef_25 (m : MethodId) (a : Addr) (r : Nat) : entryFrame m #[(.ref a), (.int (Int32.ofNat r))] 2 = mkF m 0 #[.val (.ref a), .val (.int (Int32.ofNat r))] [] := by first | (simp [entryFrame, mkF, argsToLocals, Value.category]; done) | rfl
def R25 : Room := ({ frames := 0, cells := 0, slots := 0, locals := 0 } : Room)
set_option maxRecDepth 65536 in
set_option maxHeartbeats 40000000 in
theorem rm25 (l : Launch) (Z : State) (a0 : Array Value) (hw : ∀ d ∈ tables_1, d.before a0 Z = true) (a : Addr) (r : Nat) (h0 : Heap) (n0 : Nat) (hO : Old Z n0 h0) (k : Nat) (N : Nat → Int32 × Int32 × Int32 × UInt64) (t : Nat → Int32) (ps : List Nat) (H : DM Z n0 h0 a k N t ps) (hk : k < 110) (hr : r < k) (z : Int32) (hz : (N r).2.2.1 = z) :
    Con l Z (⟨"com/example/branchwise/branchwise/dd/DiagramManager", "lowOf", "(I)I"⟩ : MethodName) prog_11_method_33_code 2 (some .int) [] R25 R25.cells R25.slots #[(.ref a), (.int (Int32.ofNat r))] h0 (fun v h L => v = some (.int z) ∧ h0 = h ∧ L = []) := by
  refine Con.intro (n0 := n0) (plainFor_of_name pn_1) (fun m => ef_25 m a r) hO ?_
  intro p e s m below meth cc T hs0 X0
  obtain ⟨av, ah, al, ad, au, E_a, F_variables, F_highs, F_lows, F_values, F_uniqueTable, F_size, F_freeCount, F_nodeLimit, A_av, A_ah, A_al, A_ad, A_au, g_a, g_av, g_ah, g_al, g_ad, g_au, n_a_av, n_a_ah, n_a_al, n_a_ad, n_a_au, n_av_ah, n_av_al, n_av_ad, n_av_au, n_ah_al, n_ah_ad, n_ah_au, n_al_ad, n_al_au, n_ad_au, hnn, hti, htp⟩ := id H
  refine g_aloadN X0 d25_0 (pc' := 1) rfl rfl rfl ?_
  refine g_getF X0 (host := "") (Or.inl (hw _ m22)) Via.refl F_lows d25_1 (pc' := 4) rfl (fun T292 X292 => ?_)
  refine g_iloadN X292 d25_4 (pc' := 5) rfl rfl ?_
  refine g_iaload X292 (i := r) (v := (.int (N r).2.2.1)) A_al (own_small (by omega)) (own_li_at _ (by omega)) d25_5 (pc' := 6) rfl ?_
  exact g_retI X292 rfl d25_6 (by decide) (by decide) ⟨(by rw [hz]), rfl, rfl⟩

theorem ef_0 (m : MethodId) (a1 : Int32) (b1 : Int32) (c1 : Int32) (x1 : Int32) (f1 : Int32) : entryFrame m #[(.int a1), (.int b1), (.int c1), (.int x1), (.int f1)] maxLocals = mkF m 0 #[.val (.int a1), .val (.int b1), .val (.int c1), .val (.int x1), .val (.int f1), .unset, .unset, .unset, .unset, .unset, .unset, .unset, .unset, .unset, .unset, .unset, .unset, .unset, .unset, .unset, .unset] [] := by first | (simp [entryFrame, mkF, argsToLocals, Value.category, maxLocals]; done) | rfl
set_option maxRecDepth 65536 in
set_option maxHeartbeats 40000000 in
theorem rm0 (l : Launch) (Z : State) (a0 : Array Value) (hw : ∀ d ∈ tables_1, d.before a0 Z = true) (ws : List Jvm.Cond) (a1 : Int32) (b1 : Int32) (c1 : Int32) (x1 : Int32) (f1 : Int32) (h0 : Heap) (n0 : Nat) (hO : Old Z n0 h0)  :
    Con l Z x code maxLocals ret ws room_1 32 28800 #[(.int a1), (.int b1), (.int c1), (.int x1), (.int f1)] h0 (fun v h L => v = some (.int 1) ∧ Fr n0 L) := by
  refine Con.intro (n0 := n0) (plainFor_of_name pn_4) (fun m => ef_0 m a1 b1 c1 x1 f1) hO ?_
  intro p e s m below meth cc T hs0 X0
  refine g_iloadN X0 at_0 (pc' := 1) rfl rfl ?_
  refine g_ldc X0 (hw _ m0) at_1 (pc' := 3) rfl ?_
  refine g_iand X0 at_3 (pc' := 4) rfl ?_
  refine g_ldc X0 (hw _ m0) at_4 (pc' := 6) rfl ?_
  refine g_irem X0 at_6 (pc' := 7) rfl (by decide) ?_
  obtain ⟨y, ey, hx0, hx1⟩ := own_var x1
  rw [ey]
  refine g_istore X0 at_7 (pc' := 9) rfl (L' := #[.val (.int a1), .val (.int b1), .val (.int c1), .val (.int x1), .val (.int f1), .val (.int y), .unset, .unset, .unset, .unset, .unset, .unset, .unset, .unset, .unset, .unset, .unset, .unset, .unset, .unset, .unset]) rfl ?_
  refine g_iloadN X0 at_9 (pc' := 10) rfl rfl ?_
  refine g_i2d X0 at_10 (pc' := 11) rfl ?_
  refine g_dstore X0 at_11 (pc' := 13) rfl (L' := #[.val (.int a1), .val (.int b1), .val (.int c1), .val (.int x1), .val (.int f1), .val (.int y), .val (.double (FP.i2d a1)), .second, .unset, .unset, .unset, .unset, .unset, .unset, .unset, .unset, .unset, .unset, .unset, .unset, .unset]) rfl ?_
  refine g_iloadN X0 at_13 (pc' := 14) rfl rfl ?_
  refine g_iloadN X0 at_14 (pc' := 15) rfl rfl ?_
  refine g_callS X0 (y := (⟨"java/lang/Math", "min", "(II)I"⟩ : MethodName)) [(.int b1), (.int c1)] (hw _ m1) (hw _ m2) (hw _ m3) (hw _ m4) (hw _ m3) (rm1 l Z a0 hw b1 c1 h0 n0 X0.old) (by decide) (by decide) (by decide) (by decide) (by decide) rfl pd_1 rfl (rest := []) rfl (W := 0) rfl at_15 (pc' := 18) rfl ?_
  rintro _ T293 _ _ Y293 ⟨z293, rfl, r293, rfl, rfl⟩
  have X293 := Y293 X0.old (Fr.nil _)
  show Go p e below _ (State.setTop _ (mkF m 18 #[.val (.int a1), .val (.int b1), .val (.int c1), .val (.int x1), .val (.int f1), .val (.int y), .val (.double (FP.i2d a1)), .second, .unset, .unset, .unset, .unset, .unset, .unset, .unset, .unset, .unset, .unset, .unset, .unset, .unset] [(.int z293)]))
  refine g_i2d X293 at_18 (pc' := 19) rfl ?_
  refine g_dstore X293 at_19 (pc' := 21) rfl (L' := #[.val (.int a1), .val (.int b1), .val (.int c1), .val (.int x1), .val (.int f1), .val (.int y), .val (.double (FP.i2d a1)), .second, .val (.double (FP.i2d z293)), .second, .unset, .unset, .unset, .unset, .unset, .unset, .unset, .unset, .unset, .unset, .unset]) rfl ?_
  refine g_iloadN X293 at_21 (pc' := 22) rfl rfl ?_
  refine g_iloadN X293 at_22 (pc' := 23) rfl rfl ?_
  refine g_callS X293 (y := (⟨"java/lang/Math", "max", "(II)I"⟩ : MethodName)) [(.int b1), (.int c1)] (hw _ m5) (hw _ m6) (hw _ m3) (hw _ m7) (hw _ m3) (rm2 l Z a0 hw b1 c1 h0 n0 X293.old) (by decide) (by decide) (by decide) (by decide) (by decide) rfl pd_1 rfl (rest := []) rfl (W := 0) rfl at_23 (pc' := 26) rfl ?_
  rintro _ T294 _ _ Y294 ⟨z294, rfl, r294, rfl, rfl⟩
  have X294 := Y294 X293.old (Fr.nil _)
  show Go p e below _ (State.setTop _ (mkF m 26 #[.val (.int a1), .val (.int b1), .val (.int c1), .val (.int x1), .val (.int f1), .val (.int y), .val (.double (FP.i2d a1)), .second, .val (.double (FP.i2d z293)), .second, .unset, .unset, .unset, .unset, .unset, .unset, .unset, .unset, .unset, .unset, .unset] [(.int z294)]))
  refine g_i2d X294 at_26 (pc' := 27) rfl ?_
  refine g_dstore X294 at_27 (pc' := 29) rfl (L' := #[.val (.int a1), .val (.int b1), .val (.int c1), .val (.int x1), .val (.int f1), .val (.int y), .val (.double (FP.i2d a1)), .second, .val (.double (FP.i2d z293)), .second, .val (.double (FP.i2d z294)), .second, .unset, .unset, .unset, .unset, .unset, .unset, .unset, .unset, .unset]) rfl ?_
  refine g_new X294 (hw _ m8) (hw _ m9) (hw _ m10) at_29 (pc' := 32) rfl (by decide) (by decide) (fun T295 h295 b295 X295 g295 E295 A295 D295 l295 => ?_)
  have F295_variables : Fld Z h295 b295 "com/example/branchwise/branchwise/dd/DiagramManager" "variables" "[I" .null := D295 (Or.inl (hw _ m19)) (ty := (.array .int)) (by decide)
  have F295_highs : Fld Z h295 b295 "com/example/branchwise/branchwise/dd/DiagramManager" "highs" "[I" .null := D295 (Or.inl (hw _ m21)) (ty := (.array .int)) (by decide)
  have F295_lows : Fld Z h295 b295 "com/example/branchwise/branchwise/dd/DiagramManager" "lows" "[I" .null := D295 (Or.inl (hw _ m23)) (ty := (.array .int)) (by decide)
  have F295_values : Fld Z h295 b295 "com/example/branchwise/branchwise/dd/DiagramManager" "values" "[D" .null := D295 (Or.inl (hw _ m26)) (ty := (.array .double)) (by decide)
  have F295_freeIds : Fld Z h295 b295 "com/example/branchwise/branchwise/dd/DiagramManager" "freeIds" "[I" .null := D295 (Or.inl (hw _ m28)) (ty := (.array .int)) (by decide)
  have F295_uniqueTable : Fld Z h295 b295 "com/example/branchwise/branchwise/dd/DiagramManager" "uniqueTable" "[I" .null := D295 (Or.inl (hw _ m37)) (ty := (.array .int)) (by decide)
  have F295_computed : Fld Z h295 b295 "com/example/branchwise/branchwise/dd/DiagramManager" "computed" "Lcom/example/branchwise/branchwise/dd/DiagramManager$ComputedTable;" .null := D295 (Or.inr (hw _ m62)) (ty := (.object "com/example/branchwise/branchwise/dd/DiagramManager$ComputedTable")) (by decide)
  have F295_nodeLimit : Fld Z h295 b295 "com/example/branchwise/branchwise/dd/DiagramManager" "nodeLimit" "I" (.int (0 : Int32)) := D295 (Or.inr (hw _ m64)) (ty := .int) (by decide)
  have F295_size : Fld Z h295 b295 "com/example/branchwise/branchwise/dd/DiagramManager" "size" "I" (.int (0 : Int32)) := D295 (Or.inl (hw _ m107)) (ty := .int) (by decide)
  have F295_freeCount : Fld Z h295 b295 "com/example/branchwise/branchwise/dd/DiagramManager" "freeCount" "I" (.int (0 : Int32)) := D295 (Or.inl (hw _ m109)) (ty := .int) (by decide)
  refine g_dup X295 at_32 (pc' := 33) rfl rfl ?_
  refine g_ldc X295 (hw _ m0) at_33 (pc' := 35) rfl ?_
  refine g_callI X295 (y := (⟨"com/example/branchwise/branchwise/dd/DiagramManager", "<init>", "(I)V"⟩ : MethodName)) (a := b295) [(.int (2147483647 : Int32))] rfl (hw _ m11) (hw _ m12) rfl (hw _ m13) (hw _ m10) (rm3 l Z a0 hw b295 h295 n0 X295.old A295 l295 F295_variables F295_highs F295_lows F295_values F295_freeIds F295_uniqueTable F295_computed F295_nodeLimit F295_size F295_freeCount) (by decide) (by decide) (by decide) (by decide) (by decide) rfl pd_3 rfl (rest := [(.ref b295)]) rfl (W := 1) rfl at_35 (pc' := 38) rfl ?_
  rintro _ T296 h296 L296 Y296 ⟨rfl, N296, z296, H296⟩
  have X296 := Y296 z296 N296
  have q297 := own_dmE H296
  show Go p e below _ (State.setTop _ (mkF m 38 #[.val (.int a1), .val (.int b1), .val (.int c1), .val (.int x1), .val (.int f1), .val (.int y), .val (.double (FP.i2d a1)), .second, .val (.double (FP.i2d z293)), .second, .val (.double (FP.i2d z294)), .second, .unset, .unset, .unset, .unset, .unset, .unset, .unset, .unset, .unset] [(.ref b295)]))
  refine g_astore X296 at_38 (pc' := 40) rfl rfl (L' := #[.val (.int a1), .val (.int b1), .val (.int c1), .val (.int x1), .val (.int f1), .val (.int y), .val (.double (FP.i2d a1)), .second, .val (.double (FP.i2d z293)), .second, .val (.double (FP.i2d z294)), .second, .val (.ref b295), .unset, .unset, .unset, .unset, .unset, .unset, .unset, .unset]) rfl ?_
  have J108 : ∀ (T : State) (locs : List Loc) (h : Heap) (k : Nat) (N : Nat → Int32 × Int32 × Int32 × UInt64) (t : Nat → Int32) (ps : List Nat) (rk rr ri i j : Nat), St Z n0 p l e room_1 s m #[(.int a1), (.int b1), (.int c1), (.int x1), (.int f1)] below meth cc x.cls x.name code maxLocals ret T locs 12 14350 h → DM Z n0 h b295 k N t ps → ps.length ≤ k → k < 100 → rk < k → (N rk).1 = (2147483647 : Int32) → rr < k → (N rr).1 = (2147483647 : Int32) → ri < k → (N ri).1 = y → i < k → j < k → (N ri).2.1 = Int32.ofNat i → (N ri).2.2.1 = Int32.ofNat j → (N i).1 = (2147483647 : Int32) → (N j).1 = (2147483647 : Int32) → Go p e below (Kq s 32 28800 (fun v h L => v = some (.int 1) ∧ Fr n0 L)) (T.setTop (mkF m 108 #[.val (.int a1), .val (.int b1), .val (.int c1), .val (.int x1), .val (.int f1), .val (.int y), .val (.double (FP.i2d a1)), .second, .val (.double (FP.i2d z293)), .second, .val (.double (FP.i2d z294)), .second, .val (.ref b295), .val (.int (Int32.ofNat rk)), .val (.int (Int32.ofNat rr)), .val (.int (Int32.ofNat ri)), .unset, .unset, .unset, .unset, .unset] [])) := by
    intro T locs h k N t ps rk rr ri i j X H hps hk hrk y1 hrr y2 hri y3 hi hj y4 y5 y6 y7
    have q298 := own_dmE H
    refine g_aload X at_108 (pc' := 110) rfl rfl rfl ?_
    refine g_iload X at_110 (pc' := 112) rfl rfl ?_
    refine g_callV X (y := (⟨"com/example/branchwise/branchwise/dd/DiagramManager", "isLeaf", "(I)Z"⟩ : MethodName)) (z := (⟨"com/example/branchwise/branchwise/dd/DiagramManager", "isLeaf", "(I)Z"⟩ : MethodName)) (a := b295) [(.int (Int32.ofNat rk))] (hw _ m132) (hw _ m133) (notFace_of_selects (args := #[]) (mvT X.hZ (hw _ m135))) (hw _ m135) (hw _ m134) q298 (hw _ m136) (hw _ m10) (rm23 l Z a0 hw b295 rk h n0 X.old k N t ps H (by omega) hrk (1 : Int32) (Or.inl ⟨y1, rfl⟩)) (by decide) (by decide) (by decide) (by decide) (by decide) rfl pd_11 rfl (rest := []) rfl (W := 0) rfl at_112 (pc' := 115) rfl ?_
    rintro _ T299 _ _ Y299 ⟨rfl, rfl, rfl⟩
    have X299 := Y299 X.old (Fr.nil _)
    show Go p e below _ (State.setTop _ (mkF m 115 #[.val (.int a1), .val (.int b1), .val (.int c1), .val (.int x1), .val (.int f1), .val (.int y), .val (.double (FP.i2d a1)), .second, .val (.double (FP.i2d z293)), .second, .val (.double (FP.i2d z294)), .second, .val (.ref b295), .val (.int (Int32.ofNat rk)), .val (.int (Int32.ofNat rr)), .val (.int (Int32.ofNat ri)), .unset, .unset, .unset, .unset, .unset] [(.int (1 : Int32))]))
    refine g_istore X299 at_115 (pc' := 117) rfl (L' := #[.val (.int a1), .val (.int b1), .val (.int c1), .val (.int x1), .val (.int f1), .val (.int y), .val (.double (FP.i2d a1)), .second, .val (.double (FP.i2d z293)), .second, .val (.double (FP.i2d z294)), .second, .val (.ref b295), .val (.int (Int32.ofNat rk)), .val (.int (Int32.ofNat rr)), .val (.int (Int32.ofNat ri)), .val (.int (1 : Int32)), .unset, .unset, .unset, .unset]) rfl ?_
    refine g_aload X299 at_117 (pc' := 119) rfl rfl rfl ?_
    refine g_iload X299 at_119 (pc' := 121) rfl rfl ?_
    refine g_callV X299 (y := (⟨"com/example/branchwise/branchwise/dd/DiagramManager", "isLeaf", "(I)Z"⟩ : MethodName)) (z := (⟨"com/example/branchwise/branchwise/dd/DiagramManager", "isLeaf", "(I)Z"⟩ : MethodName)) (a := b295) [(.int (Int32.ofNat rr))] (hw _ m132) (hw _ m133) (notFace_of_selects (args := #[]) (mvT X299.hZ (hw _ m135))) (hw _ m135) (hw _ m134) q298 (hw _ m136) (hw _ m10) (rm23 l Z a0 hw b295 rr h n0 X299.old k N t ps H (by omega) hrr (1 : Int32) (Or.inl ⟨y2, rfl⟩)) (by decide) (by decide) (by decide) (by decide) (by decide) rfl pd_11 rfl (rest := []) rfl (W := 0) rfl at_121 (pc' := 124) rfl ?_
    rintro _ T300 _ _ Y300 ⟨rfl, rfl, rfl⟩
    have X300 := Y300 X299.old (Fr.nil _)
    show Go p e below _ (State.setTop _ (mkF m 124 #[.val (.int a1), .val (.int b1), .val (.int c1), .val (.int x1), .val (.int f1), .val (.int y), .val (.double (FP.i2d a1)), .second, .val (.double (FP.i2d z293)), .second, .val (.double (FP.i2d z294)), .second, .val (.ref b295), .val (.int (Int32.ofNat rk)), .val (.int (Int32.ofNat rr)), .val (.int (Int32.ofNat ri)), .val (.int (1 : Int32)), .unset, .unset, .unset, .unset] [(.int (1 : Int32))]))
    refine g_istore X300 at_124 (pc' := 126) rfl (L' := #[.val (.int a1), .val (.int b1), .val (.int c1), .val (.int x1), .val (.int f1), .val (.int y), .val (.double (FP.i2d a1)), .second, .val (.double (FP.i2d z293)), .second, .val (.double (FP.i2d z294)), .second, .val (.ref b295), .val (.int (Int32.ofNat rk)), .val (.int (Int32.ofNat rr)), .val (.int (Int32.ofNat ri)), .val (.int (1 : Int32)), .val (.int (1 : Int32)), .unset, .unset, .unset]) rfl ?_
    refine g_aload X300 at_126 (pc' := 128) rfl rfl rfl ?_
    refine g_iload X300 at_128 (pc' := 130) rfl rfl ?_
    refine g_callV X300 (y := (⟨"com/example/branchwise/branchwise/dd/DiagramManager", "isLeaf", "(I)Z"⟩ : MethodName)) (z := (⟨"com/example/branchwise/branchwise/dd/DiagramManager", "isLeaf", "(I)Z"⟩ : MethodName)) (a := b295) [(.int (Int32.ofNat ri))] (hw _ m132) (hw _ m133) (notFace_of_selects (args := #[]) (mvT X300.hZ (hw _ m135))) (hw _ m135) (hw _ m134) q298 (hw _ m136) (hw _ m10) (rm23 l Z a0 hw b295 ri h n0 X300.old k N t ps H (by omega) hri (0 : Int32) (Or.inr ⟨(fun q => Int32.lt_irrefl (y3.symm.trans q ▸ hx1)), rfl⟩)) (by decide) (by decide) (by decide) (by decide) (by decide) rfl pd_11 rfl (rest := []) rfl (W := 0) rfl at_130 (pc' := 133) rfl ?_
    rintro _ T301 _ _ Y301 ⟨rfl, rfl, rfl⟩
    have X301 := Y301 X300.old (Fr.nil _)
    show Go p e below _ (State.setTop _ (mkF m 133 #[.val (.int a1), .val (.int b1), .val (.int c1), .val (.int x1), .val (.int f1), .val (.int y), .val (.double (FP.i2d a1)), .second, .val (.double (FP.i2d z293)), .second, .val (.double (FP.i2d z294)), .second, .val (.ref b295), .val (.int (Int32.ofNat rk)), .val (.int (Int32.ofNat rr)), .val (.int (Int32.ofNat ri)), .val (.int (1 : Int32)), .val (.int (1 : Int32)), .unset, .unset, .unset] [(.int (0 : Int32))]))
    refine g_istore X301 at_133 (pc' := 135) rfl (L' := #[.val (.int a1), .val (.int b1), .val (.int c1), .val (.int x1), .val (.int f1), .val (.int y), .val (.double (FP.i2d a1)), .second, .val (.double (FP.i2d z293)), .second, .val (.double (FP.i2d z294)), .second, .val (.ref b295), .val (.int (Int32.ofNat rk)), .val (.int (Int32.ofNat rr)), .val (.int (Int32.ofNat ri)), .val (.int (1 : Int32)), .val (.int (1 : Int32)), .val (.int (0 : Int32)), .unset, .unset]) rfl ?_
    refine g_aload X301 at_135 (pc' := 137) rfl rfl rfl ?_
    refine g_aload X301 at_137 (pc' := 139) rfl rfl rfl ?_
    refine g_iload X301 at_139 (pc' := 141) rfl rfl ?_
    refine g_callV X301 (y := (⟨"com/example/branchwise/branchwise/dd/DiagramManager", "highOf", "(I)I"⟩ : MethodName)) (z := (⟨"com/example/branchwise/branchwise/dd/DiagramManager", "highOf", "(I)I"⟩ : MethodName)) (a := b295) [(.int (Int32.ofNat ri))] (hw _ m137) (hw _ m138) (notFace_of_selects (args := #[]) (mvT X301.hZ (hw _ m140))) (hw _ m140) (hw _ m139) q298 (hw _ m141) (hw _ m10) (rm24 l Z a0 hw b295 ri h n0 X301.old k N t ps H (by omega) hri (Int32.ofNat i) y4) (by decide) (by decide) (by decide) (by decide) (by decide) rfl pd_12 rfl (rest := [(.ref b295)]) rfl (W := 1) rfl at_141 (pc' := 144) rfl ?_
    rintro _ T302 _ _ Y302 ⟨rfl, rfl, rfl⟩
    have X302 := Y302 X301.old (Fr.nil _)
    show Go p e below _ (State.setTop _ (mkF m 144 #[.val (.int a1), .val (.int b1), .val (.int c1), .val (.int x1), .val (.int f1), .val (.int y), .val (.double (FP.i2d a1)), .second, .val (.double (FP.i2d z293)), .second, .val (.double (FP.i2d z294)), .second, .val (.ref b295), .val (.int (Int32.ofNat rk)), .val (.int (Int32.ofNat rr)), .val (.int (Int32.ofNat ri)), .val (.int (1 : Int32)), .val (.int (1 : Int32)), .val (.int (0 : Int32)), .unset, .unset] [(.int (Int32.ofNat i)), (.ref b295)]))
    refine g_callV X302 (y := (⟨"com/example/branchwise/branchwise/dd/DiagramManager", "isLeaf", "(I)Z"⟩ : MethodName)) (z := (⟨"com/example/branchwise/branchwise/dd/DiagramManager", "isLeaf", "(I)Z"⟩ : MethodName)) (a := b295) [(.int (Int32.ofNat i))] (hw _ m132) (hw _ m133) (notFace_of_selects (args := #[]) (mvT X302.hZ (hw _ m135))) (hw _ m135) (hw _ m134) q298 (hw _ m136) (hw _ m10) (rm23 l Z a0 hw b295 i h n0 X302.old k N t ps H (by omega) hi (1 : Int32) (Or.inl ⟨y6, rfl⟩)) (by decide) (by decide) (by decide) (by decide) (by decide) rfl pd_11 rfl (rest := []) rfl (W := 0) rfl at_144 (pc' := 147) rfl ?_
    rintro _ T303 _ _ Y303 ⟨rfl, rfl, rfl⟩
    have X303 := Y303 X302.old (Fr.nil _)
    show Go p e below _ (State.setTop _ (mkF m 147 #[.val (.int a1), .val (.int b1), .val (.int c1), .val (.int x1), .val (.int f1), .val (.int y), .val (.double (FP.i2d a1)), .second, .val (.double (FP.i2d z293)), .second, .val (.double (FP.i2d z294)), .second, .val (.ref b295), .val (.int (Int32.ofNat rk)), .val (.int (Int32.ofNat rr)), .val (.int (Int32.ofNat ri)), .val (.int (1 : Int32)), .val (.int (1 : Int32)), .val (.int (0 : Int32)), .unset, .unset] [(.int (1 : Int32))]))
    refine g_istore X303 at_147 (pc' := 149) rfl (L' := #[.val (.int a1), .val (.int b1), .val (.int c1), .val (.int x1), .val (.int f1), .val (.int y), .val (.double (FP.i2d a1)), .second, .val (.double (FP.i2d z293)), .second, .val (.double (FP.i2d z294)), .second, .val (.ref b295), .val (.int (Int32.ofNat rk)), .val (.int (Int32.ofNat rr)), .val (.int (Int32.ofNat ri)), .val (.int (1 : Int32)), .val (.int (1 : Int32)), .val (.int (0 : Int32)), .val (.int (1 : Int32)), .unset]) rfl ?_
    refine g_aload X303 at_149 (pc' := 151) rfl rfl rfl ?_
    refine g_aload X303 at_151 (pc' := 153) rfl rfl rfl ?_
    refine g_iload X303 at_153 (pc' := 155) rfl rfl ?_
    refine g_callV X303 (y := (⟨"com/example/branchwise/branchwise/dd/DiagramManager", "lowOf", "(I)I"⟩ : MethodName)) (z := (⟨"com/example/branchwise/branchwise/dd/DiagramManager", "lowOf", "(I)I"⟩ : MethodName)) (a := b295) [(.int (Int32.ofNat ri))] (hw _ m142) (hw _ m143) (notFace_of_selects (args := #[]) (mvT X303.hZ (hw _ m145))) (hw _ m145) (hw _ m144) q298 (hw _ m146) (hw _ m10) (rm25 l Z a0 hw b295 ri h n0 X303.old k N t ps H (by omega) hri (Int32.ofNat j) y5) (by decide) (by decide) (by decide) (by decide) (by decide) rfl pd_12 rfl (rest := [(.ref b295)]) rfl (W := 1) rfl at_155 (pc' := 158) rfl ?_
    rintro _ T304 _ _ Y304 ⟨rfl, rfl, rfl⟩
    have X304 := Y304 X303.old (Fr.nil _)
    show Go p e below _ (State.setTop _ (mkF m 158 #[.val (.int a1), .val (.int b1), .val (.int c1), .val (.int x1), .val (.int f1), .val (.int y), .val (.double (FP.i2d a1)), .second, .val (.double (FP.i2d z293)), .second, .val (.double (FP.i2d z294)), .second, .val (.ref b295), .val (.int (Int32.ofNat rk)), .val (.int (Int32.ofNat rr)), .val (.int (Int32.ofNat ri)), .val (.int (1 : Int32)), .val (.int (1 : Int32)), .val (.int (0 : Int32)), .val (.int (1 : Int32)), .unset] [(.int (Int32.ofNat j)), (.ref b295)]))
    refine g_callV X304 (y := (⟨"com/example/branchwise/branchwise/dd/DiagramManager", "isLeaf", "(I)Z"⟩ : MethodName)) (z := (⟨"com/example/branchwise/branchwise/dd/DiagramManager", "isLeaf", "(I)Z"⟩ : MethodName)) (a := b295) [(.int (Int32.ofNat j))] (hw _ m132) (hw _ m133) (notFace_of_selects (args := #[]) (mvT X304.hZ (hw _ m135))) (hw _ m135) (hw _ m134) q298 (hw _ m136) (hw _ m10) (rm23 l Z a0 hw b295 j h n0 X304.old k N t ps H (by omega) hj (1 : Int32) (Or.inl ⟨y7, rfl⟩)) (by decide) (by decide) (by decide) (by decide) (by decide) rfl pd_11 rfl (rest := []) rfl (W := 0) rfl at_158 (pc' := 161) rfl ?_
    rintro _ T305 _ _ Y305 ⟨rfl, rfl, rfl⟩
    have X305 := Y305 X304.old (Fr.nil _)
    show Go p e below _ (State.setTop _ (mkF m 161 #[.val (.int a1), .val (.int b1), .val (.int c1), .val (.int x1), .val (.int f1), .val (.int y), .val (.double (FP.i2d a1)), .second, .val (.double (FP.i2d z293)), .second, .val (.double (FP.i2d z294)), .second, .val (.ref b295), .val (.int (Int32.ofNat rk)), .val (.int (Int32.ofNat rr)), .val (.int (Int32.ofNat ri)), .val (.int (1 : Int32)), .val (.int (1 : Int32)), .val (.int (0 : Int32)), .val (.int (1 : Int32)), .unset] [(.int (1 : Int32))]))
    refine g_istore X305 at_161 (pc' := 163) rfl (L' := #[.val (.int a1), .val (.int b1), .val (.int c1), .val (.int x1), .val (.int f1), .val (.int y), .val (.double (FP.i2d a1)), .second, .val (.double (FP.i2d z293)), .second, .val (.double (FP.i2d z294)), .second, .val (.ref b295), .val (.int (Int32.ofNat rk)), .val (.int (Int32.ofNat rr)), .val (.int (Int32.ofNat ri)), .val (.int (1 : Int32)), .val (.int (1 : Int32)), .val (.int (0 : Int32)), .val (.int (1 : Int32)), .val (.int (1 : Int32))]) rfl ?_
    refine g_iload X305 at_163 (pc' := 165) rfl rfl ?_
    refine g_if_eq_f X305 at_165 (pc' := 168) rfl (by decide) ?_
    refine g_iload X305 at_168 (pc' := 170) rfl rfl ?_
    refine g_if_eq_f X305 at_170 (pc' := 173) rfl (by decide) ?_
    refine g_iload X305 at_173 (pc' := 175) rfl rfl ?_
    refine g_if_ne_f X305 at_175 (pc' := 178) rfl (by decide) ?_
    refine g_iload X305 at_178 (pc' := 180) rfl rfl ?_
    refine g_if_eq_f X305 at_180 (pc' := 183) rfl (by decide) ?_
    refine g_iload X305 at_183 (pc' := 185) rfl rfl ?_
    refine g_if_eq_f X305 at_185 (pc' := 188) rfl (by decide) ?_
    refine g_iconst X305 at_188 (pc' := 189) rfl (v := (1 : Int32)) rfl ?_
    refine g_goto X305 at_189 (pt := 193) (by decide) ?_
    exact g_retN X305 (Or.inl rfl) rfl at_193 (by decide) (by decide) ⟨rfl, X305.fr⟩
  refine g_iload X296 at_40 (pc' := 42) rfl rfl ?_
  refine g_iconst X296 at_42 (pc' := 43) rfl (v := (1 : Int32)) rfl ?_
  refine g_iand X296 at_43 (pc' := 44) rfl ?_
  refine g_if_eq X296 at_44 (pt := 79) (by decide) (pc' := 47) rfl (fun hc44 => ?_) (fun hc44 => ?_)
  · refine g_aload X296 at_79 (pc' := 81) rfl rfl rfl ?_
    refine g_dload X296 at_81 (pc' := 83) rfl rfl ?_
    refine g_callV X296 (y := (⟨"com/example/branchwise/branchwise/dd/DiagramManager", "constant", "(D)I"⟩ : MethodName)) (z := (⟨"com/example/branchwise/branchwise/dd/DiagramManager", "constant", "(D)I"⟩ : MethodName)) (a := b295) [(.double (FP.i2d a1))] (hw _ m65) (hw _ m66) (notFace_of_selects (args := #[]) (mvT X296.hZ (hw _ m68))) (hw _ m68) (hw _ m67) q297 (hw _ m69) (hw _ m10) (rm9 l Z a0 hw b295 (FP.i2d a1) h296 n0 X296.old 0 (fun _ => ((0 : Int32), (0 : Int32), (0 : Int32), (0 : UInt64))) (fun _ => (-1 : Int32)) [] H296 (by omega) (Nat.le_refl 0) (own_fin a1)) (by decide) (by decide) (by decide) (by decide) (by decide) rfl pd_9 rfl (rest := []) rfl (W := 0) rfl at_83 (pc' := 86) rfl ?_
    rintro _ T306 h306 L306 Y306 ⟨r306, k306, M306, t306, p306, rfl, N306, z306, H306, hr306, ha306, hb306, hl306, hg306, hN306⟩
    have X306 := Y306 z306 N306
    have q307 := own_dmE H306
    show Go p e below _ (State.setTop _ (mkF m 86 #[.val (.int a1), .val (.int b1), .val (.int c1), .val (.int x1), .val (.int f1), .val (.int y), .val (.double (FP.i2d a1)), .second, .val (.double (FP.i2d z293)), .second, .val (.double (FP.i2d z294)), .second, .val (.ref b295), .unset, .unset, .unset, .unset, .unset, .unset, .unset, .unset] [(.int (Int32.ofNat r306))]))
    refine g_istore X306 at_86 (pc' := 88) rfl (L' := #[.val (.int a1), .val (.int b1), .val (.int c1), .val (.int x1), .val (.int f1), .val (.int y), .val (.double (FP.i2d a1)), .second, .val (.double (FP.i2d z293)), .second, .val (.double (FP.i2d z294)), .second, .val (.ref b295), .val (.int (Int32.ofNat r306)), .unset, .unset, .unset, .unset, .unset, .unset, .unset]) rfl ?_
    refine g_aload X306 at_88 (pc' := 90) rfl rfl rfl ?_
    refine g_dload X306 at_90 (pc' := 92) rfl rfl ?_
    refine g_dload X306 at_92 (pc' := 94) rfl rfl ?_
    refine g_callV X306 (y := (⟨"com/example/branchwise/branchwise/dd/DiagramManager", "range", "(DD)I"⟩ : MethodName)) (z := (⟨"com/example/branchwise/branchwise/dd/DiagramManager", "range", "(DD)I"⟩ : MethodName)) (a := b295) [(.double (FP.i2d z293)), (.double (FP.i2d z294))] (hw _ m114) (hw _ m115) (notFace_of_selects (args := #[]) (mvT X306.hZ (hw _ m117))) (hw _ m117) (hw _ m116) q307 (hw _ m118) (hw _ m10) (rm19 l Z a0 hw b295 (FP.i2d z293) (FP.i2d z294) h306 n0 X306.old k306 M306 t306 p306 H306 (by omega) hl306 (own_fin z293) (own_fin z294) (own_cmp (own_mm r293.1 r294.1))) (by decide) (by decide) (by decide) (by decide) (by decide) rfl pd_8 rfl (rest := []) rfl (W := 0) rfl at_94 (pc' := 97) rfl ?_
    rintro _ T308 h308 L308 Y308 ⟨r308, k308, M308, t308, p308, rfl, N308, z308, H308, hr308, ha308, hb308, hl308, hg308, hN308⟩
    have X308 := Y308 z308 N308
    have q309 := own_dmE H308
    show Go p e below _ (State.setTop _ (mkF m 97 #[.val (.int a1), .val (.int b1), .val (.int c1), .val (.int x1), .val (.int f1), .val (.int y), .val (.double (FP.i2d a1)), .second, .val (.double (FP.i2d z293)), .second, .val (.double (FP.i2d z294)), .second, .val (.ref b295), .val (.int (Int32.ofNat r306)), .unset, .unset, .unset, .unset, .unset, .unset, .unset] [(.int (Int32.ofNat r308))]))
    refine g_istore X308 at_97 (pc' := 99) rfl (L' := #[.val (.int a1), .val (.int b1), .val (.int c1), .val (.int x1), .val (.int f1), .val (.int y), .val (.double (FP.i2d a1)), .second, .val (.double (FP.i2d z293)), .second, .val (.double (FP.i2d z294)), .second, .val (.ref b295), .val (.int (Int32.ofNat r306)), .val (.int (Int32.ofNat r308)), .unset, .unset, .unset, .unset, .unset, .unset]) rfl ?_
    refine g_aload X308 at_99 (pc' := 101) rfl rfl rfl ?_
    refine g_iload X308 at_101 (pc' := 103) rfl rfl ?_
    refine g_callV X308 (y := (⟨"com/example/branchwise/branchwise/dd/DiagramManager", "indicator", "(I)I"⟩ : MethodName)) (z := (⟨"com/example/branchwise/branchwise/dd/DiagramManager", "indicator", "(I)I"⟩ : MethodName)) (a := b295) [(.int y)] (hw _ m119) (hw _ m120) (notFace_of_selects (args := #[]) (mvT X308.hZ (hw _ m122))) (hw _ m122) (hw _ m121) q309 (hw _ m123) (hw _ m10) (rm20 l Z a0 hw b295 y h308 n0 X308.old k308 M308 t308 p308 H308 (by omega) hl308 hx0 hx1) (by decide) (by decide) (by decide) (by decide) (by decide) rfl pd_12 rfl (rest := []) rfl (W := 0) rfl at_103 (pc' := 106) rfl ?_
    rintro _ T310 h310 L310 Y310 ⟨r310, k310, M310, t310, p310, rfl, N310, z310, H310, hr310, ha310, hb310, hl310, hg310, hN310⟩
    have X310 := Y310 z310 N310
    have q311 := own_dmE H310
    show Go p e below _ (State.setTop _ (mkF m 106 #[.val (.int a1), .val (.int b1), .val (.int c1), .val (.int x1), .val (.int f1), .val (.int y), .val (.double (FP.i2d a1)), .second, .val (.double (FP.i2d z293)), .second, .val (.double (FP.i2d z294)), .second, .val (.ref b295), .val (.int (Int32.ofNat r306)), .val (.int (Int32.ofNat r308)), .unset, .unset, .unset, .unset, .unset, .unset] [(.int (Int32.ofNat r310))]))
    refine g_istore X310 at_106 (pc' := 108) rfl (L' := #[.val (.int a1), .val (.int b1), .val (.int c1), .val (.int x1), .val (.int f1), .val (.int y), .val (.double (FP.i2d a1)), .second, .val (.double (FP.i2d z293)), .second, .val (.double (FP.i2d z294)), .second, .val (.ref b295), .val (.int (Int32.ofNat r306)), .val (.int (Int32.ofNat r308)), .val (.int (Int32.ofNat r310)), .unset, .unset, .unset, .unset, .unset]) rfl ?_
    obtain ⟨g1, ii, jj, g2, g3, g4, g5, g6, g7⟩ := hg310
    exact J108 _ _ _ k310 M310 t310 p310 r306 r308 r310 ii jj X310 H310 hl310 (by omega) (by omega) (by rw [hN310 _ (by omega), hN308 _ (by omega)]; exact hg306.1) (by omega) (by rw [hN310 _ (by omega)]; exact hg308.1) (by omega) g1 (by omega) (by omega) g4 g5 g6 g7
  · refine g_aload X296 at_47 (pc' := 49) rfl rfl rfl ?_
    refine g_iload X296 at_49 (pc' := 51) rfl rfl ?_
    refine g_callV X296 (y := (⟨"com/example/branchwise/branchwise/dd/DiagramManager", "indicator", "(I)I"⟩ : MethodName)) (z := (⟨"com/example/branchwise/branchwise/dd/DiagramManager", "indicator", "(I)I"⟩ : MethodName)) (a := b295) [(.int y)] (hw _ m119) (hw _ m120) (notFace_of_selects (args := #[]) (mvT X296.hZ (hw _ m122))) (hw _ m122) (hw _ m121) q297 (hw _ m123) (hw _ m10) (rm20 l Z a0 hw b295 y h296 n0 X296.old 0 (fun _ => ((0 : Int32), (0 : Int32), (0 : Int32), (0 : UInt64))) (fun _ => (-1 : Int32)) [] H296 (by omega) (Nat.le_refl 0) hx0 hx1) (by decide) (by decide) (by decide) (by decide) (by decide) rfl pd_12 rfl (rest := []) rfl (W := 0) rfl at_51 (pc' := 54) rfl ?_
    rintro _ T312 h312 L312 Y312 ⟨r312, k312, M312, t312, p312, rfl, N312, z312, H312, hr312, ha312, hb312, hl312, hg312, hN312⟩
    have X312 := Y312 z312 N312
    have q313 := own_dmE H312
    show Go p e below _ (State.setTop _ (mkF m 54 #[.val (.int a1), .val (.int b1), .val (.int c1), .val (.int x1), .val (.int f1), .val (.int y), .val (.double (FP.i2d a1)), .second, .val (.double (FP.i2d z293)), .second, .val (.double (FP.i2d z294)), .second, .val (.ref b295), .unset, .unset, .unset, .unset, .unset, .unset, .unset, .unset] [(.int (Int32.ofNat r312))]))
    refine g_istore X312 at_54 (pc' := 56) rfl (L' := #[.val (.int a1), .val (.int b1), .val (.int c1), .val (.int x1), .val (.int f1), .val (.int y), .val (.double (FP.i2d a1)), .second, .val (.double (FP.i2d z293)), .second, .val (.double (FP.i2d z294)), .second, .val (.ref b295), .unset, .unset, .val (.int (Int32.ofNat r312)), .unset, .unset, .unset, .unset, .unset]) rfl ?_
    refine g_aload X312 at_56 (pc' := 58) rfl rfl rfl ?_
    refine g_dload X312 at_58 (pc' := 60) rfl rfl ?_
    refine g_callV X312 (y := (⟨"com/example/branchwise/branchwise/dd/DiagramManager", "constant", "(D)I"⟩ : MethodName)) (z := (⟨"com/example/branchwise/branchwise/dd/DiagramManager", "constant", "(D)I"⟩ : MethodName)) (a := b295) [(.double (FP.i2d a1))] (hw _ m65) (hw _ m66) (notFace_of_selects (args := #[]) (mvT X312.hZ (hw _ m68))) (hw _ m68) (hw _ m67) q313 (hw _ m69) (hw _ m10) (rm9 l Z a0 hw b295 (FP.i2d a1) h312 n0 X312.old k312 M312 t312 p312 H312 (by omega) hl312 (own_fin a1)) (by decide) (by decide) (by decide) (by decide) (by decide) rfl pd_9 rfl (rest := []) rfl (W := 0) rfl at_60 (pc' := 63) rfl ?_
    rintro _ T314 h314 L314 Y314 ⟨r314, k314, M314, t314, p314, rfl, N314, z314, H314, hr314, ha314, hb314, hl314, hg314, hN314⟩
    have X314 := Y314 z314 N314
    have q315 := own_dmE H314
    show Go p e below _ (State.setTop _ (mkF m 63 #[.val (.int a1), .val (.int b1), .val (.int c1), .val (.int x1), .val (.int f1), .val (.int y), .val (.double (FP.i2d a1)), .second, .val (.double (FP.i2d z293)), .second, .val (.double (FP.i2d z294)), .second, .val (.ref b295), .unset, .unset, .val (.int (Int32.ofNat r312)), .unset, .unset, .unset, .unset, .unset] [(.int (Int32.ofNat r314))]))
    refine g_istore X314 at_63 (pc' := 65) rfl (L' := #[.val (.int a1), .val (.int b1), .val (.int c1), .val (.int x1), .val (.int f1), .val (.int y), .val (.double (FP.i2d a1)), .second, .val (.double (FP.i2d z293)), .second, .val (.double (FP.i2d z294)), .second, .val (.ref b295), .val (.int (Int32.ofNat r314)), .unset, .val (.int (Int32.ofNat r312)), .unset, .unset, .unset, .unset, .unset]) rfl ?_
    refine g_aload X314 at_65 (pc' := 67) rfl rfl rfl ?_
    refine g_dload X314 at_67 (pc' := 69) rfl rfl ?_
    refine g_dload X314 at_69 (pc' := 71) rfl rfl ?_
    refine g_callV X314 (y := (⟨"com/example/branchwise/branchwise/dd/DiagramManager", "range", "(DD)I"⟩ : MethodName)) (z := (⟨"com/example/branchwise/branchwise/dd/DiagramManager", "range", "(DD)I"⟩ : MethodName)) (a := b295) [(.double (FP.i2d z293)), (.double (FP.i2d z294))] (hw _ m114) (hw _ m115) (notFace_of_selects (args := #[]) (mvT X314.hZ (hw _ m117))) (hw _ m117) (hw _ m116) q315 (hw _ m118) (hw _ m10) (rm19 l Z a0 hw b295 (FP.i2d z293) (FP.i2d z294) h314 n0 X314.old k314 M314 t314 p314 H314 (by omega) hl314 (own_fin z293) (own_fin z294) (own_cmp (own_mm r293.1 r294.1))) (by decide) (by decide) (by decide) (by decide) (by decide) rfl pd_8 rfl (rest := []) rfl (W := 0) rfl at_71 (pc' := 74) rfl ?_
    rintro _ T316 h316 L316 Y316 ⟨r316, k316, M316, t316, p316, rfl, N316, z316, H316, hr316, ha316, hb316, hl316, hg316, hN316⟩
    have X316 := Y316 z316 N316
    have q317 := own_dmE H316
    show Go p e below _ (State.setTop _ (mkF m 74 #[.val (.int a1), .val (.int b1), .val (.int c1), .val (.int x1), .val (.int f1), .val (.int y), .val (.double (FP.i2d a1)), .second, .val (.double (FP.i2d z293)), .second, .val (.double (FP.i2d z294)), .second, .val (.ref b295), .val (.int (Int32.ofNat r314)), .unset, .val (.int (Int32.ofNat r312)), .unset, .unset, .unset, .unset, .unset] [(.int (Int32.ofNat r316))]))
    refine g_istore X316 at_74 (pc' := 76) rfl (L' := #[.val (.int a1), .val (.int b1), .val (.int c1), .val (.int x1), .val (.int f1), .val (.int y), .val (.double (FP.i2d a1)), .second, .val (.double (FP.i2d z293)), .second, .val (.double (FP.i2d z294)), .second, .val (.ref b295), .val (.int (Int32.ofNat r314)), .val (.int (Int32.ofNat r316)), .val (.int (Int32.ofNat r312)), .unset, .unset, .unset, .unset, .unset]) rfl ?_
    refine g_goto X316 at_76 (pt := 108) (by decide) ?_
    obtain ⟨g1, ii, jj, g2, g3, g4, g5, g6, g7⟩ := hg312
    exact J108 _ _ _ k316 M316 t316 p316 r314 r316 r312 ii jj X316 H316 hl316 (by omega) (by omega) (by rw [hN316 _ (by omega)]; exact hg314.1) (by omega) hg316.1 (by omega) (by rw [hN316 _ (by omega), hN314 _ (by omega)]; exact g1) (by omega) (by omega) (by rw [hN316 _ (by omega), hN314 _ (by omega)]; exact g4) (by rw [hN316 _ (by omega), hN314 _ (by omega)]; exact g5) (by rw [hN316 _ (by omega), hN314 _ (by omega)]; exact g6) (by rw [hN316 _ (by omega), hN314 _ (by omega)]; exact g7)

set_option maxRecDepth 65536 in
set_option maxHeartbeats 40000000 in
theorem comes_1 {Post : Tables → Env → Array Value → State → Outcome → State → Prop} (hpost : ∀ tb e args s v u, (limb_1_1.after args s (.returned v) u = true ∧ limb_1_2.after args s (.returned v) u = true ∧ True) → FrameEnd s (.returned v) u (Jvm.fieldLocs frame_1_writes args s ++ Jvm.arrayLocs frame_1_arrays args s ++ Jvm.staticLocs frame_1_statics s) 32 28800 → Post tb e args s (.returned v) u) :
    ArmFor flags0 classFile x code maxLocals ret World_1 tables_1 room_1 Calls_1 rest_1 Pre_1 Post := by
  intro l hfl _ _ p e ha hc hk s m args below hf hA hF happ hP
  obtain ⟨hcalls, hrest, hpre⟩ := hP
  obtain ⟨-, -, -, hnamed, -, -, -, hat⟩ := (Spec.applies_iff hf).mp happ
  obtain ⟨hg, hn⟩ := and_e (Cond.before_iff.mp (show (Jvm.Cond.and given_1 narrow_1).before args s = true from hpre))
  obtain ⟨hcount, hg⟩ := and_e hg
  obtain ⟨k0, hg⟩ := and_e hg
  obtain ⟨k1, hg⟩ := and_e hg
  obtain ⟨k2, hg⟩ := and_e hg
  obtain ⟨k3, hg⟩ := and_e hg
  have k4 := hg
  obtain ⟨w0, w1, w2, w3, w4, rfl⟩ : ∃ w0 w1 w2 w3 w4 : Value, args = #[w0, w1, w2, w3, w4] := by
    have hs : args.size = 5 := by simpa [Cond.value, given_1] using hcount
    obtain ⟨L⟩ := args
    match L, hs with
    | [w0, w1, w2, w3, w4], _ => exact ⟨w0, w1, w2, w3, w4, rfl⟩
  have hw := fun d (hd : d ∈ tables_1) => atoms_spec (ws := Jvm.Cond.code x code maxLocals ret :: tables_1) hat d (List.mem_cons_of_mem _ hd)
  obtain ⟨i0, e0⟩ := is_v k0
  obtain rfl : w0 = (.int i0) := Option.some.inj e0
  obtain ⟨i1, e1⟩ := is_v k1
  obtain rfl : w1 = (.int i1) := Option.some.inj e1
  obtain ⟨i2, e2⟩ := is_v k2
  obtain rfl : w2 = (.int i2) := Option.some.inj e2
  obtain ⟨i3, e3⟩ := is_v k3
  obtain rfl : w3 = (.int i3) := Option.some.inj e3
  obtain ⟨i4, e4⟩ := is_v k4
  obtain rfl : w4 = (.int i4) := Option.some.inj e4
  obtain ⟨n, o, h1, h2, h3, _, L, rfl, ⟨rfl, N⟩, hq⟩ := rm0 l s _ hw tables_1 i0 i1 i2 i3 i4 s.heap s.heap.size (Old.start s)  p e ha hc hk s m _ below hf ((Spec.applies_iff_loose hf).mp happ).1 ⟨rfl, State.Warmed39.refl s, rfl⟩ trivial
  refine ⟨n, _, h1, h2, h3, hpost _ _ _ _ _ _ ⟨Cond.after_iff.mpr rfl, Cond.after_iff.mpr (eq_i res_at (Term.int_eval (1)) rfl), trivial⟩ ⟨hq.1, hq.2.1, (hq.2.2.sift fun y hy => Or.inr (N y hy)).mono (by decide) (by decide)⟩⟩
theorem main_1_1 : Claimed_1_1 := comes_1 fun _ _ _ _ _ _ h hF => ⟨h.1, hF⟩
theorem main_1_2 : Claimed_1_2 := comes_1 fun _ _ _ _ _ _ h hF => ⟨h.2.1, hF⟩
end Jvm.Pilot.@@N@@
namespace Jvm.Pilot.@@N@@
open Jvm Jvm.ClassFile Sem Op Lib Jvm.Free Jvm.Stand Jvm.Pilot.@@N@@.Jvm.D
/-! MADE BY PROGRAM (witnessworld.py) out of the Statement's table words and the real class files: 19 classes; the members and pool entries that the words name. The judged class is class 1, her method 1. -/
namespace start1
open Jvm.ClassFile
def u (s : String) : CpInfo := .utf8 (stringToUtf16 s)
/-- a pool by its gaps: so many unusable entries, then the entry; so many at the end -/
def gap : Nat → List CpInfo → List CpInfo
  | 0, r => r
  | n + 1, r => .unusable :: gap n r
def poolList (es : List (Nat × CpInfo)) (last : Nat) : List CpInfo := es.foldr (fun e r => gap e.1 (e.2 :: r)) (gap last [])
def pool (es : List (Nat × CpInfo)) (last : Nat) : Array CpInfo := ⟨poolList es last⟩
def fileOf (pool : Array CpInfo) (this : Nat) (attrs : Array Attribute := #[]) (ms : Array MethodInfo := #[]) (fl : Nat := 33) (sup : Nat := 0) (ifs : Array Nat := #[]) (fds : Array FieldInfo := #[]) : ClassFile where
  minorVersion := 0
  majorVersion := 65
  constantPool := pool
  accessFlags := fl
  thisClass := this
  superClass := sup
  interfaces := ifs
  fields := fds
  methods := ms
  attributes := attrs
def plain (name : String) (sup : Option ClassId) : Class where
  name := name
  kind := .ordinary
  loader := none
  accessFlags := 33
  super := sup
  interfaces := #[]
  cf := none
  fields := #[]
  methods := #[]
  instanceTypes := #[]
  staticTypes := #[]
  resolved := #[]
  callSites := []
  init := .initialized
  statics := none
  mirror := none

def pool0 : Array CpInfo := pool [(5, u "<init>"), (0, u "()V"), (1, .class_ 10), (1, u "java/lang/Object")] 113

def k0c0 : Code := { maxStack := 0, maxLocals := 1, code := object_method_1_code, exceptionTable := #[], attributes := #[] }
def k0m0 : Method := { name := "<init>", desc := "()V", sig := { parameters := [], returnType := none }, accessFlags := 1, code := some k0c0 }
/-- java/lang/Object -/
def k0 : Class := { plain "java/lang/Object" none with
  accessFlags := 33
  interfaces := #[]
  cf := some (fileOf pool0 8 #[] #[{ accessFlags := 1, nameIndex := 5, descriptorIndex := 6, attributes := #[] }] 33 0 #[] #[])
  fields := #[]
  methods := #[k0m0]
  instanceTypes := #[]
  staticTypes := #[]
  resolved := Array.replicate 124 none
  statics := none }

def pool1 : Array CpInfo := pool [(2, .class_ 4), (1, u "java/lang/Object"), (0, u "<init>"), (0, u "()V"), (0, .integer 2147483647), (0, .methodref 9 10), (0, .class_ 11), (0, .nameAndType 12 13), (0, u "java/lang/Math"), (0, u "min"), (0, u "(II)I"), (0, .methodref 9 15), (0, .nameAndType 16 13), (0, u "max"), (0, .class_ 18), (0, u "com/example/branchwise/branchwise/dd/DiagramManager"), (0, .methodref 17 20), (0, .nameAndType 5 21), (0, u "(I)V"), (0, .methodref 17 23), (0, .nameAndType 24 25), (0, u "indicator"), (0, u "(I)I"), (0, .methodref 17 27), (0, .nameAndType 28 29), (0, u "constant"), (0, u "(D)I"), (0, .methodref 17 31), (0, .nameAndType 32 33), (0, u "range"), (0, u "(DD)I"), (0, .methodref 17 35), (0, .nameAndType 36 37), (0, u "isLeaf"), (0, u "(I)Z"), (0, .methodref 17 39), (0, .nameAndType 40 25), (0, u "highOf"), (0, .methodref 17 42), (0, .nameAndType 43 25), (0, u "lowOf"), (0, .class_ 45), (0, u "com/example/branchwise/branchwise/dd/DiagramManagerIsLeafPinLaw"), (2, u "law"), (0, u "(IIIII)Z")] 3

def k1m0 : Method := { name := "<init>", desc := "()V", sig := { parameters := [], returnType := none }, accessFlags := 2, code := none }
def k1c1 : Code := { maxStack := 5, maxLocals := 21, code := code, exceptionTable := #[], attributes := #[] }
def k1m1 : Method := { name := "law", desc := "(IIIII)Z", sig := { parameters := [.int, .int, .int, .int, .int], returnType := some .boolean }, accessFlags := 9, code := some k1c1 }
/-- com/example/branchwise/branchwise/dd/DiagramManagerIsLeafPinLaw -/
def k1 : Class := { plain "com/example/branchwise/branchwise/dd/DiagramManagerIsLeafPinLaw" (some 0) with
  accessFlags := 49
  interfaces := #[]
  cf := some (fileOf pool1 44 #[] #[{ accessFlags := 2, nameIndex := 5, descriptorIndex := 6, attributes := #[] }, { accessFlags := 9, nameIndex := 48, descriptorIndex := 49, attributes := #[] }] 49 2 #[] #[])
  fields := #[]
  methods := #[k1m0, k1m1]
  instanceTypes := #[]
  staticTypes := #[]
  resolved := Array.replicate 53 none
  statics := none }

def pool2 : Array CpInfo := pool [(1, .class_ 2), (0, u "java/lang/Math"), (1, .class_ 6), (1, u "java/lang/Object"), (0, u "<init>"), (0, u "()V"), (5, u "(D)D"), (83, .class_ 100), (1, u "java/lang/Math$RandomNumberGeneratorHolder"), (23, u "abs"), (47, u "negativeZeroFloatBits"), (0, u "J"), (2, u "negativeZeroDoubleBits"), (21, u "max"), (2, u "min"), (43, u "$assertionsDisabled"), (0, u "Z"), (88, u "(II)I"), (2, u "twoToTheDoubleScaleDown"), (0, u "D"), (4, u "twoToTheDoubleScaleUp"), (9, u "E"), (3, u "PI"), (2, u "TAU"), (2, u "DEGREES_TO_RADIANS"), (0, u "RADIANS_TO_DEGREES")] 94

def k2m0 : Method := { name := "<init>", desc := "()V", sig := { parameters := [], returnType := none }, accessFlags := 2, code := none }
def k2c1 : Code := { maxStack := 4, maxLocals := 2, code := jdk_29_method_64_code, exceptionTable := #[], attributes := #[] }
def k2m1 : Method := { name := "abs", desc := "(D)D", sig := { parameters := [.double], returnType := some .double }, accessFlags := 9, code := some k2c1 }
def k2c2 : Code := { maxStack := 2, maxLocals := 2, code := jdk_29_method_65_code, exceptionTable := #[], attributes := #[] }
def k2m2 : Method := { name := "max", desc := "(II)I", sig := { parameters := [.int, .int], returnType := some .int }, accessFlags := 9, code := some k2c2 }
def k2c3 : Code := { maxStack := 2, maxLocals := 2, code := jdk_29_method_69_code, exceptionTable := #[], attributes := #[] }
def k2m3 : Method := { name := "min", desc := "(II)I", sig := { parameters := [.int, .int], returnType := some .int }, accessFlags := 9, code := some k2c3 }
/-- java/lang/Math -/
def k2 : Class := { plain "java/lang/Math" (some 0) with
  accessFlags := 49
  interfaces := #[]
  cf := some (fileOf pool2 1 #[.nestMembers #[98]] #[{ accessFlags := 2, nameIndex := 7, descriptorIndex := 8, attributes := #[] }, { accessFlags := 9, nameIndex := 124, descriptorIndex := 14, attributes := #[] }, { accessFlags := 9, nameIndex := 198, descriptorIndex := 335, attributes := #[] }, { accessFlags := 9, nameIndex := 201, descriptorIndex := 335, attributes := #[] }] 49 4 #[] #[{ accessFlags := 25, nameIndex := 354, descriptorIndex := 339, attributes := #[] }, { accessFlags := 25, nameIndex := 358, descriptorIndex := 339, attributes := #[] }, { accessFlags := 25, nameIndex := 361, descriptorIndex := 339, attributes := #[] }, { accessFlags := 26, nameIndex := 364, descriptorIndex := 339, attributes := #[] }, { accessFlags := 26, nameIndex := 365, descriptorIndex := 339, attributes := #[] }, { accessFlags := 26, nameIndex := 172, descriptorIndex := 173, attributes := #[] }, { accessFlags := 26, nameIndex := 176, descriptorIndex := 173, attributes := #[] }, { accessFlags := 8, nameIndex := 344, descriptorIndex := 339, attributes := #[] }, { accessFlags := 8, nameIndex := 338, descriptorIndex := 339, attributes := #[] }, { accessFlags := 4120, nameIndex := 245, descriptorIndex := 246, attributes := #[] }])
  fields := #[{ name := "E", type := .double, accessFlags := 25, slot := 0, constantValue := 0 }, { name := "PI", type := .double, accessFlags := 25, slot := 1, constantValue := 0 }, { name := "TAU", type := .double, accessFlags := 25, slot := 2, constantValue := 0 }, { name := "DEGREES_TO_RADIANS", type := .double, accessFlags := 26, slot := 3, constantValue := 0 }, { name := "RADIANS_TO_DEGREES", type := .double, accessFlags := 26, slot := 4, constantValue := 0 }, { name := "negativeZeroFloatBits", type := .long, accessFlags := 26, slot := 5, constantValue := 0 }, { name := "negativeZeroDoubleBits", type := .long, accessFlags := 26, slot := 6, constantValue := 0 }, { name := "twoToTheDoubleScaleUp", type := .double, accessFlags := 8, slot := 7, constantValue := 0 }, { name := "twoToTheDoubleScaleDown", type := .double, accessFlags := 8, slot := 8, constantValue := 0 }, { name := "$assertionsDisabled", type := .boolean, accessFlags := 4120, slot := 9, constantValue := 0 }]
  methods := #[k2m0, k2m1, k2m2, k2m3]
  instanceTypes := #[]
  staticTypes := #[.double, .double, .double, .double, .double, .long, .long, .double, .double, .boolean]
  resolved := Array.replicate 460 none
  statics := none }

def pool3 : Array CpInfo := pool [(3, .class_ 4), (0, u "com/example/branchwise/branchwise/dd/DiagramManager"), (0, .integer 2147483647), (1, .nameAndType 8 9), (0, u "<init>"), (0, u "(I)V"), (0, .methodref 11 12), (0, .class_ 13), (0, .nameAndType 8 14), (0, u "java/lang/Object"), (0, u "()V"), (0, .fieldref 3 16), (0, .nameAndType 17 18), (0, u "variables"), (0, u "[I"), (0, .fieldref 3 20), (0, .nameAndType 21 18), (0, u "highs"), (0, .fieldref 3 23), (0, .nameAndType 24 18), (0, u "lows"), (0, .fieldref 3 26), (0, .nameAndType 27 28), (0, u "values"), (0, u "[D"), (0, .fieldref 3 30), (0, .nameAndType 31 18), (0, u "freeIds"), (0, .methodref 3 33), (0, .nameAndType 34 35), (0, u "emptyTable"), (0, u "(I)[I"), (0, .fieldref 3 37), (0, .nameAndType 38 18), (0, u "uniqueTable"), (0, .class_ 40), (0, u "com/example/branchwise/branchwise/dd/DiagramManager$ComputedTable"), (0, .methodref 39 7), (0, .fieldref 3 43), (0, .nameAndType 44 45), (0, u "computed"), (0, u "Lcom/example/branchwise/branchwise/dd/DiagramManager$ComputedTable;"), (9, .fieldref 3 56), (0, .nameAndType 57 58), (0, u "nodeLimit"), (0, u "I"), (0, .methodref 60 61), (0, .class_ 62), (0, .nameAndType 63 64), (0, u "java/lang/Double"), (0, u "isFinite"), (0, u "(D)Z"), (3, .methodref 3 69), (0, .nameAndType 70 71), (0, u "leaf"), (0, u "(DD)I"), (4, .methodref 3 77), (0, .nameAndType 78 9), (0, u "checkVariable"), (0, .methodref 3 80), (0, .nameAndType 81 82), (0, u "constant"), (0, u "(D)I"), (0, .methodref 3 84), (0, .nameAndType 85 86), (0, u "node"), (0, u "(III)I"), (129, .fieldref 3 217), (0, .nameAndType 218 58), (0, u "size"), (5, .fieldref 3 225), (0, .nameAndType 226 58), (0, u "freeCount"), (3, u "(I)Z"), (4, .class_ 237), (1, u "java/util/Arrays"), (11, u "isLeaf"), (79, u "range"), (9, .class_ 341), (1, u "com/example/branchwise/branchwise/dd/DiagramManager$1"), (7, u "RESTRICT_TO_TRUE"), (2, u "RESTRICT_TO_FALSE"), (16, u "(I)I"), (21, .methodref 60 392), (0, .nameAndType 393 394), (0, u "doubleToLongBits"), (0, u "(D)J"), (5, .methodref 3 401), (0, .nameAndType 402 403), (0, u "findOrAdd"), (0, u "(IIID)I"), (29, .methodref 3 434), (0, .nameAndType 435 436), (0, u "hash"), (0, u "(IIIJ)I"), (0, .methodref 3 438), (0, .nameAndType 439 403), (0, u "addNode"), (0, .methodref 3 441), (0, .nameAndType 442 9), (0, u "insert"), (3, .long 2), (7, .methodref 39 455), (0, .nameAndType 456 9), (0, u "resize"), (0, .methodref 235 458), (0, .nameAndType 459 460), (0, u "fill"), (0, u "([II)V"), (2, .long 11400714819323198485), (1, .long 13787848793156543929), (1, .long 10723151780598845931), (13, u "NO_NODE_LIMIT"), (1, u "LEAF"), (0, u "FREE"), (1, u "EMPTY"), (0, u "INITIAL_CAPACITY"), (4, u "indicator"), (25, u "highOf"), (0, u "lowOf")] 111

def k3m0 : Method := { name := "<init>", desc := "()V", sig := { parameters := [], returnType := none }, accessFlags := 1, code := none }
def k3c1 : Code := { maxStack := 4, maxLocals := 2, code := prog_11_method_2_code, exceptionTable := #[], attributes := #[] }
def k3m1 : Method := { name := "<init>", desc := "(I)V", sig := { parameters := [.int], returnType := none }, accessFlags := 1, code := some k3c1 }
def k3c2 : Code := { maxStack := 5, maxLocals := 3, code := prog_11_method_3_code, exceptionTable := #[], attributes := #[] }
def k3m2 : Method := { name := "constant", desc := "(D)I", sig := { parameters := [.double], returnType := some .int }, accessFlags := 1, code := some k3c2 }
def k3c3 : Code := { maxStack := 6, maxLocals := 5, code := prog_11_method_4_code, exceptionTable := #[], attributes := #[] }
def k3m3 : Method := { name := "range", desc := "(DD)I", sig := { parameters := [.double, .double], returnType := some .int }, accessFlags := 1, code := some k3c3 }
def k3c4 : Code := { maxStack := 6, maxLocals := 2, code := prog_11_method_5_code, exceptionTable := #[], attributes := #[] }
def k3m4 : Method := { name := "indicator", desc := "(I)I", sig := { parameters := [.int], returnType := some .int }, accessFlags := 1, code := some k3c4 }
def k3c5 : Code := { maxStack := 2, maxLocals := 2, code := prog_11_method_30_code, exceptionTable := #[], attributes := #[] }
def k3m5 : Method := { name := "isLeaf", desc := "(I)Z", sig := { parameters := [.int], returnType := some .boolean }, accessFlags := 0, code := some k3c5 }
def k3c6 : Code := { maxStack := 2, maxLocals := 2, code := prog_11_method_32_code, exceptionTable := #[], attributes := #[] }
def k3m6 : Method := { name := "highOf", desc := "(I)I", sig := { parameters := [.int], returnType := some .int }, accessFlags := 0, code := some k3c6 }
def k3c7 : Code := { maxStack := 2, maxLocals := 2, code := prog_11_method_33_code, exceptionTable := #[], attributes := #[] }
def k3m7 : Method := { name := "lowOf", desc := "(I)I", sig := { parameters := [.int], returnType := some .int }, accessFlags := 0, code := some k3c7 }
def k3c8 : Code := { maxStack := 8, maxLocals := 7, code := prog_11_method_39_code, exceptionTable := #[], attributes := #[] }
def k3m8 : Method := { name := "leaf", desc := "(DD)I", sig := { parameters := [.double, .double], returnType := some .int }, accessFlags := 2, code := some k3c8 }
def k3c9 : Code := { maxStack := 6, maxLocals := 4, code := prog_11_method_41_code, exceptionTable := #[], attributes := #[] }
def k3m9 : Method := { name := "node", desc := "(III)I", sig := { parameters := [.int, .int, .int], returnType := some .int }, accessFlags := 2, code := some k3c9 }
def k3c10 : Code := { maxStack := 6, maxLocals := 12, code := prog_11_method_42_code, exceptionTable := #[], attributes := #[] }
def k3m10 : Method := { name := "findOrAdd", desc := "(IIID)I", sig := { parameters := [.int, .int, .int, .double], returnType := some .int }, accessFlags := 2, code := some k3c10 }
def k3c11 : Code := { maxStack := 4, maxLocals := 8, code := prog_11_method_43_code, exceptionTable := #[], attributes := #[] }
def k3m11 : Method := { name := "addNode", desc := "(IIID)I", sig := { parameters := [.int, .int, .int, .double], returnType := some .int }, accessFlags := 2, code := some k3c11 }
def k3c12 : Code := { maxStack := 5, maxLocals := 4, code := prog_11_method_45_code, exceptionTable := #[], attributes := #[] }
def k3m12 : Method := { name := "insert", desc := "(I)V", sig := { parameters := [.int], returnType := none }, accessFlags := 2, code := some k3c12 }
def k3c13 : Code := { maxStack := 3, maxLocals := 1, code := prog_11_method_47_code, exceptionTable := #[], attributes := #[] }
def k3m13 : Method := { name := "checkVariable", desc := "(I)V", sig := { parameters := [.int], returnType := none }, accessFlags := 10, code := some k3c13 }
def k3c14 : Code := { maxStack := 2, maxLocals := 2, code := prog_11_method_48_code, exceptionTable := #[], attributes := #[] }
def k3m14 : Method := { name := "emptyTable", desc := "(I)[I", sig := { parameters := [.int], returnType := some (.array .int) }, accessFlags := 10, code := some k3c14 }
def k3c15 : Code := { maxStack := 5, maxLocals := 7, code := prog_11_method_49_code, exceptionTable := #[], attributes := #[] }
def k3m15 : Method := { name := "hash", desc := "(IIIJ)I", sig := { parameters := [.int, .int, .int, .long], returnType := some .int }, accessFlags := 10, code := some k3c15 }
/-- com/example/branchwise/branchwise/dd/DiagramManager -/
def k3 : Class := { plain "com/example/branchwise/branchwise/dd/DiagramManager" (some 0) with
  accessFlags := 49
  interfaces := #[]
  cf := some (fileOf pool3 3 #[.nestMembers #[339, 39]] #[{ accessFlags := 1, nameIndex := 8, descriptorIndex := 14, attributes := #[] }, { accessFlags := 1, nameIndex := 8, descriptorIndex := 9, attributes := #[] }, { accessFlags := 1, nameIndex := 81, descriptorIndex := 82, attributes := #[] }, { accessFlags := 1, nameIndex := 329, descriptorIndex := 71, attributes := #[] }, { accessFlags := 1, nameIndex := 492, descriptorIndex := 369, attributes := #[] }, { accessFlags := 0, nameIndex := 249, descriptorIndex := 230, attributes := #[] }, { accessFlags := 0, nameIndex := 518, descriptorIndex := 369, attributes := #[] }, { accessFlags := 0, nameIndex := 519, descriptorIndex := 369, attributes := #[] }, { accessFlags := 2, nameIndex := 70, descriptorIndex := 71, attributes := #[] }, { accessFlags := 2, nameIndex := 85, descriptorIndex := 86, attributes := #[] }, { accessFlags := 2, nameIndex := 402, descriptorIndex := 403, attributes := #[] }, { accessFlags := 2, nameIndex := 439, descriptorIndex := 403, attributes := #[] }, { accessFlags := 2, nameIndex := 442, descriptorIndex := 9, attributes := #[] }, { accessFlags := 10, nameIndex := 78, descriptorIndex := 9, attributes := #[] }, { accessFlags := 10, nameIndex := 34, descriptorIndex := 35, attributes := #[] }, { accessFlags := 10, nameIndex := 435, descriptorIndex := 436, attributes := #[] }] 49 11 #[] #[{ accessFlags := 25, nameIndex := 481, descriptorIndex := 58, attributes := #[] }, { accessFlags := 26, nameIndex := 483, descriptorIndex := 58, attributes := #[] }, { accessFlags := 26, nameIndex := 484, descriptorIndex := 58, attributes := #[] }, { accessFlags := 26, nameIndex := 486, descriptorIndex := 58, attributes := #[] }, { accessFlags := 26, nameIndex := 487, descriptorIndex := 58, attributes := #[] }, { accessFlags := 26, nameIndex := 349, descriptorIndex := 58, attributes := #[] }, { accessFlags := 26, nameIndex := 352, descriptorIndex := 58, attributes := #[] }, { accessFlags := 2, nameIndex := 17, descriptorIndex := 18, attributes := #[] }, { accessFlags := 2, nameIndex := 21, descriptorIndex := 18, attributes := #[] }, { accessFlags := 2, nameIndex := 24, descriptorIndex := 18, attributes := #[] }, { accessFlags := 2, nameIndex := 27, descriptorIndex := 28, attributes := #[] }, { accessFlags := 2, nameIndex := 218, descriptorIndex := 58, attributes := #[] }, { accessFlags := 2, nameIndex := 31, descriptorIndex := 18, attributes := #[] }, { accessFlags := 2, nameIndex := 226, descriptorIndex := 58, attributes := #[] }, { accessFlags := 2, nameIndex := 38, descriptorIndex := 18, attributes := #[] }, { accessFlags := 18, nameIndex := 44, descriptorIndex := 45, attributes := #[] }, { accessFlags := 18, nameIndex := 57, descriptorIndex := 58, attributes := #[] }])
  fields := #[{ name := "NO_NODE_LIMIT", type := .int, accessFlags := 25, slot := 0, constantValue := 0 }, { name := "LEAF", type := .int, accessFlags := 26, slot := 1, constantValue := 0 }, { name := "FREE", type := .int, accessFlags := 26, slot := 2, constantValue := 0 }, { name := "EMPTY", type := .int, accessFlags := 26, slot := 3, constantValue := 0 }, { name := "INITIAL_CAPACITY", type := .int, accessFlags := 26, slot := 4, constantValue := 0 }, { name := "RESTRICT_TO_TRUE", type := .int, accessFlags := 26, slot := 5, constantValue := 0 }, { name := "RESTRICT_TO_FALSE", type := .int, accessFlags := 26, slot := 6, constantValue := 0 }, { name := "variables", type := (.array .int), accessFlags := 2, slot := 0, constantValue := 0 }, { name := "highs", type := (.array .int), accessFlags := 2, slot := 1, constantValue := 0 }, { name := "lows", type := (.array .int), accessFlags := 2, slot := 2, constantValue := 0 }, { name := "values", type := (.array .double), accessFlags := 2, slot := 3, constantValue := 0 }, { name := "size", type := .int, accessFlags := 2, slot := 4, constantValue := 0 }, { name := "freeIds", type := (.array .int), accessFlags := 2, slot := 5, constantValue := 0 }, { name := "freeCount", type := .int, accessFlags := 2, slot := 6, constantValue := 0 }, { name := "uniqueTable", type := (.array .int), accessFlags := 2, slot := 7, constantValue := 0 }, { name := "computed", type := (.object "com/example/branchwise/branchwise/dd/DiagramManager$ComputedTable"), accessFlags := 18, slot := 8, constantValue := 0 }, { name := "nodeLimit", type := .int, accessFlags := 18, slot := 9, constantValue := 0 }]
  methods := #[k3m0, k3m1, k3m2, k3m3, k3m4, k3m5, k3m6, k3m7, k3m8, k3m9, k3m10, k3m11, k3m12, k3m13, k3m14, k3m15]
  instanceTypes := #[(.array .int), (.array .int), (.array .int), (.array .double), .int, (.array .int), .int, (.array .int), (.object "com/example/branchwise/branchwise/dd/DiagramManager$ComputedTable"), .int]
  staticTypes := #[.int, .int, .int, .int, .int, .int, .int]
  resolved := Array.replicate 631 none
  statics := none }

def pool4 : Array CpInfo := pool [(2, .class_ 4), (1, u "java/lang/Object"), (0, u "<init>"), (0, u "()V"), (7, .class_ 16), (1, u "java/util/Arrays"), (57, .class_ 76), (1, u "java/util/Arrays$NaturalOrder"), (36, .class_ 115), (1, u "java/util/Arrays$LegacyMergeSort"), (1, u "Z"), (257, .class_ 376), (0, u "java/util/Arrays$ArrayList"), (68, u "$assertionsDisabled"), (269, u "MIN_ARRAY_SORT_GRAN"), (0, u "I"), (2, u "INSERTIONSORT_THRESHOLD"), (120, u "fill"), (4, u "([II)V"), (129, .class_ 976), (0, u "java/util/Arrays$ArrayItr")] 52

def k4m0 : Method := { name := "<init>", desc := "()V", sig := { parameters := [], returnType := none }, accessFlags := 2, code := none }
def k4c1 : Code := { maxStack := 3, maxLocals := 4, code := jdk_65_method_103_code, exceptionTable := #[], attributes := #[] }
def k4m1 : Method := { name := "fill", desc := "([II)V", sig := { parameters := [(.array .int), .int], returnType := none }, accessFlags := 9, code := some k4c1 }
/-- java/util/Arrays -/
def k4 : Class := { plain "java/util/Arrays" (some 0) with
  accessFlags := 49
  interfaces := #[]
  cf := some (fileOf pool4 14 #[.nestMembers #[975, 375, 113, 74]] #[{ accessFlags := 2, nameIndex := 5, descriptorIndex := 6, attributes := #[] }, { accessFlags := 9, nameIndex := 840, descriptorIndex := 845, attributes := #[] }] 49 2 #[] #[{ accessFlags := 26, nameIndex := 715, descriptorIndex := 716, attributes := #[] }, { accessFlags := 26, nameIndex := 719, descriptorIndex := 716, attributes := #[] }, { accessFlags := 4120, nameIndex := 445, descriptorIndex := 117, attributes := #[] }])
  fields := #[{ name := "MIN_ARRAY_SORT_GRAN", type := .int, accessFlags := 26, slot := 0, constantValue := 0 }, { name := "INSERTIONSORT_THRESHOLD", type := .int, accessFlags := 26, slot := 1, constantValue := 0 }, { name := "$assertionsDisabled", type := .boolean, accessFlags := 4120, slot := 2, constantValue := 0 }]
  methods := #[k4m0, k4m1]
  instanceTypes := #[]
  staticTypes := #[.int, .int, .boolean]
  resolved := Array.replicate 1029 none
  statics := none }

def pool5 : Array CpInfo := pool [(1, .class_ 2), (0, u "com/example/branchwise/branchwise/dd/DiagramManager"), (0, .methodref 4 5), (0, .class_ 6), (0, .nameAndType 7 8), (0, u "java/lang/Object"), (0, u "<init>"), (0, u "()V"), (0, .methodref 10 11), (0, .class_ 12), (0, .nameAndType 13 14), (0, u "com/example/branchwise/branchwise/dd/DiagramManager$ComputedTable"), (0, u "resize"), (0, u "(I)V"), (4, .fieldref 10 20), (0, .nameAndType 21 22), (0, u "codes"), (0, u "[I"), (0, .fieldref 10 24), (0, .nameAndType 25 22), (0, u "firsts"), (0, .fieldref 10 27), (0, .nameAndType 28 22), (0, u "seconds"), (0, .fieldref 10 30), (0, .nameAndType 31 22), (0, u "results"), (6, .integer 4194304), (0, .methodref 40 41), (0, .class_ 42), (0, .nameAndType 43 44), (0, u "java/lang/Math"), (0, u "min"), (0, u "(II)I"), (0, .methodref 1 46), (0, .nameAndType 47 48), (0, u "emptyTable"), (0, u "(I)[I"), (4, u "MAX_CAPACITY"), (0, u "I")] 13

def k5c0 : Code := { maxStack := 2, maxLocals := 2, code := prog_13_method_1_code, exceptionTable := #[], attributes := #[] }
def k5m0 : Method := { name := "<init>", desc := "(I)V", sig := { parameters := [.int], returnType := none }, accessFlags := 0, code := some k5c0 }
def k5c1 : Code := { maxStack := 2, maxLocals := 3, code := prog_13_method_5_code, exceptionTable := #[], attributes := #[] }
def k5m1 : Method := { name := "resize", desc := "(I)V", sig := { parameters := [.int], returnType := none }, accessFlags := 0, code := some k5c1 }
/-- com/example/branchwise/branchwise/dd/DiagramManager$ComputedTable -/
def k5 : Class := { plain "com/example/branchwise/branchwise/dd/DiagramManager$ComputedTable" (some 0) with
  accessFlags := 48
  interfaces := #[]
  cf := some (fileOf pool5 10 #[.nestHost 1] #[{ accessFlags := 0, nameIndex := 7, descriptorIndex := 14, attributes := #[] }, { accessFlags := 0, nameIndex := 13, descriptorIndex := 14, attributes := #[] }] 48 4 #[] #[{ accessFlags := 26, nameIndex := 53, descriptorIndex := 54, attributes := #[] }, { accessFlags := 2, nameIndex := 21, descriptorIndex := 22, attributes := #[] }, { accessFlags := 2, nameIndex := 25, descriptorIndex := 22, attributes := #[] }, { accessFlags := 2, nameIndex := 28, descriptorIndex := 22, attributes := #[] }, { accessFlags := 2, nameIndex := 31, descriptorIndex := 22, attributes := #[] }])
  fields := #[{ name := "MAX_CAPACITY", type := .int, accessFlags := 26, slot := 0, constantValue := 0 }, { name := "codes", type := (.array .int), accessFlags := 2, slot := 0, constantValue := 0 }, { name := "firsts", type := (.array .int), accessFlags := 2, slot := 1, constantValue := 0 }, { name := "seconds", type := (.array .int), accessFlags := 2, slot := 2, constantValue := 0 }, { name := "results", type := (.array .int), accessFlags := 2, slot := 3, constantValue := 0 }]
  methods := #[k5m0, k5m1]
  instanceTypes := #[(.array .int), (.array .int), (.array .int), (.array .int)]
  staticTypes := #[.int]
  resolved := Array.replicate 68 none
  statics := none }

def pool6 : Array CpInfo := pool [(1, .class_ 2), (0, u "java/io/Serializable"), (0, .class_ 4), (0, u "java/lang/Object")] 2

/-- java/io/Serializable -/
def k6 : Class := { plain "java/io/Serializable" (some 0) with
  accessFlags := 1537
  interfaces := #[]
  cf := some (fileOf pool6 1 #[] #[] 1537 3 #[] #[])
  fields := #[]
  methods := #[]
  instanceTypes := #[]
  staticTypes := #[]
  resolved := Array.replicate 7 none
  statics := none }

def pool7 : Array CpInfo := pool [(2, .class_ 4), (1, u "java/lang/Object"), (0, u "<init>"), (0, u "()V"), (1, .class_ 10), (1, u "java/lang/Number"), (2, .class_ 14), (0, u "java/io/Serializable"), (0, u "serialVersionUID"), (0, u "J")] 20

def k7m0 : Method := { name := "<init>", desc := "()V", sig := { parameters := [], returnType := none }, accessFlags := 1, code := none }
/-- java/lang/Number -/
def k7 : Class := { plain "java/lang/Number" (some 0) with
  accessFlags := 1057
  interfaces := #[6]
  cf := some (fileOf pool7 8 #[] #[{ accessFlags := 1, nameIndex := 5, descriptorIndex := 6, attributes := #[] }] 1057 2 #[13] #[{ accessFlags := 26, nameIndex := 15, descriptorIndex := 16, attributes := #[] }])
  fields := #[{ name := "serialVersionUID", type := .long, accessFlags := 26, slot := 0, constantValue := 0 }]
  methods := #[k7m0]
  instanceTypes := #[]
  staticTypes := #[.long]
  resolved := Array.replicate 37 none
  statics := none }

def pool8 : Array CpInfo := pool [(1, .class_ 2), (0, u "java/lang/Comparable"), (0, .class_ 4), (0, u "java/lang/Object")] 7

/-- java/lang/Comparable -/
def k8 : Class := { plain "java/lang/Comparable" (some 0) with
  accessFlags := 1537
  interfaces := #[]
  cf := some (fileOf pool8 1 #[] #[] 1537 3 #[] #[])
  fields := #[]
  methods := #[]
  instanceTypes := #[]
  staticTypes := #[]
  resolved := Array.replicate 12 none
  statics := none }

def pool9 : Array CpInfo := pool [(1, .class_ 2), (0, u "java/lang/constant/Constable"), (0, .class_ 4), (0, u "java/lang/Object")] 6

/-- java/lang/constant/Constable -/
def k9 : Class := { plain "java/lang/constant/Constable" (some 0) with
  accessFlags := 1537
  interfaces := #[]
  cf := some (fileOf pool9 1 #[] #[] 1537 3 #[] #[])
  fields := #[]
  methods := #[]
  instanceTypes := #[]
  staticTypes := #[]
  resolved := Array.replicate 11 none
  statics := none }

def pool10 : Array CpInfo := pool [(1, .class_ 2), (0, u "java/lang/constant/ConstantDesc"), (0, .class_ 4), (0, u "java/lang/Object")] 32

/-- java/lang/constant/ConstantDesc -/
def k10 : Class := { plain "java/lang/constant/ConstantDesc" (some 0) with
  accessFlags := 1537
  interfaces := #[]
  cf := some (fileOf pool10 1 #[] #[] 1537 3 #[] #[])
  fields := #[]
  methods := #[]
  instanceTypes := #[]
  staticTypes := #[]
  resolved := Array.replicate 37 none
  statics := none }

def pool11 : Array CpInfo := pool [(1, .class_ 2), (0, u "java/lang/Double"), (10, u "isFinite"), (0, u "(D)Z"), (8, .class_ 25), (1, u "java/lang/Math"), (12, .methodref 23 39), (0, .nameAndType 40 41), (0, u "abs"), (0, u "(D)D"), (6, u "doubleToLongBits"), (0, u "(D)J"), (61, .double 9218868437227405311), (2, .class_ 116), (1, u "java/lang/Number"), (3, u "value"), (0, u "D"), (0, .methodref 1 123), (0, .nameAndType 124 14), (0, u "isNaN"), (9, .methodref 1 135), (0, .nameAndType 136 49), (0, u "doubleToRawLongBits"), (36, u "TYPE"), (0, u "Ljava/lang/Class;"), (0, .class_ 176), (0, u "java/lang/Comparable"), (0, .class_ 178), (0, u "java/lang/constant/Constable"), (0, .class_ 180), (0, u "java/lang/constant/ConstantDesc"), (0, u "POSITIVE_INFINITY"), (3, u "NEGATIVE_INFINITY"), (2, u "NaN"), (2, u "MAX_VALUE"), (0, u "MIN_NORMAL"), (0, u "MIN_VALUE"), (2, u "SIZE"), (0, u "I"), (1, u "PRECISION"), (1, u "MAX_EXPONENT"), (1, u "MIN_EXPONENT"), (1, u "BYTES"), (3, u "serialVersionUID"), (0, u "J")] 79

def k11c0 : Code := { maxStack := 4, maxLocals := 2, code := jdk_117_method_6_code, exceptionTable := #[], attributes := #[] }
def k11m0 : Method := { name := "isNaN", desc := "(D)Z", sig := { parameters := [.double], returnType := some .boolean }, accessFlags := 9, code := some k11c0 }
def k11c1 : Code := { maxStack := 4, maxLocals := 2, code := jdk_117_method_8_code, exceptionTable := #[], attributes := #[] }
def k11m1 : Method := { name := "isFinite", desc := "(D)Z", sig := { parameters := [.double], returnType := some .boolean }, accessFlags := 9, code := some k11c1 }
def k11c2 : Code := { maxStack := 2, maxLocals := 2, code := jdk_117_method_23_code, exceptionTable := #[], attributes := #[] }
def k11m2 : Method := { name := "doubleToLongBits", desc := "(D)J", sig := { parameters := [.double], returnType := some .long }, accessFlags := 9, code := some k11c2 }
def k11m3 : Method := { name := "doubleToRawLongBits", desc := "(D)J", sig := { parameters := [.double], returnType := some .long }, accessFlags := 265, code := none }
/-- java/lang/Double -/
def k11 : Class := { plain "java/lang/Double" (some 7) with
  accessFlags := 49
  interfaces := #[8, 9, 10]
  cf := some (fileOf pool11 1 #[] #[{ accessFlags := 9, nameIndex := 124, descriptorIndex := 14, attributes := #[] }, { accessFlags := 9, nameIndex := 13, descriptorIndex := 14, attributes := #[] }, { accessFlags := 9, nameIndex := 48, descriptorIndex := 49, attributes := #[] }, { accessFlags := 265, nameIndex := 136, descriptorIndex := 49, attributes := #[] }] 49 114 #[175, 177, 179] #[{ accessFlags := 25, nameIndex := 181, descriptorIndex := 121, attributes := #[] }, { accessFlags := 25, nameIndex := 185, descriptorIndex := 121, attributes := #[] }, { accessFlags := 25, nameIndex := 188, descriptorIndex := 121, attributes := #[] }, { accessFlags := 25, nameIndex := 191, descriptorIndex := 121, attributes := #[] }, { accessFlags := 25, nameIndex := 192, descriptorIndex := 121, attributes := #[] }, { accessFlags := 25, nameIndex := 193, descriptorIndex := 121, attributes := #[] }, { accessFlags := 25, nameIndex := 196, descriptorIndex := 197, attributes := #[] }, { accessFlags := 25, nameIndex := 199, descriptorIndex := 197, attributes := #[] }, { accessFlags := 25, nameIndex := 201, descriptorIndex := 197, attributes := #[] }, { accessFlags := 25, nameIndex := 203, descriptorIndex := 197, attributes := #[] }, { accessFlags := 25, nameIndex := 205, descriptorIndex := 197, attributes := #[] }, { accessFlags := 25, nameIndex := 173, descriptorIndex := 174, attributes := #[] }, { accessFlags := 18, nameIndex := 120, descriptorIndex := 121, attributes := #[] }, { accessFlags := 26, nameIndex := 209, descriptorIndex := 210, attributes := #[] }])
  fields := #[{ name := "POSITIVE_INFINITY", type := .double, accessFlags := 25, slot := 0, constantValue := 0 }, { name := "NEGATIVE_INFINITY", type := .double, accessFlags := 25, slot := 1, constantValue := 0 }, { name := "NaN", type := .double, accessFlags := 25, slot := 2, constantValue := 0 }, { name := "MAX_VALUE", type := .double, accessFlags := 25, slot := 3, constantValue := 0 }, { name := "MIN_NORMAL", type := .double, accessFlags := 25, slot := 4, constantValue := 0 }, { name := "MIN_VALUE", type := .double, accessFlags := 25, slot := 5, constantValue := 0 }, { name := "SIZE", type := .int, accessFlags := 25, slot := 6, constantValue := 0 }, { name := "PRECISION", type := .int, accessFlags := 25, slot := 7, constantValue := 0 }, { name := "MAX_EXPONENT", type := .int, accessFlags := 25, slot := 8, constantValue := 0 }, { name := "MIN_EXPONENT", type := .int, accessFlags := 25, slot := 9, constantValue := 0 }, { name := "BYTES", type := .int, accessFlags := 25, slot := 10, constantValue := 0 }, { name := "TYPE", type := (.object "java/lang/Class"), accessFlags := 25, slot := 11, constantValue := 0 }, { name := "value", type := .double, accessFlags := 18, slot := 0, constantValue := 0 }, { name := "serialVersionUID", type := .long, accessFlags := 26, slot := 12, constantValue := 0 }]
  methods := #[k11m0, k11m1, k11m2, k11m3]
  instanceTypes := #[.double]
  staticTypes := #[.double, .double, .double, .double, .double, .double, .int, .int, .int, .int, .int, (.object "java/lang/Class"), .long]
  resolved := Array.replicate 290 none
  statics := none }

def pool12 : Array CpInfo := pool [(1, u "java/lang/Cloneable"), (0, .class_ 1), (0, u "java/lang/Object"), (0, .class_ 3)] 3

/-- java/lang/Cloneable -/
def k12 : Class := { plain "java/lang/Cloneable" (some 0) with
  accessFlags := 1537
  interfaces := #[]
  cf := some (fileOf pool12 2 #[] #[] 1537 4 #[] #[])
  fields := #[]
  methods := #[]
  instanceTypes := #[]
  staticTypes := #[]
  resolved := Array.replicate 8 none
  statics := none }

/-- the primitive byte -/
def k13 : Class := { plain "byte" none with kind := .primitive 'B', accessFlags := 0x411 }
/-- [B -/
def k14 : Class := { plain "[B" (some 0) with kind := .array 13 .byte, interfaces := #[12, 6], accessFlags := 1041 }

/-- the primitive double -/
def k15 : Class := { plain "double" none with kind := .primitive 'D', accessFlags := 0x411 }
/-- [D -/
def k16 : Class := { plain "[D" (some 0) with kind := .array 15 .double, interfaces := #[12, 6], accessFlags := 1041 }

/-- the primitive int -/
def k17 : Class := { plain "int" none with kind := .primitive 'I', accessFlags := 0x411 }
/-- [I -/
def k18 : Class := { plain "[I" (some 0) with kind := .array 17 .int, interfaces := #[12, 6], accessFlags := 1041 }

def heap : Heap := #[]
def classes : Array Class := #[k0, k1, k2, k3, k4, k5, k6, k7, k8, k9, k10, k11, k12, k13, k14, k15, k16, k17, k18]
def interned : List (Array UInt16 × Addr) := []
def slotsUsed : Nat := 0
def theMethod : MethodId := ⟨1, 1⟩
def args0 : Array Value := #[(.int 1), (.int 2), (.int 3), (.int 4), (.int 5)]
def aboutOver (below : List Frame) : State where
  vm := { classes := classes, interned := interned.toArray }
  heap := heap
  slotsUsed := slotsUsed
  threads := #[{ frames := .invoking theMethod args0 :: below }]
def below0 : List Frame := [.native { method := ⟨0, 0⟩, args := #[] }]
def about1 : State := aboutOver below0
def p0 : Program := .bare "" "" ""
def e0 : Env := launch0.env 0 0 0
theorem w_frames : about1.frames = Frame.invoking theMethod args0 :: below0 := rfl
set_option maxRecDepth 65536 in
theorem w_args : argsFit about1.vm theMethod args0 = true := by decide +kernel
set_option maxRecDepth 65536 in
theorem w_heap : heapFits about1 = true := by decide +kernel
set_option maxRecDepth 65536 in
theorem w_runnable : about1.curStatus? = some .runnable := by decide +kernel
set_option maxRecDepth 65536 in
theorem w_alone : about1.alone = true := by decide +kernel
set_option maxRecDepth 65536 in
theorem w_named : about1.methodNamed? x = some theMethod := by decide +kernel
set_option maxRecDepth 65536 in
theorem w_hears : about1.hears theMethod below0 = true := by decide +kernel
set_option maxRecDepth 65536 in
theorem w_ripe : about1.ripe theMethod args0 below0 = true := by decide +kernel
theorem w_running : about1.status = .running := rfl
set_option maxRecDepth 65536 in
theorem w_room : about1.hasRoom e0.platform room_1 = true :=
  launch0.hasRoom_least _ room_1 (by decide +kernel) (by decide +kernel) (by decide +kernel) (by decide +kernel) (by decide +kernel) (by decide +kernel)
theorem allAtoms_all (ts : List Jvm.Cond) (a : Array Jvm.Value) (st : Jvm.State) : (allAtoms ts).before a st = ts.all (fun c => c.before a st) := by
  induction ts with
  | nil => rfl
  | cons c t ih =>
    show (Jvm.Cond.and c (allAtoms t)).before a st = _
    rw [Jvm.Cond.before_and, ih, List.all_cons]
def words1 : List Jvm.Cond := Jvm.Cond.code x code maxLocals ret :: tables_1
/-- a 'code' word, met by the world's own term for the bytes: nothing is compared byte by byte -/
theorem code_word {y : MethodName} {bytes : ByteArray} {mx : Nat} {rt : Option FieldType} {a : Array Value} {s : State} {m : MethodId} {meth : Method} {c : Code} (h1 : s.methodNamed? y = some m) (h2 : s.vm.method? m = some meth) (h3 : meth.code = some c) (h4 : c.code = bytes)
    (h5 : (c.maxLocals == mx && c.exceptionTable.isEmpty && decide (c.maxStack ≤ mostOperands) && decide (meth.sig.returnType = rt) && !meth.locks && decide (parseMethodDescriptor y.desc = some meth.sig)) = true) : (Jvm.Cond.code y bytes mx rt).before a s = true := by
  simp only [Bool.and_eq_true, beq_iff_eq, Bool.not_eq_true', decide_eq_true_eq] at h5
  obtain ⟨⟨⟨⟨⟨g1, g2⟩, g3⟩, g4⟩, g5⟩, g6⟩ := h5
  simp [Cond.before, Cond.holds, Cond.value, h1, h2, h3, h4, g1, g2, g3, g4, g5, g6]
def isCode : Jvm.Cond → Bool
  | .code _ _ _ _ => true
  | _ => false
theorem all_split {L : List Jvm.Cond} {P : Jvm.Cond → Bool} (h1 : L.all (fun c => isCode c || P c) = true) (h2 : ∀ c ∈ L.filter isCode, P c = true) : L.all P = true := by
  refine List.all_eq_true.mpr fun c hc => ?_
  have h := List.all_eq_true.mp h1 c hc
  rcases Bool.eq_false_or_eq_true (isCode c) with hi | hi
  · exact h2 c (List.mem_filter.mpr ⟨hc, hi⟩)
  · simpa [hi] using h
set_option maxRecDepth 65536 in
theorem w_c0 : (Jvm.Cond.code x code maxLocals ret).before args0 about1 = true := code_word (m := ⟨1, 1⟩) (meth := k1m1) (c := k1c1) (by decide +kernel) rfl rfl rfl (by decide +kernel)
set_option maxRecDepth 65536 in
theorem w_c1 : (Jvm.Cond.code ({ cls := "java/lang/Math", name := "min", desc := "(II)I" } : Jvm.MethodName) jdk_29_method_69_code (2 : Nat) (Option.some Jvm.ClassFile.FieldType.int)).before args0 about1 = true := code_word (m := ⟨2, 3⟩) (meth := k2m3) (c := k2c3) (by decide +kernel) rfl rfl rfl (by decide +kernel)
set_option maxRecDepth 65536 in
theorem w_c2 : (Jvm.Cond.code ({ cls := "java/lang/Math", name := "max", desc := "(II)I" } : Jvm.MethodName) jdk_29_method_65_code (2 : Nat) (Option.some Jvm.ClassFile.FieldType.int)).before args0 about1 = true := code_word (m := ⟨2, 2⟩) (meth := k2m2) (c := k2c2) (by decide +kernel) rfl rfl rfl (by decide +kernel)
set_option maxRecDepth 65536 in
theorem w_c3 : (Jvm.Cond.code ({ cls := "com/example/branchwise/branchwise/dd/DiagramManager", name := "<init>", desc := "(I)V" } : Jvm.MethodName) prog_11_method_2_code (2 : Nat) (Option.none : Option Jvm.ClassFile.FieldType)).before args0 about1 = true := code_word (m := ⟨3, 1⟩) (meth := k3m1) (c := k3c1) (by decide +kernel) rfl rfl rfl (by decide +kernel)
set_option maxRecDepth 65536 in
theorem w_c4 : (Jvm.Cond.code ({ cls := "java/lang/Object", name := "<init>", desc := "()V" } : Jvm.MethodName) object_method_1_code (1 : Nat) (Option.none : Option Jvm.ClassFile.FieldType)).before args0 about1 = true := code_word (m := ⟨0, 0⟩) (meth := k0m0) (c := k0c0) (by decide +kernel) rfl rfl rfl (by decide +kernel)
set_option maxRecDepth 65536 in
theorem w_c5 : (Jvm.Cond.code ({ cls := "com/example/branchwise/branchwise/dd/DiagramManager", name := "emptyTable", desc := "(I)[I" } : Jvm.MethodName) prog_11_method_48_code (2 : Nat) (Option.some (Jvm.ClassFile.FieldType.array Jvm.ClassFile.FieldType.int))).before args0 about1 = true := code_word (m := ⟨3, 14⟩) (meth := k3m14) (c := k3c14) (by decide +kernel) rfl rfl rfl (by decide +kernel)
set_option maxRecDepth 65536 in
theorem w_c6 : (Jvm.Cond.code ({ cls := "java/util/Arrays", name := "fill", desc := "([II)V" } : Jvm.MethodName) jdk_65_method_103_code (4 : Nat) (Option.none : Option Jvm.ClassFile.FieldType)).before args0 about1 = true := code_word (m := ⟨4, 1⟩) (meth := k4m1) (c := k4c1) (by decide +kernel) rfl rfl rfl (by decide +kernel)
set_option maxRecDepth 65536 in
theorem w_c7 : (Jvm.Cond.code ({ cls := "com/example/branchwise/branchwise/dd/DiagramManager$ComputedTable", name := "<init>", desc := "(I)V" } : Jvm.MethodName) prog_13_method_1_code (2 : Nat) (Option.none : Option Jvm.ClassFile.FieldType)).before args0 about1 = true := code_word (m := ⟨5, 0⟩) (meth := k5m0) (c := k5c0) (by decide +kernel) rfl rfl rfl (by decide +kernel)
set_option maxRecDepth 65536 in
theorem w_c8 : (Jvm.Cond.code ({ cls := "com/example/branchwise/branchwise/dd/DiagramManager$ComputedTable", name := "resize", desc := "(I)V" } : Jvm.MethodName) prog_13_method_5_code (3 : Nat) (Option.none : Option Jvm.ClassFile.FieldType)).before args0 about1 = true := code_word (m := ⟨5, 1⟩) (meth := k5m1) (c := k5c1) (by decide +kernel) rfl rfl rfl (by decide +kernel)
set_option maxRecDepth 65536 in
theorem w_c9 : (Jvm.Cond.code ({ cls := "com/example/branchwise/branchwise/dd/DiagramManager", name := "constant", desc := "(D)I" } : Jvm.MethodName) prog_11_method_3_code (3 : Nat) (Option.some Jvm.ClassFile.FieldType.int)).before args0 about1 = true := code_word (m := ⟨3, 2⟩) (meth := k3m2) (c := k3c2) (by decide +kernel) rfl rfl rfl (by decide +kernel)
set_option maxRecDepth 65536 in
theorem w_c10 : (Jvm.Cond.code ({ cls := "java/lang/Double", name := "isFinite", desc := "(D)Z" } : Jvm.MethodName) jdk_117_method_8_code (2 : Nat) (Option.some Jvm.ClassFile.FieldType.boolean)).before args0 about1 = true := code_word (m := ⟨11, 1⟩) (meth := k11m1) (c := k11c1) (by decide +kernel) rfl rfl rfl (by decide +kernel)
set_option maxRecDepth 65536 in
theorem w_c11 : (Jvm.Cond.code ({ cls := "java/lang/Math", name := "abs", desc := "(D)D" } : Jvm.MethodName) jdk_29_method_64_code (2 : Nat) (Option.some Jvm.ClassFile.FieldType.double)).before args0 about1 = true := code_word (m := ⟨2, 1⟩) (meth := k2m1) (c := k2c1) (by decide +kernel) rfl rfl rfl (by decide +kernel)
set_option maxRecDepth 65536 in
theorem w_c12 : (Jvm.Cond.code ({ cls := "com/example/branchwise/branchwise/dd/DiagramManager", name := "leaf", desc := "(DD)I" } : Jvm.MethodName) prog_11_method_39_code (7 : Nat) (Option.some Jvm.ClassFile.FieldType.int)).before args0 about1 = true := code_word (m := ⟨3, 8⟩) (meth := k3m8) (c := k3c8) (by decide +kernel) rfl rfl rfl (by decide +kernel)
set_option maxRecDepth 65536 in
theorem w_c13 : (Jvm.Cond.code ({ cls := "java/lang/Double", name := "doubleToLongBits", desc := "(D)J" } : Jvm.MethodName) jdk_117_method_23_code (2 : Nat) (Option.some Jvm.ClassFile.FieldType.long)).before args0 about1 = true := code_word (m := ⟨11, 2⟩) (meth := k11m2) (c := k11c2) (by decide +kernel) rfl rfl rfl (by decide +kernel)
set_option maxRecDepth 65536 in
theorem w_c14 : (Jvm.Cond.code ({ cls := "java/lang/Double", name := "isNaN", desc := "(D)Z" } : Jvm.MethodName) jdk_117_method_6_code (2 : Nat) (Option.some Jvm.ClassFile.FieldType.boolean)).before args0 about1 = true := code_word (m := ⟨11, 0⟩) (meth := k11m0) (c := k11c0) (by decide +kernel) rfl rfl rfl (by decide +kernel)
set_option maxRecDepth 65536 in
theorem w_c15 : (Jvm.Cond.code ({ cls := "com/example/branchwise/branchwise/dd/DiagramManager", name := "findOrAdd", desc := "(IIID)I" } : Jvm.MethodName) prog_11_method_42_code (12 : Nat) (Option.some Jvm.ClassFile.FieldType.int)).before args0 about1 = true := code_word (m := ⟨3, 10⟩) (meth := k3m10) (c := k3c10) (by decide +kernel) rfl rfl rfl (by decide +kernel)
set_option maxRecDepth 65536 in
theorem w_c16 : (Jvm.Cond.code ({ cls := "com/example/branchwise/branchwise/dd/DiagramManager", name := "hash", desc := "(IIIJ)I" } : Jvm.MethodName) prog_11_method_49_code (7 : Nat) (Option.some Jvm.ClassFile.FieldType.int)).before args0 about1 = true := code_word (m := ⟨3, 15⟩) (meth := k3m15) (c := k3c15) (by decide +kernel) rfl rfl rfl (by decide +kernel)
set_option maxRecDepth 65536 in
theorem w_c17 : (Jvm.Cond.code ({ cls := "com/example/branchwise/branchwise/dd/DiagramManager", name := "addNode", desc := "(IIID)I" } : Jvm.MethodName) prog_11_method_43_code (8 : Nat) (Option.some Jvm.ClassFile.FieldType.int)).before args0 about1 = true := code_word (m := ⟨3, 11⟩) (meth := k3m11) (c := k3c11) (by decide +kernel) rfl rfl rfl (by decide +kernel)
set_option maxRecDepth 65536 in
theorem w_c18 : (Jvm.Cond.code ({ cls := "com/example/branchwise/branchwise/dd/DiagramManager", name := "insert", desc := "(I)V" } : Jvm.MethodName) prog_11_method_45_code (4 : Nat) (Option.none : Option Jvm.ClassFile.FieldType)).before args0 about1 = true := code_word (m := ⟨3, 12⟩) (meth := k3m12) (c := k3c12) (by decide +kernel) rfl rfl rfl (by decide +kernel)
set_option maxRecDepth 65536 in
theorem w_c19 : (Jvm.Cond.code ({ cls := "com/example/branchwise/branchwise/dd/DiagramManager", name := "range", desc := "(DD)I" } : Jvm.MethodName) prog_11_method_4_code (5 : Nat) (Option.some Jvm.ClassFile.FieldType.int)).before args0 about1 = true := code_word (m := ⟨3, 3⟩) (meth := k3m3) (c := k3c3) (by decide +kernel) rfl rfl rfl (by decide +kernel)
set_option maxRecDepth 65536 in
theorem w_c20 : (Jvm.Cond.code ({ cls := "com/example/branchwise/branchwise/dd/DiagramManager", name := "indicator", desc := "(I)I" } : Jvm.MethodName) prog_11_method_5_code (2 : Nat) (Option.some Jvm.ClassFile.FieldType.int)).before args0 about1 = true := code_word (m := ⟨3, 4⟩) (meth := k3m4) (c := k3c4) (by decide +kernel) rfl rfl rfl (by decide +kernel)
set_option maxRecDepth 65536 in
theorem w_c21 : (Jvm.Cond.code ({ cls := "com/example/branchwise/branchwise/dd/DiagramManager", name := "checkVariable", desc := "(I)V" } : Jvm.MethodName) prog_11_method_47_code (1 : Nat) (Option.none : Option Jvm.ClassFile.FieldType)).before args0 about1 = true := code_word (m := ⟨3, 13⟩) (meth := k3m13) (c := k3c13) (by decide +kernel) rfl rfl rfl (by decide +kernel)
set_option maxRecDepth 65536 in
theorem w_c22 : (Jvm.Cond.code ({ cls := "com/example/branchwise/branchwise/dd/DiagramManager", name := "node", desc := "(III)I" } : Jvm.MethodName) prog_11_method_41_code (4 : Nat) (Option.some Jvm.ClassFile.FieldType.int)).before args0 about1 = true := code_word (m := ⟨3, 9⟩) (meth := k3m9) (c := k3c9) (by decide +kernel) rfl rfl rfl (by decide +kernel)
set_option maxRecDepth 65536 in
theorem w_c23 : (Jvm.Cond.code ({ cls := "com/example/branchwise/branchwise/dd/DiagramManager", name := "isLeaf", desc := "(I)Z" } : Jvm.MethodName) prog_11_method_30_code (2 : Nat) (Option.some Jvm.ClassFile.FieldType.boolean)).before args0 about1 = true := code_word (m := ⟨3, 5⟩) (meth := k3m5) (c := k3c5) (by decide +kernel) rfl rfl rfl (by decide +kernel)
set_option maxRecDepth 65536 in
theorem w_c24 : (Jvm.Cond.code ({ cls := "com/example/branchwise/branchwise/dd/DiagramManager", name := "highOf", desc := "(I)I" } : Jvm.MethodName) prog_11_method_32_code (2 : Nat) (Option.some Jvm.ClassFile.FieldType.int)).before args0 about1 = true := code_word (m := ⟨3, 6⟩) (meth := k3m6) (c := k3c6) (by decide +kernel) rfl rfl rfl (by decide +kernel)
set_option maxRecDepth 65536 in
theorem w_c25 : (Jvm.Cond.code ({ cls := "com/example/branchwise/branchwise/dd/DiagramManager", name := "lowOf", desc := "(I)I" } : Jvm.MethodName) prog_11_method_33_code (2 : Nat) (Option.some Jvm.ClassFile.FieldType.int)).before args0 about1 = true := code_word (m := ⟨3, 7⟩) (meth := k3m7) (c := k3c7) (by decide +kernel) rfl rfl rfl (by decide +kernel)
def codes1 : List Jvm.Cond := [Jvm.Cond.code x code maxLocals ret, Jvm.Cond.code ({ cls := "java/lang/Math", name := "min", desc := "(II)I" } : Jvm.MethodName) jdk_29_method_69_code (2 : Nat) (Option.some Jvm.ClassFile.FieldType.int), Jvm.Cond.code ({ cls := "java/lang/Math", name := "max", desc := "(II)I" } : Jvm.MethodName) jdk_29_method_65_code (2 : Nat) (Option.some Jvm.ClassFile.FieldType.int), Jvm.Cond.code ({ cls := "com/example/branchwise/branchwise/dd/DiagramManager", name := "<init>", desc := "(I)V" } : Jvm.MethodName) prog_11_method_2_code (2 : Nat) (Option.none : Option Jvm.ClassFile.FieldType), Jvm.Cond.code ({ cls := "java/lang/Object", name := "<init>", desc := "()V" } : Jvm.MethodName) object_method_1_code (1 : Nat) (Option.none : Option Jvm.ClassFile.FieldType), Jvm.Cond.code ({ cls := "com/example/branchwise/branchwise/dd/DiagramManager", name := "emptyTable", desc := "(I)[I" } : Jvm.MethodName) prog_11_method_48_code (2 : Nat) (Option.some (Jvm.ClassFile.FieldType.array Jvm.ClassFile.FieldType.int)), Jvm.Cond.code ({ cls := "java/util/Arrays", name := "fill", desc := "([II)V" } : Jvm.MethodName) jdk_65_method_103_code (4 : Nat) (Option.none : Option Jvm.ClassFile.FieldType), Jvm.Cond.code ({ cls := "com/example/branchwise/branchwise/dd/DiagramManager$ComputedTable", name := "<init>", desc := "(I)V" } : Jvm.MethodName) prog_13_method_1_code (2 : Nat) (Option.none : Option Jvm.ClassFile.FieldType), Jvm.Cond.code ({ cls := "com/example/branchwise/branchwise/dd/DiagramManager$ComputedTable", name := "resize", desc := "(I)V" } : Jvm.MethodName) prog_13_method_5_code (3 : Nat) (Option.none : Option Jvm.ClassFile.FieldType), Jvm.Cond.code ({ cls := "com/example/branchwise/branchwise/dd/DiagramManager", name := "constant", desc := "(D)I" } : Jvm.MethodName) prog_11_method_3_code (3 : Nat) (Option.some Jvm.ClassFile.FieldType.int), Jvm.Cond.code ({ cls := "java/lang/Double", name := "isFinite", desc := "(D)Z" } : Jvm.MethodName) jdk_117_method_8_code (2 : Nat) (Option.some Jvm.ClassFile.FieldType.boolean), Jvm.Cond.code ({ cls := "java/lang/Math", name := "abs", desc := "(D)D" } : Jvm.MethodName) jdk_29_method_64_code (2 : Nat) (Option.some Jvm.ClassFile.FieldType.double), Jvm.Cond.code ({ cls := "com/example/branchwise/branchwise/dd/DiagramManager", name := "leaf", desc := "(DD)I" } : Jvm.MethodName) prog_11_method_39_code (7 : Nat) (Option.some Jvm.ClassFile.FieldType.int), Jvm.Cond.code ({ cls := "java/lang/Double", name := "doubleToLongBits", desc := "(D)J" } : Jvm.MethodName) jdk_117_method_23_code (2 : Nat) (Option.some Jvm.ClassFile.FieldType.long), Jvm.Cond.code ({ cls := "java/lang/Double", name := "isNaN", desc := "(D)Z" } : Jvm.MethodName) jdk_117_method_6_code (2 : Nat) (Option.some Jvm.ClassFile.FieldType.boolean), Jvm.Cond.code ({ cls := "com/example/branchwise/branchwise/dd/DiagramManager", name := "findOrAdd", desc := "(IIID)I" } : Jvm.MethodName) prog_11_method_42_code (12 : Nat) (Option.some Jvm.ClassFile.FieldType.int), Jvm.Cond.code ({ cls := "com/example/branchwise/branchwise/dd/DiagramManager", name := "hash", desc := "(IIIJ)I" } : Jvm.MethodName) prog_11_method_49_code (7 : Nat) (Option.some Jvm.ClassFile.FieldType.int), Jvm.Cond.code ({ cls := "com/example/branchwise/branchwise/dd/DiagramManager", name := "addNode", desc := "(IIID)I" } : Jvm.MethodName) prog_11_method_43_code (8 : Nat) (Option.some Jvm.ClassFile.FieldType.int), Jvm.Cond.code ({ cls := "com/example/branchwise/branchwise/dd/DiagramManager", name := "insert", desc := "(I)V" } : Jvm.MethodName) prog_11_method_45_code (4 : Nat) (Option.none : Option Jvm.ClassFile.FieldType), Jvm.Cond.code ({ cls := "com/example/branchwise/branchwise/dd/DiagramManager", name := "range", desc := "(DD)I" } : Jvm.MethodName) prog_11_method_4_code (5 : Nat) (Option.some Jvm.ClassFile.FieldType.int), Jvm.Cond.code ({ cls := "com/example/branchwise/branchwise/dd/DiagramManager", name := "indicator", desc := "(I)I" } : Jvm.MethodName) prog_11_method_5_code (2 : Nat) (Option.some Jvm.ClassFile.FieldType.int), Jvm.Cond.code ({ cls := "com/example/branchwise/branchwise/dd/DiagramManager", name := "checkVariable", desc := "(I)V" } : Jvm.MethodName) prog_11_method_47_code (1 : Nat) (Option.none : Option Jvm.ClassFile.FieldType), Jvm.Cond.code ({ cls := "com/example/branchwise/branchwise/dd/DiagramManager", name := "node", desc := "(III)I" } : Jvm.MethodName) prog_11_method_41_code (4 : Nat) (Option.some Jvm.ClassFile.FieldType.int), Jvm.Cond.code ({ cls := "com/example/branchwise/branchwise/dd/DiagramManager", name := "isLeaf", desc := "(I)Z" } : Jvm.MethodName) prog_11_method_30_code (2 : Nat) (Option.some Jvm.ClassFile.FieldType.boolean), Jvm.Cond.code ({ cls := "com/example/branchwise/branchwise/dd/DiagramManager", name := "highOf", desc := "(I)I" } : Jvm.MethodName) prog_11_method_32_code (2 : Nat) (Option.some Jvm.ClassFile.FieldType.int), Jvm.Cond.code ({ cls := "com/example/branchwise/branchwise/dd/DiagramManager", name := "lowOf", desc := "(I)I" } : Jvm.MethodName) prog_11_method_33_code (2 : Nat) (Option.some Jvm.ClassFile.FieldType.int)]
set_option maxRecDepth 65536 in
theorem codes_eq : words1.filter isCode = codes1 := rfl
theorem w_codes : ∀ c ∈ words1.filter isCode, c.before args0 about1 = true := by
  rw [codes_eq]
  intro c hc
  simp only [codes1, List.mem_cons, List.not_mem_nil, or_false] at hc
  rcases hc with rfl | rfl | rfl | rfl | rfl | rfl | rfl | rfl | rfl | rfl | rfl | rfl | rfl | rfl | rfl | rfl | rfl | rfl | rfl | rfl | rfl | rfl | rfl | rfl | rfl | rfl
  · exact w_c0
  · exact w_c1
  · exact w_c2
  · exact w_c3
  · exact w_c4
  · exact w_c5
  · exact w_c6
  · exact w_c7
  · exact w_c8
  · exact w_c9
  · exact w_c10
  · exact w_c11
  · exact w_c12
  · exact w_c13
  · exact w_c14
  · exact w_c15
  · exact w_c16
  · exact w_c17
  · exact w_c18
  · exact w_c19
  · exact w_c20
  · exact w_c21
  · exact w_c22
  · exact w_c23
  · exact w_c24
  · exact w_c25
set_option maxRecDepth 65536 in
theorem w_t1 : (words1.take 24).all (fun c => isCode c || c.before args0 about1) = true := by decide +kernel
set_option maxRecDepth 65536 in
theorem w_t2 : ((words1.drop 24).take 24).all (fun c => isCode c || c.before args0 about1) = true := by decide +kernel
set_option maxRecDepth 65536 in
theorem w_t3 : (((words1.drop 24).drop 24).take 24).all (fun c => isCode c || c.before args0 about1) = true := by decide +kernel
set_option maxRecDepth 65536 in
theorem w_t4 : ((((words1.drop 24).drop 24).drop 24).take 24).all (fun c => isCode c || c.before args0 about1) = true := by decide +kernel
set_option maxRecDepth 65536 in
theorem w_t5 : (((((words1.drop 24).drop 24).drop 24).drop 24).take 24).all (fun c => isCode c || c.before args0 about1) = true := by decide +kernel
set_option maxRecDepth 65536 in
theorem w_t6 : ((((((words1.drop 24).drop 24).drop 24).drop 24).drop 24).take 24).all (fun c => isCode c || c.before args0 about1) = true := by decide +kernel
set_option maxRecDepth 65536 in
theorem w_t7 : ((((((words1.drop 24).drop 24).drop 24).drop 24).drop 24).drop 24).all (fun c => isCode c || c.before args0 about1) = true := by decide +kernel
theorem w_tables : (allAtoms (Jvm.Cond.code x code maxLocals ret :: tables_1)).before args0 about1 = true := by
  rw [allAtoms_all]
  show words1.all (fun c => c.before args0 about1) = true
  refine all_split ?_ w_codes
  rw [← List.take_append_drop 24 words1, List.all_append, w_t1, ← List.take_append_drop 24 (words1.drop 24), List.all_append, w_t2, ← List.take_append_drop 24 ((words1.drop 24).drop 24), List.all_append, w_t3, ← List.take_append_drop 24 (((words1.drop 24).drop 24).drop 24), List.all_append, w_t4, ← List.take_append_drop 24 ((((words1.drop 24).drop 24).drop 24).drop 24), List.all_append, w_t5, ← List.take_append_drop 24 (((((words1.drop 24).drop 24).drop 24).drop 24).drop 24), List.all_append, w_t6, w_t7]
  rfl
set_option maxRecDepth 65536 in
theorem w_case : (Jvm.Cond.and given_1 narrow_1).before args0 about1 = true := by decide +kernel
theorem w_applies : (headSpec (Jvm.Cond.code x code maxLocals ret :: tables_1) room_1).applies x e0.platform about1 = true :=
  (Spec.applies_iff w_frames).mpr ⟨w_running, w_runnable, w_alone, w_named, w_hears, w_ripe, w_room, w_tables⟩
theorem atStart : AtStart classFile x code maxLocals ret World_1 tables_1 room_1 Calls_1 rest_1 Pre_1 launch0 p0 e0 about1 theMethod args0 below0 :=
  ⟨lists_1, trivial, launch0.admits_env _ _ _, launch0.least_env, fairChoices_fair.cas, fairChoices_fair.clock, w_frames, w_args, w_heap, w_applies, trivial, trivial, w_case⟩
end start1
theorem witness_1 : WitnessClaimed_1 := ⟨start1.p0, start1.e0, start1.about1, start1.theMethod, start1.args0, start1.below0, start1.atStart⟩
end Jvm.Pilot.@@N@@
