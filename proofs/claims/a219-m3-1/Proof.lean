import JvmDerived
import JvmDerived.Pilot.@@N@@Statement
import JvmDerived.Pilot.@@N@@Code
set_option linter.unusedVariables false
set_option linter.unusedSimpArgs false
@@BLOCK:NumsL.lean.txt@@
namespace Jvm.Pilot.@@N@@
open Jvm Jvm.ClassFile Sem Op Lib Jvm.Free Jvm.Stand Jvm.LawKit Jvm.RoadKit Bundle Jvm.Pilot.@@N@@.Jvm.D
section Own
variable {p : Program} {l : Launch} {e : Env} {R : Room} {s : State} {m : MethodId} {args : Array Value} {below : List Frame} {meth : Method} {c : Code} {own nm : String} {bytes : ByteArray} {ml : Nat} {ret : Option FieldType} {T : State} {locs : List Loc} {cells slots : Nat} {Z : State} {a0 : Array Value} {h : Heap} {n0 : Nat} {K : State → Outcome → Prop} {pc pc' pt : Nat} {L L' : Array Slot} {S : List Value}
/-- what is left of a run, from a state on -/
def Go (p : Program) (e : Env) (below : List Frame) (K : State → Outcome → Prop) (U : State) : Prop := ∃ s₂ o, Steps p.tables e below U s₂ ∧ s₂.status = .running ∧ Ended s₂ below o ∧ K s₂ o
theorem Go.of {U U' : State} (g : Go p e below K U') (st : ∀ t, Steps p.tables e below U' t → Steps p.tables e below U t) : Go p e below K U := by
  obtain ⟨s₂, o, h1, h2⟩ := g; exact ⟨s₂, o, st _ h1, h2⟩
/-- where a walk stands -/
def St (Z : State) (n0 : Nat) (p : Program) (l : Launch) (e : Env) (R : Room) (s : State) (m : MethodId) (args : Array Value) (below : List Frame) (meth : Method) (c : Code) (own nm : String) (bytes : ByteArray) (ml : Nat) (ret : Option FieldType) (T : State) (locs : List Loc) (cells slots : Nat) (h : Heap) : Prop :=
  Stand p l e R s m args below meth c T locs cells slots ∧ (p.tables.exec = Jvm.exec ∧ c.code = bytes ∧ c.maxLocals = ml ∧ s.vm.findClass own = some m.cls ∧ Z.Warmed39 s.vm ∧ meth.sig.returnType = ret ∧ meth.locks = false ∧ meth.name = nm) ∧ T.heap = h ∧ Fr n0 locs ∧ Old Z n0 h
theorem St.X (X : St Z n0 p l e R s m args below meth c own nm bytes ml ret T locs cells slots h) : Stand p l e R s m args below meth c T locs cells slots := X.1
theorem St.hx (X : St Z n0 p l e R s m args below meth c own nm bytes ml ret T locs cells slots h) : p.tables.exec = Jvm.exec := X.2.1.1
theorem St.by_ (X : St Z n0 p l e R s m args below meth c own nm bytes ml ret T locs cells slots h) : c.code = bytes := X.2.1.2.1
theorem St.ml_ (X : St Z n0 p l e R s m args below meth c own nm bytes ml ret T locs cells slots h) : c.maxLocals = ml := X.2.1.2.2.1
theorem St.own_ (X : St Z n0 p l e R s m args below meth c own nm bytes ml ret T locs cells slots h) : s.vm.findClass own = some m.cls := X.2.1.2.2.2.1
theorem St.hZ (X : St Z n0 p l e R s m args below meth c own nm bytes ml ret T locs cells slots h) : Z.Warmed39 s.vm := X.2.1.2.2.2.2.1
theorem St.ret_ (X : St Z n0 p l e R s m args below meth c own nm bytes ml ret T locs cells slots h) : meth.sig.returnType = ret := X.2.1.2.2.2.2.2.1
theorem St.lk (X : St Z n0 p l e R s m args below meth c own nm bytes ml ret T locs cells slots h) : meth.locks = false := X.2.1.2.2.2.2.2.2.1
theorem St.nm_ (X : St Z n0 p l e R s m args below meth c own nm bytes ml ret T locs cells slots h) : meth.name = nm := X.2.1.2.2.2.2.2.2.2
theorem St.eT (X : St Z n0 p l e R s m args below meth c own nm bytes ml ret T locs cells slots h) : T.heap = h := X.2.2.1
theorem St.fr (X : St Z n0 p l e R s m args below meth c own nm bytes ml ret T locs cells slots h) : Fr n0 locs := X.2.2.2.1
theorem St.old (X : St Z n0 p l e R s m args below meth c own nm bytes ml ret T locs cells slots h) : Old Z n0 h := X.2.2.2.2
theorem St.sz (X : St Z n0 p l e R s m args below meth c own nm bytes ml ret T locs cells slots h) : n0 ≤ h.size := X.2.2.2.2.1 ▸ X.2.2.2.2.2.1
theorem St.to (X : St Z n0 p l e R s m args below meth c own nm bytes ml ret T locs cells slots h) {T' : State} {locs' : List Loc} {cells' slots' : Nat} {h' : Heap} (Y : Stand p l e R s m args below meth c T' locs' cells' slots') (e' : T'.heap = h') (N : Fr n0 locs') (z : Old Z n0 h') : St Z n0 p l e R s m args below meth c own nm bytes ml ret T' locs' cells' slots' h' := ⟨Y, X.2.1, e', N, z⟩
theorem St.more (X : St Z n0 p l e R s m args below meth c own nm bytes ml ret T locs cells slots h) {c' n' : Nat} (q1 : cells ≤ c') (q2 : slots ≤ n') : St Z n0 p l e R s m args below meth c own nm bytes ml ret T locs c' n' h := ⟨X.X.mono q1 q2, X.2⟩
theorem St.d (X : St Z n0 p l e R s m args below meth c own nm bytes ml ret T locs cells slots h) {r : Except DecodeError (Instr × Nat)} (hd : decode bytes pc = r) : decode c.code pc = r := hb X.by_ hd
/-- a body's contract -/
def Con (l : Launch) (Z : State) (y : MethodName) (bytes : ByteArray) (ml : Nat) (ret : Option FieldType) (ws : List Jvm.Cond) (rm : Room) (C N : Nat) (as' : Array Value) (h : Heap) (Q : Option Value → Heap → List Loc → Prop) : Prop :=
  MetFree l y (head1 (Jvm.Cond.code y bytes ml ret :: ws) rm) (fun a U => a = as' ∧ Z.Warmed39 U.vm ∧ U.heap = h) (fun _ _ _ _ _ => True) (fun _ U o U' => ∃ v L, o = .returned v ∧ Q v U'.heap L ∧ FrameEnd U o U' L C N)
def Kq (s : State) (C N : Nat) (Q : Option Value → Heap → List Loc → Prop) (t : State) (o : Outcome) : Prop := ∃ v L, o = .returned v ∧ Q v t.heap L ∧ FrameEnd s o t L C N
theorem Con.intro {y : MethodName} {ws : List Jvm.Cond} {rm : Room} {C N : Nat} {as' : Array Value} {Q : Option Value → Heap → List Loc → Prop} (hy : plainFor y = true) (ef : ∀ m, entryFrame m as' ml = mkF m 0 L []) (hz : Old Z n0 h)
    (body : ∀ p e s m below meth c T, s.heap = h → St Z n0 p l e rm s m as' below meth c y.cls y.name bytes ml ret T [] 0 0 h → Go p e below (Kq s C N Q) (T.setTop (mkF m 0 L []))) : Con l Z y bytes ml ret ws rm C N as' h Q := by
  refine MetFree.of_bodySF hy hisR ?_
  intro p e s m args below meth c s₁ Bd hml0 hP hK
  obtain ⟨rfl, hZ, hh⟩ := hP
  have e0 : s₁.heap = h := by rw [← hh, Bd.state]; rfl
  obtain ⟨s₂, o, h1, h2, h3, h4⟩ := body p e s m below meth c s₁ hh ⟨Stand.of_body Bd, ⟨Bd.exec, Bd.bytes, hml0, findClass_of_methodNamed Bd.named, hZ, Bd.returns, Bd.notSynchronized, (name_of_methodNamed Bd.named Bd.method).1⟩, e0, Fr.nil n0, hz⟩
  exact ⟨s₂, o, castTop (ef m) h1, h2, h3, h4⟩
theorem go_eq {f g : JFrame} (q : f = g) (k : Go p e below K (T.setTop g)) : Go p e below K (T.setTop f) := q ▸ k
theorem g_iloadN (X : St Z n0 p l e R s m args below meth c own nm bytes ml ret T locs cells slots h) {k : Fin 4} {v : Int32} (hd : decode bytes pc = .ok (.iload_n k, 1)) (hp : pc + 1 = pc') (hl : L[k.val]? = some (.val (.int v))) (k : Go p e below K (T.setTop (mkF m pc' L (.int v :: S)))) : Go p e below K (T.setTop (mkF m pc L S)) := by
  subst hp; exact k.of (fun _ q => XS.iloadN X.X.here X.hx rfl (X.d hd) hl q)
theorem g_iload (X : St Z n0 p l e R s m args below meth c own nm bytes ml ret T locs cells slots h) {k : Nat} {v : Int32} (hd : decode bytes pc = .ok (.iload k, 2)) (hp : pc + 2 = pc') (hl : L[k]? = some (.val (.int v))) (k : Go p e below K (T.setTop (mkF m pc' L (.int v :: S)))) : Go p e below K (T.setTop (mkF m pc L S)) := by
  subst hp; exact k.of (fun _ q => XS.iload X.X.here X.hx rfl (X.d hd) hl q)
theorem g_lloadN (X : St Z n0 p l e R s m args below meth c own nm bytes ml ret T locs cells slots h) {k : Fin 4} {v : Int64} (hd : decode bytes pc = .ok (.lload_n k, 1)) (hp : pc + 1 = pc') (hl : L[k.val]? = some (.val (.long v))) (k : Go p e below K (T.setTop (mkF m pc' L (.long v :: S)))) : Go p e below K (T.setTop (mkF m pc L S)) := by
  subst hp; exact k.of (fun _ q => XS.lloadN X.X.here X.hx rfl (X.d hd) hl q)
theorem g_lload (X : St Z n0 p l e R s m args below meth c own nm bytes ml ret T locs cells slots h) {k : Nat} {v : Int64} (hd : decode bytes pc = .ok (.lload k, 2)) (hp : pc + 2 = pc') (hl : L[k]? = some (.val (.long v))) (k : Go p e below K (T.setTop (mkF m pc' L (.long v :: S)))) : Go p e below K (T.setTop (mkF m pc L S)) := by
  subst hp; exact k.of (fun _ q => XS.lload X.X.here X.hx rfl (X.d hd) hl q)
theorem g_aloadN (X : St Z n0 p l e R s m args below meth c own nm bytes ml ret T locs cells slots h) {k : Fin 4} {v : Value} (hd : decode bytes pc = .ok (.aload_n k, 1)) (hp : pc + 1 = pc') (hl : L[k.val]? = some (.val v)) (hv : v.isRef = true) (k : Go p e below K (T.setTop (mkF m pc' L (v :: S)))) : Go p e below K (T.setTop (mkF m pc L S)) := by
  subst hp; exact k.of (fun _ q => XS.aloadN X.X.here X.hx rfl (X.d hd) hl hv q)
theorem g_aload (X : St Z n0 p l e R s m args below meth c own nm bytes ml ret T locs cells slots h) {k : Nat} {v : Value} (hd : decode bytes pc = .ok (.aload k, 2)) (hp : pc + 2 = pc') (hl : L[k]? = some (.val v)) (hv : v.isRef = true) (k : Go p e below K (T.setTop (mkF m pc' L (v :: S)))) : Go p e below K (T.setTop (mkF m pc L S)) := by
  subst hp; exact k.of (fun _ q => XS.aload X.X.here X.hx rfl (X.d hd) hl hv q)
theorem g_istoreN (X : St Z n0 p l e R s m args below meth c own nm bytes ml ret T locs cells slots h) {k : Fin 4} {v : Int32} (hd : decode bytes pc = .ok (.istore_n k, 1)) (hp : pc + 1 = pc') (hl : storeLocals L k.val (.int v) = some L') (k : Go p e below K (T.setTop (mkF m pc' L' S))) : Go p e below K (T.setTop (mkF m pc L (.int v :: S))) := by
  subst hp; exact k.of (fun _ q => XS.istoreN X.X.here X.hx rfl (X.d hd) rfl hl q)
theorem g_istore (X : St Z n0 p l e R s m args below meth c own nm bytes ml ret T locs cells slots h) {k : Nat} {v : Int32} (hd : decode bytes pc = .ok (.istore k, 2)) (hp : pc + 2 = pc') (hl : storeLocals L k (.int v) = some L') (k : Go p e below K (T.setTop (mkF m pc' L' S))) : Go p e below K (T.setTop (mkF m pc L (.int v :: S))) := by
  subst hp; exact k.of (fun _ q => XS.istore X.X.here X.hx rfl (X.d hd) rfl hl q)
theorem g_lstoreN (X : St Z n0 p l e R s m args below meth c own nm bytes ml ret T locs cells slots h) {k : Fin 4} {v : Int64} (hd : decode bytes pc = .ok (.lstore_n k, 1)) (hp : pc + 1 = pc') (hl : storeLocals L k.val (.long v) = some L') (k : Go p e below K (T.setTop (mkF m pc' L' S))) : Go p e below K (T.setTop (mkF m pc L (.long v :: S))) := by
  subst hp; exact k.of (fun _ q => XS.lstoreN X.X.here X.hx rfl (X.d hd) rfl hl q)
theorem g_lstore (X : St Z n0 p l e R s m args below meth c own nm bytes ml ret T locs cells slots h) {k : Nat} {v : Int64} (hd : decode bytes pc = .ok (.lstore k, 2)) (hp : pc + 2 = pc') (hl : storeLocals L k (.long v) = some L') (k : Go p e below K (T.setTop (mkF m pc' L' S))) : Go p e below K (T.setTop (mkF m pc L (.long v :: S))) := by
  subst hp; exact k.of (fun _ q => XS.lstore X.X.here X.hx rfl (X.d hd) rfl hl q)
theorem g_astoreN (X : St Z n0 p l e R s m args below meth c own nm bytes ml ret T locs cells slots h) {k : Fin 4} {v : Value} (hd : decode bytes pc = .ok (.astore_n k, 1)) (hp : pc + 1 = pc') (hv : v.isRef = true) (hl : storeLocals L k.val v = some L') (k : Go p e below K (T.setTop (mkF m pc' L' S))) : Go p e below K (T.setTop (mkF m pc L (v :: S))) := by
  subst hp; exact k.of (fun _ q => XS.astoreN X.X.here X.hx rfl (X.d hd) rfl hv hl q)
theorem g_astore (X : St Z n0 p l e R s m args below meth c own nm bytes ml ret T locs cells slots h) {k : Nat} {v : Value} (hd : decode bytes pc = .ok (.astore k, 2)) (hp : pc + 2 = pc') (hv : v.isRef = true) (hl : storeLocals L k v = some L') (k : Go p e below K (T.setTop (mkF m pc' L' S))) : Go p e below K (T.setTop (mkF m pc L (v :: S))) := by
  subst hp; exact k.of (fun _ q => XS.astore X.X.here X.hx rfl (X.d hd) rfl hv hl q)
theorem g_iinc (X : St Z n0 p l e R s m args below meth c own nm bytes ml ret T locs cells slots h) {k : Nat} {z : Int} {v : Int32} (hd : decode bytes pc = .ok (.iinc k z, 3)) (hp : pc + 3 = pc') (hl : L[k]? = some (.val (.int v))) (hl' : storeLocals L k (.int (v + Int32.ofInt z)) = some L') (k : Go p e below K (T.setTop (mkF m pc' L' S))) : Go p e below K (T.setTop (mkF m pc L S)) := by
  subst hp; exact k.of (fun _ q => XS.iinc X.X.here X.hx rfl (X.d hd) hl hl' q)
theorem g_iconst (X : St Z n0 p l e R s m args below meth c own nm bytes ml ret T locs cells slots h) {i : Int} {v : Int32} (hd : decode bytes pc = .ok (.iconst i, 1)) (hp : pc + 1 = pc') (hv : Int32.ofInt i = v) (k : Go p e below K (T.setTop (mkF m pc' L (.int v :: S)))) : Go p e below K (T.setTop (mkF m pc L S)) := by
  subst hp; exact k.of (fun _ q => XS.iconst X.X.here X.hx rfl (X.d hd) (hv ▸ q))
theorem g_bipush (X : St Z n0 p l e R s m args below meth c own nm bytes ml ret T locs cells slots h) {i : Int} {v : Int32} (hd : decode bytes pc = .ok (.bipush i, 2)) (hp : pc + 2 = pc') (hv : (Int8.ofInt i).toInt32 = v) (k : Go p e below K (T.setTop (mkF m pc' L (.int v :: S)))) : Go p e below K (T.setTop (mkF m pc L S)) := by
  subst hp; exact k.of (fun _ q => XS.bipush X.X.here X.hx rfl (X.d hd) (hv ▸ q))
theorem g_sipush (X : St Z n0 p l e R s m args below meth c own nm bytes ml ret T locs cells slots h) {i : Int} {v : Int32} (hd : decode bytes pc = .ok (.sipush i, 3)) (hp : pc + 3 = pc') (hv : (Int16.ofInt i).toInt32 = v) (k : Go p e below K (T.setTop (mkF m pc' L (.int v :: S)))) : Go p e below K (T.setTop (mkF m pc L S)) := by
  subst hp; exact k.of (fun _ q => XS.sipush X.X.here X.hx rfl (X.d hd) (hv ▸ q))
theorem g_lconst (X : St Z n0 p l e R s m args below meth c own nm bytes ml ret T locs cells slots h) {i : Fin 2} {v : Int64} (hd : decode bytes pc = .ok (.lconst i, 1)) (hp : pc + 1 = pc') (hv : Int64.ofNat i = v) (k : Go p e below K (T.setTop (mkF m pc' L (.long v :: S)))) : Go p e below K (T.setTop (mkF m pc L S)) := by
  subst hp; exact k.of (fun _ q => XS.lconst X.X.here X.hx rfl (X.d hd) (hv ▸ q))
theorem g_aconst_null (X : St Z n0 p l e R s m args below meth c own nm bytes ml ret T locs cells slots h) (hd : decode bytes pc = .ok (.aconst_null, 1)) (hp : pc + 1 = pc') (k : Go p e below K (T.setTop (mkF m pc' L (.null :: S)))) : Go p e below K (T.setTop (mkF m pc L S)) := by
  subst hp; exact k.of (fun _ q => XS.aconstNull X.X.here X.hx rfl (X.d hd) q)
theorem g_iadd (X : St Z n0 p l e R s m args below meth c own nm bytes ml ret T locs cells slots h) {x y : Int32} (hd : decode bytes pc = .ok (.iadd, 1)) (hp : pc + 1 = pc') (k : Go p e below K (T.setTop (mkF m pc' L (.int (x + y) :: S)))) : Go p e below K (T.setTop (mkF m pc L (.int y :: .int x :: S))) := by
  subst hp; exact k.of (fun _ q => XS.iadd X.X.here X.hx rfl (X.d hd) rfl q)
theorem g_isub (X : St Z n0 p l e R s m args below meth c own nm bytes ml ret T locs cells slots h) {x y : Int32} (hd : decode bytes pc = .ok (.isub, 1)) (hp : pc + 1 = pc') (k : Go p e below K (T.setTop (mkF m pc' L (.int (x - y) :: S)))) : Go p e below K (T.setTop (mkF m pc L (.int y :: .int x :: S))) := by
  subst hp; exact k.of (fun _ q => XS.isub X.X.here X.hx rfl (X.d hd) rfl q)
theorem g_imul (X : St Z n0 p l e R s m args below meth c own nm bytes ml ret T locs cells slots h) {x y : Int32} (hd : decode bytes pc = .ok (.imul, 1)) (hp : pc + 1 = pc') (k : Go p e below K (T.setTop (mkF m pc' L (.int (x * y) :: S)))) : Go p e below K (T.setTop (mkF m pc L (.int y :: .int x :: S))) := by
  subst hp; exact k.of (fun _ q => XS.imul X.X.here X.hx rfl (X.d hd) rfl q)
theorem g_iand (X : St Z n0 p l e R s m args below meth c own nm bytes ml ret T locs cells slots h) {x y : Int32} (hd : decode bytes pc = .ok (.iand, 1)) (hp : pc + 1 = pc') (k : Go p e below K (T.setTop (mkF m pc' L (.int (x &&& y) :: S)))) : Go p e below K (T.setTop (mkF m pc L (.int y :: .int x :: S))) := by
  subst hp; exact k.of (fun _ q => XS.iand X.X.here X.hx rfl (X.d hd) rfl q)
theorem g_ior (X : St Z n0 p l e R s m args below meth c own nm bytes ml ret T locs cells slots h) {x y : Int32} (hd : decode bytes pc = .ok (.ior, 1)) (hp : pc + 1 = pc') (k : Go p e below K (T.setTop (mkF m pc' L (.int (x ||| y) :: S)))) : Go p e below K (T.setTop (mkF m pc L (.int y :: .int x :: S))) := by
  subst hp; exact k.of (fun _ q => XS.ior X.X.here X.hx rfl (X.d hd) rfl q)
theorem g_ixor (X : St Z n0 p l e R s m args below meth c own nm bytes ml ret T locs cells slots h) {x y : Int32} (hd : decode bytes pc = .ok (.ixor, 1)) (hp : pc + 1 = pc') (k : Go p e below K (T.setTop (mkF m pc' L (.int (x ^^^ y) :: S)))) : Go p e below K (T.setTop (mkF m pc L (.int y :: .int x :: S))) := by
  subst hp; exact k.of (fun _ q => XS.ixor X.X.here X.hx rfl (X.d hd) rfl q)
theorem g_ishl (X : St Z n0 p l e R s m args below meth c own nm bytes ml ret T locs cells slots h) {x y : Int32} (hd : decode bytes pc = .ok (.ishl, 1)) (hp : pc + 1 = pc') (k : Go p e below K (T.setTop (mkF m pc' L (.int (x <<< (y &&& 31)) :: S)))) : Go p e below K (T.setTop (mkF m pc L (.int y :: .int x :: S))) := by
  subst hp; exact k.of (fun _ q => XS.ishl X.X.here X.hx rfl (X.d hd) rfl q)
theorem g_ishr (X : St Z n0 p l e R s m args below meth c own nm bytes ml ret T locs cells slots h) {x y : Int32} (hd : decode bytes pc = .ok (.ishr, 1)) (hp : pc + 1 = pc') (k : Go p e below K (T.setTop (mkF m pc' L (.int (x >>> (y &&& 31)) :: S)))) : Go p e below K (T.setTop (mkF m pc L (.int y :: .int x :: S))) := by
  subst hp; exact k.of (fun _ q => XS.ishr X.X.here X.hx rfl (X.d hd) rfl q)
theorem g_iushr (X : St Z n0 p l e R s m args below meth c own nm bytes ml ret T locs cells slots h) {x y : Int32} (hd : decode bytes pc = .ok (.iushr, 1)) (hp : pc + 1 = pc') (k : Go p e below K (T.setTop (mkF m pc' L (.int ((x.toUInt32 >>> (y &&& 31).toUInt32).toInt32) :: S)))) : Go p e below K (T.setTop (mkF m pc L (.int y :: .int x :: S))) := by
  subst hp; exact k.of (fun _ q => XS.iushr X.X.here X.hx rfl (X.d hd) rfl q)
theorem g_idiv (X : St Z n0 p l e R s m args below meth c own nm bytes ml ret T locs cells slots h) {x y : Int32} (hd : decode bytes pc = .ok (.idiv, 1)) (hp : pc + 1 = pc') (hy : y ≠ 0) (k : Go p e below K (T.setTop (mkF m pc' L (.int (x / y) :: S)))) : Go p e below K (T.setTop (mkF m pc L (.int y :: .int x :: S))) := by
  subst hp; exact k.of (fun _ q => XS.idiv X.X.here X.hx rfl (X.d hd) rfl hy q)
theorem g_irem (X : St Z n0 p l e R s m args below meth c own nm bytes ml ret T locs cells slots h) {x y : Int32} (hd : decode bytes pc = .ok (.irem, 1)) (hp : pc + 1 = pc') (hy : y ≠ 0) (k : Go p e below K (T.setTop (mkF m pc' L (.int (x % y) :: S)))) : Go p e below K (T.setTop (mkF m pc L (.int y :: .int x :: S))) := by
  subst hp; exact k.of (fun _ q => iremM X.X X.hx rfl (X.d hd) rfl hy q)
theorem g_ladd (X : St Z n0 p l e R s m args below meth c own nm bytes ml ret T locs cells slots h) {x y : Int64} (hd : decode bytes pc = .ok (.ladd, 1)) (hp : pc + 1 = pc') (k : Go p e below K (T.setTop (mkF m pc' L (.long (x + y) :: S)))) : Go p e below K (T.setTop (mkF m pc L (.long y :: .long x :: S))) := by
  subst hp; exact k.of (fun _ q => XS.ladd X.X.here X.hx rfl (X.d hd) rfl q)
theorem g_lsub (X : St Z n0 p l e R s m args below meth c own nm bytes ml ret T locs cells slots h) {x y : Int64} (hd : decode bytes pc = .ok (.lsub, 1)) (hp : pc + 1 = pc') (k : Go p e below K (T.setTop (mkF m pc' L (.long (x - y) :: S)))) : Go p e below K (T.setTop (mkF m pc L (.long y :: .long x :: S))) := by
  subst hp; exact k.of (fun _ q => XS.lsub X.X.here X.hx rfl (X.d hd) rfl q)
theorem g_lmul (X : St Z n0 p l e R s m args below meth c own nm bytes ml ret T locs cells slots h) {x y : Int64} (hd : decode bytes pc = .ok (.lmul, 1)) (hp : pc + 1 = pc') (k : Go p e below K (T.setTop (mkF m pc' L (.long (x * y) :: S)))) : Go p e below K (T.setTop (mkF m pc L (.long y :: .long x :: S))) := by
  subst hp; exact k.of (fun _ q => XS.lmul X.X.here X.hx rfl (X.d hd) rfl q)
theorem g_land (X : St Z n0 p l e R s m args below meth c own nm bytes ml ret T locs cells slots h) {x y : Int64} (hd : decode bytes pc = .ok (.land, 1)) (hp : pc + 1 = pc') (k : Go p e below K (T.setTop (mkF m pc' L (.long (x &&& y) :: S)))) : Go p e below K (T.setTop (mkF m pc L (.long y :: .long x :: S))) := by
  subst hp; exact k.of (fun _ q => XS.land X.X.here X.hx rfl (X.d hd) rfl q)
theorem g_lor (X : St Z n0 p l e R s m args below meth c own nm bytes ml ret T locs cells slots h) {x y : Int64} (hd : decode bytes pc = .ok (.lor, 1)) (hp : pc + 1 = pc') (k : Go p e below K (T.setTop (mkF m pc' L (.long (x ||| y) :: S)))) : Go p e below K (T.setTop (mkF m pc L (.long y :: .long x :: S))) := by
  subst hp; exact k.of (fun _ q => XS.lor X.X.here X.hx rfl (X.d hd) rfl q)
theorem g_lxor (X : St Z n0 p l e R s m args below meth c own nm bytes ml ret T locs cells slots h) {x y : Int64} (hd : decode bytes pc = .ok (.lxor, 1)) (hp : pc + 1 = pc') (k : Go p e below K (T.setTop (mkF m pc' L (.long (x ^^^ y) :: S)))) : Go p e below K (T.setTop (mkF m pc L (.long y :: .long x :: S))) := by
  subst hp; exact k.of (fun _ q => XS.lxor X.X.here X.hx rfl (X.d hd) rfl q)
theorem g_ldiv (X : St Z n0 p l e R s m args below meth c own nm bytes ml ret T locs cells slots h) {x y : Int64} (hd : decode bytes pc = .ok (.ldiv, 1)) (hp : pc + 1 = pc') (hy : y ≠ 0) (k : Go p e below K (T.setTop (mkF m pc' L (.long (x / y) :: S)))) : Go p e below K (T.setTop (mkF m pc L (.long y :: .long x :: S))) := by
  subst hp; exact k.of (fun _ q => XS.ldiv X.X.here X.hx rfl (X.d hd) rfl hy q)
theorem g_lrem (X : St Z n0 p l e R s m args below meth c own nm bytes ml ret T locs cells slots h) {x y : Int64} (hd : decode bytes pc = .ok (.lrem, 1)) (hp : pc + 1 = pc') (hy : y ≠ 0) (k : Go p e below K (T.setTop (mkF m pc' L (.long (x - (x / y) * y) :: S)))) : Go p e below K (T.setTop (mkF m pc L (.long y :: .long x :: S))) := by
  subst hp; exact k.of (fun _ q => XS.lrem X.X.here X.hx rfl (X.d hd) rfl hy q)
theorem g_lshl (X : St Z n0 p l e R s m args below meth c own nm bytes ml ret T locs cells slots h) {x : Int64} {y : Int32} (hd : decode bytes pc = .ok (.lshl, 1)) (hp : pc + 1 = pc') (k : Go p e below K (T.setTop (mkF m pc' L (.long (x <<< (y &&& 0x3f).toInt64) :: S)))) : Go p e below K (T.setTop (mkF m pc L (.int y :: .long x :: S))) := by
  subst hp; exact k.of (fun _ q => XS.lshl X.X.here X.hx rfl (X.d hd) rfl q)
theorem g_lshr (X : St Z n0 p l e R s m args below meth c own nm bytes ml ret T locs cells slots h) {x : Int64} {y : Int32} (hd : decode bytes pc = .ok (.lshr, 1)) (hp : pc + 1 = pc') (k : Go p e below K (T.setTop (mkF m pc' L (.long (x >>> (y &&& 0x3f).toInt64) :: S)))) : Go p e below K (T.setTop (mkF m pc L (.int y :: .long x :: S))) := by
  subst hp; exact k.of (fun _ q => XS.lshr X.X.here X.hx rfl (X.d hd) rfl q)
theorem g_lushr (X : St Z n0 p l e R s m args below meth c own nm bytes ml ret T locs cells slots h) {x : Int64} {y : Int32} (hd : decode bytes pc = .ok (.lushr, 1)) (hp : pc + 1 = pc') (k : Go p e below K (T.setTop (mkF m pc' L (.long ((x.toUInt64 >>> (y &&& 0x3f).toInt64.toUInt64).toInt64) :: S)))) : Go p e below K (T.setTop (mkF m pc L (.int y :: .long x :: S))) := by
  subst hp; exact k.of (fun _ q => XS.lushr X.X.here X.hx rfl (X.d hd) rfl q)
theorem g_i2b (X : St Z n0 p l e R s m args below meth c own nm bytes ml ret T locs cells slots h) {v : Int32} (hd : decode bytes pc = .ok (.i2b, 1)) (hp : pc + 1 = pc') (k : Go p e below K (T.setTop (mkF m pc' L (.int (v.toInt8.toInt32) :: S)))) : Go p e below K (T.setTop (mkF m pc L (.int v :: S))) := by
  subst hp; exact k.of (fun _ q => XS.i2b X.X.here X.hx rfl (X.d hd) rfl q)
theorem g_i2c (X : St Z n0 p l e R s m args below meth c own nm bytes ml ret T locs cells slots h) {v : Int32} (hd : decode bytes pc = .ok (.i2c, 1)) (hp : pc + 1 = pc') (k : Go p e below K (T.setTop (mkF m pc' L (.int (v.toUInt32.toUInt16.toUInt32.toInt32) :: S)))) : Go p e below K (T.setTop (mkF m pc L (.int v :: S))) := by
  subst hp; exact k.of (fun _ q => XS.i2c X.X.here X.hx rfl (X.d hd) rfl q)
theorem g_i2s (X : St Z n0 p l e R s m args below meth c own nm bytes ml ret T locs cells slots h) {v : Int32} (hd : decode bytes pc = .ok (.i2s, 1)) (hp : pc + 1 = pc') (k : Go p e below K (T.setTop (mkF m pc' L (.int (v.toInt16.toInt32) :: S)))) : Go p e below K (T.setTop (mkF m pc L (.int v :: S))) := by
  subst hp; exact k.of (fun _ q => XS.i2s X.X.here X.hx rfl (X.d hd) rfl q)
theorem g_ineg (X : St Z n0 p l e R s m args below meth c own nm bytes ml ret T locs cells slots h) {v : Int32} (hd : decode bytes pc = .ok (.ineg, 1)) (hp : pc + 1 = pc') (k : Go p e below K (T.setTop (mkF m pc' L (.int (-v) :: S)))) : Go p e below K (T.setTop (mkF m pc L (.int v :: S))) := by
  subst hp; exact k.of (fun _ q => XS.ineg X.X.here X.hx rfl (X.d hd) rfl q)
theorem g_i2l (X : St Z n0 p l e R s m args below meth c own nm bytes ml ret T locs cells slots h) {v : Int32} (hd : decode bytes pc = .ok (.i2l, 1)) (hp : pc + 1 = pc') (k : Go p e below K (T.setTop (mkF m pc' L (.long (v.toInt64) :: S)))) : Go p e below K (T.setTop (mkF m pc L (.int v :: S))) := by
  subst hp; exact k.of (fun _ q => XS.i2l X.X.here X.hx rfl (X.d hd) rfl q)
theorem g_l2i (X : St Z n0 p l e R s m args below meth c own nm bytes ml ret T locs cells slots h) {v : Int64} (hd : decode bytes pc = .ok (.l2i, 1)) (hp : pc + 1 = pc') (k : Go p e below K (T.setTop (mkF m pc' L (.int (v.toInt32) :: S)))) : Go p e below K (T.setTop (mkF m pc L (.long v :: S))) := by
  subst hp; exact k.of (fun _ q => XS.l2i X.X.here X.hx rfl (X.d hd) rfl q)
theorem g_lneg (X : St Z n0 p l e R s m args below meth c own nm bytes ml ret T locs cells slots h) {v : Int64} (hd : decode bytes pc = .ok (.lneg, 1)) (hp : pc + 1 = pc') (k : Go p e below K (T.setTop (mkF m pc' L (.long (-v) :: S)))) : Go p e below K (T.setTop (mkF m pc L (.long v :: S))) := by
  subst hp; exact k.of (fun _ q => XS.lneg X.X.here X.hx rfl (X.d hd) rfl q)
theorem g_lcmp (X : St Z n0 p l e R s m args below meth c own nm bytes ml ret T locs cells slots h) {x y : Int64} (hd : decode bytes pc = .ok (.lcmp, 1)) (hp : pc + 1 = pc') (k : Go p e below K (T.setTop (mkF m pc' L (.int (lcmpW x y) :: S)))) : Go p e below K (T.setTop (mkF m pc L (.long y :: .long x :: S))) := by
  subst hp; exact k.of (fun _ q => XS.lcmp X.X.here X.hx rfl (X.d hd) rfl q)
theorem g_dup (X : St Z n0 p l e R s m args below meth c own nm bytes ml ret T locs cells slots h) {v : Value} (hd : decode bytes pc = .ok (.dup, 1)) (hp : pc + 1 = pc') (hc : v.category = 1) (k : Go p e below K (T.setTop (mkF m pc' L (v :: v :: S)))) : Go p e below K (T.setTop (mkF m pc L (v :: S))) := by
  subst hp; exact k.of (fun _ q => XS.dup X.X.here X.hx rfl (X.d hd) rfl hc q)
theorem g_pop (X : St Z n0 p l e R s m args below meth c own nm bytes ml ret T locs cells slots h) {v : Value} (hd : decode bytes pc = .ok (.pop, 1)) (hp : pc + 1 = pc') (hc : v.category = 1) (k : Go p e below K (T.setTop (mkF m pc' L S))) : Go p e below K (T.setTop (mkF m pc L (v :: S))) := by
  subst hp; exact k.of (fun _ q => XS.pop X.X.here X.hx rfl (X.d hd) rfl hc q)
theorem g_dup_x1 (X : St Z n0 p l e R s m args below meth c own nm bytes ml ret T locs cells slots h) {v w : Value} (hd : decode bytes pc = .ok (.dup_x1, 1)) (hp : pc + 1 = pc') (hc : v.category = 1) (hc2 : w.category = 1) (k : Go p e below K (T.setTop (mkF m pc' L (v :: w :: v :: S)))) : Go p e below K (T.setTop (mkF m pc L (v :: w :: S))) := by
  subst hp; exact k.of (fun _ q => XS.dupX1 X.X.here X.hx rfl (X.d hd) rfl hc hc2 q)
theorem g_goto (X : St Z n0 p l e R s m args below meth c own nm bytes ml ret T locs cells slots h) {o : Int} (hd : decode bytes pc = .ok (.goto o, 3)) (ho : (pc : Int) + o = (pt : Int)) (k : Go p e below K (T.setTop (mkF m pt L S))) : Go p e below K (T.setTop (mkF m pc L S)) :=
  k.of (fun _ q => XS.goto X.X.here X.hx rfl rfl (X.d hd) (ho ▸ Int.natCast_nonneg _) (by rw [ho]; rfl) q)
theorem g_icmp_eq_t (X : St Z n0 p l e R s m args below meth c own nm bytes ml ret T locs cells slots h) {x y : Int32} {o : Int} (hd : decode bytes pc = .ok (.if_icmp .eq o, 3)) (ho : (pc : Int) + o = (pt : Int)) (hc : x = y) (k : Go p e below K (T.setTop (mkF m pt L S))) : Go p e below K (T.setTop (mkF m pc L (.int y :: .int x :: S))) :=
  k.of (fun _ q => XS.icmpYes X.X.here X.hx rfl rfl (X.d hd) rfl ((teq hc).1) (ho ▸ Int.natCast_nonneg _) (by rw [ho]; rfl) q)
theorem g_icmp_eq_f (X : St Z n0 p l e R s m args below meth c own nm bytes ml ret T locs cells slots h) {x y : Int32} {o : Int} (hd : decode bytes pc = .ok (.if_icmp .eq o, 3)) (hp : pc + 3 = pc') (hc : ¬ x = y) (k : Go p e below K (T.setTop (mkF m pc' L S))) : Go p e below K (T.setTop (mkF m pc L (.int y :: .int x :: S))) := by
  subst hp; exact k.of (fun _ q => XS.icmpNo X.X.here X.hx rfl (X.d hd) rfl ((feq hc).1) q)
theorem g_icmp_eq (X : St Z n0 p l e R s m args below meth c own nm bytes ml ret T locs cells slots h) {x y : Int32} {o : Int} (hd : decode bytes pc = .ok (.if_icmp .eq o, 3)) (ho : (pc : Int) + o = (pt : Int)) (hp : pc + 3 = pc') (yes : x = y → Go p e below K (T.setTop (mkF m pt L S))) (no : ¬ x = y → Go p e below K (T.setTop (mkF m pc' L S))) : Go p e below K (T.setTop (mkF m pc L (.int y :: .int x :: S))) := by
  by_cases hc : x = y
  · exact g_icmp_eq_t X hd ho hc (yes hc)
  · exact g_icmp_eq_f X hd hp hc (no hc)
theorem g_if_eq_t (X : St Z n0 p l e R s m args below meth c own nm bytes ml ret T locs cells slots h) {x : Int32} {o : Int} (hd : decode bytes pc = .ok (.ifCond .eq o, 3)) (ho : (pc : Int) + o = (pt : Int)) (hc : x = 0) (k : Go p e below K (T.setTop (mkF m pt L S))) : Go p e below K (T.setTop (mkF m pc L (.int x :: S))) :=
  k.of (fun _ q => XS.ifYes X.X.here X.hx rfl rfl (X.d hd) rfl ((if0 _ _).trans ((teq hc).1)) (ho ▸ Int.natCast_nonneg _) (by rw [ho]; rfl) q)
theorem g_if_eq_f (X : St Z n0 p l e R s m args below meth c own nm bytes ml ret T locs cells slots h) {x : Int32} {o : Int} (hd : decode bytes pc = .ok (.ifCond .eq o, 3)) (hp : pc + 3 = pc') (hc : ¬ x = 0) (k : Go p e below K (T.setTop (mkF m pc' L S))) : Go p e below K (T.setTop (mkF m pc L (.int x :: S))) := by
  subst hp; exact k.of (fun _ q => XS.ifNo X.X.here X.hx rfl (X.d hd) rfl ((if0 _ _).trans ((feq hc).1)) q)
theorem g_if_eq (X : St Z n0 p l e R s m args below meth c own nm bytes ml ret T locs cells slots h) {x : Int32} {o : Int} (hd : decode bytes pc = .ok (.ifCond .eq o, 3)) (ho : (pc : Int) + o = (pt : Int)) (hp : pc + 3 = pc') (yes : x = 0 → Go p e below K (T.setTop (mkF m pt L S))) (no : ¬ x = 0 → Go p e below K (T.setTop (mkF m pc' L S))) : Go p e below K (T.setTop (mkF m pc L (.int x :: S))) := by
  by_cases hc : x = 0
  · exact g_if_eq_t X hd ho hc (yes hc)
  · exact g_if_eq_f X hd hp hc (no hc)
theorem g_icmp_ne_t (X : St Z n0 p l e R s m args below meth c own nm bytes ml ret T locs cells slots h) {x y : Int32} {o : Int} (hd : decode bytes pc = .ok (.if_icmp .ne o, 3)) (ho : (pc : Int) + o = (pt : Int)) (hc : ¬ x = y) (k : Go p e below K (T.setTop (mkF m pt L S))) : Go p e below K (T.setTop (mkF m pc L (.int y :: .int x :: S))) :=
  k.of (fun _ q => XS.icmpYes X.X.here X.hx rfl rfl (X.d hd) rfl ((feq hc).2) (ho ▸ Int.natCast_nonneg _) (by rw [ho]; rfl) q)
theorem g_icmp_ne_f (X : St Z n0 p l e R s m args below meth c own nm bytes ml ret T locs cells slots h) {x y : Int32} {o : Int} (hd : decode bytes pc = .ok (.if_icmp .ne o, 3)) (hp : pc + 3 = pc') (hc : x = y) (k : Go p e below K (T.setTop (mkF m pc' L S))) : Go p e below K (T.setTop (mkF m pc L (.int y :: .int x :: S))) := by
  subst hp; exact k.of (fun _ q => XS.icmpNo X.X.here X.hx rfl (X.d hd) rfl ((teq hc).2) q)
theorem g_icmp_ne (X : St Z n0 p l e R s m args below meth c own nm bytes ml ret T locs cells slots h) {x y : Int32} {o : Int} (hd : decode bytes pc = .ok (.if_icmp .ne o, 3)) (ho : (pc : Int) + o = (pt : Int)) (hp : pc + 3 = pc') (yes : ¬ x = y → Go p e below K (T.setTop (mkF m pt L S))) (no : x = y → Go p e below K (T.setTop (mkF m pc' L S))) : Go p e below K (T.setTop (mkF m pc L (.int y :: .int x :: S))) := by
  by_cases hc : x = y
  · exact g_icmp_ne_f X hd hp hc (no hc)
  · exact g_icmp_ne_t X hd ho hc (yes hc)
theorem g_if_ne_t (X : St Z n0 p l e R s m args below meth c own nm bytes ml ret T locs cells slots h) {x : Int32} {o : Int} (hd : decode bytes pc = .ok (.ifCond .ne o, 3)) (ho : (pc : Int) + o = (pt : Int)) (hc : ¬ x = 0) (k : Go p e below K (T.setTop (mkF m pt L S))) : Go p e below K (T.setTop (mkF m pc L (.int x :: S))) :=
  k.of (fun _ q => XS.ifYes X.X.here X.hx rfl rfl (X.d hd) rfl ((if0 _ _).trans ((feq hc).2)) (ho ▸ Int.natCast_nonneg _) (by rw [ho]; rfl) q)
theorem g_if_ne_f (X : St Z n0 p l e R s m args below meth c own nm bytes ml ret T locs cells slots h) {x : Int32} {o : Int} (hd : decode bytes pc = .ok (.ifCond .ne o, 3)) (hp : pc + 3 = pc') (hc : x = 0) (k : Go p e below K (T.setTop (mkF m pc' L S))) : Go p e below K (T.setTop (mkF m pc L (.int x :: S))) := by
  subst hp; exact k.of (fun _ q => XS.ifNo X.X.here X.hx rfl (X.d hd) rfl ((if0 _ _).trans ((teq hc).2)) q)
theorem g_if_ne (X : St Z n0 p l e R s m args below meth c own nm bytes ml ret T locs cells slots h) {x : Int32} {o : Int} (hd : decode bytes pc = .ok (.ifCond .ne o, 3)) (ho : (pc : Int) + o = (pt : Int)) (hp : pc + 3 = pc') (yes : ¬ x = 0 → Go p e below K (T.setTop (mkF m pt L S))) (no : x = 0 → Go p e below K (T.setTop (mkF m pc' L S))) : Go p e below K (T.setTop (mkF m pc L (.int x :: S))) := by
  by_cases hc : x = 0
  · exact g_if_ne_f X hd hp hc (no hc)
  · exact g_if_ne_t X hd ho hc (yes hc)
theorem g_icmp_lt_t (X : St Z n0 p l e R s m args below meth c own nm bytes ml ret T locs cells slots h) {x y : Int32} {o : Int} (hd : decode bytes pc = .ok (.if_icmp .lt o, 3)) (ho : (pc : Int) + o = (pt : Int)) (hc : x < y) (k : Go p e below K (T.setTop (mkF m pt L S))) : Go p e below K (T.setTop (mkF m pc L (.int y :: .int x :: S))) :=
  k.of (fun _ q => XS.icmpYes X.X.here X.hx rfl rfl (X.d hd) rfl ((tlt hc).1) (ho ▸ Int.natCast_nonneg _) (by rw [ho]; rfl) q)
theorem g_icmp_lt_f (X : St Z n0 p l e R s m args below meth c own nm bytes ml ret T locs cells slots h) {x y : Int32} {o : Int} (hd : decode bytes pc = .ok (.if_icmp .lt o, 3)) (hp : pc + 3 = pc') (hc : ¬ x < y) (k : Go p e below K (T.setTop (mkF m pc' L S))) : Go p e below K (T.setTop (mkF m pc L (.int y :: .int x :: S))) := by
  subst hp; exact k.of (fun _ q => XS.icmpNo X.X.here X.hx rfl (X.d hd) rfl ((flt hc).1) q)
theorem g_icmp_lt (X : St Z n0 p l e R s m args below meth c own nm bytes ml ret T locs cells slots h) {x y : Int32} {o : Int} (hd : decode bytes pc = .ok (.if_icmp .lt o, 3)) (ho : (pc : Int) + o = (pt : Int)) (hp : pc + 3 = pc') (yes : x < y → Go p e below K (T.setTop (mkF m pt L S))) (no : ¬ x < y → Go p e below K (T.setTop (mkF m pc' L S))) : Go p e below K (T.setTop (mkF m pc L (.int y :: .int x :: S))) := by
  by_cases hc : x < y
  · exact g_icmp_lt_t X hd ho hc (yes hc)
  · exact g_icmp_lt_f X hd hp hc (no hc)
theorem g_if_lt_t (X : St Z n0 p l e R s m args below meth c own nm bytes ml ret T locs cells slots h) {x : Int32} {o : Int} (hd : decode bytes pc = .ok (.ifCond .lt o, 3)) (ho : (pc : Int) + o = (pt : Int)) (hc : x < 0) (k : Go p e below K (T.setTop (mkF m pt L S))) : Go p e below K (T.setTop (mkF m pc L (.int x :: S))) :=
  k.of (fun _ q => XS.ifYes X.X.here X.hx rfl rfl (X.d hd) rfl ((if0 _ _).trans ((tlt hc).1)) (ho ▸ Int.natCast_nonneg _) (by rw [ho]; rfl) q)
theorem g_if_lt_f (X : St Z n0 p l e R s m args below meth c own nm bytes ml ret T locs cells slots h) {x : Int32} {o : Int} (hd : decode bytes pc = .ok (.ifCond .lt o, 3)) (hp : pc + 3 = pc') (hc : ¬ x < 0) (k : Go p e below K (T.setTop (mkF m pc' L S))) : Go p e below K (T.setTop (mkF m pc L (.int x :: S))) := by
  subst hp; exact k.of (fun _ q => XS.ifNo X.X.here X.hx rfl (X.d hd) rfl ((if0 _ _).trans ((flt hc).1)) q)
theorem g_if_lt (X : St Z n0 p l e R s m args below meth c own nm bytes ml ret T locs cells slots h) {x : Int32} {o : Int} (hd : decode bytes pc = .ok (.ifCond .lt o, 3)) (ho : (pc : Int) + o = (pt : Int)) (hp : pc + 3 = pc') (yes : x < 0 → Go p e below K (T.setTop (mkF m pt L S))) (no : ¬ x < 0 → Go p e below K (T.setTop (mkF m pc' L S))) : Go p e below K (T.setTop (mkF m pc L (.int x :: S))) := by
  by_cases hc : x < 0
  · exact g_if_lt_t X hd ho hc (yes hc)
  · exact g_if_lt_f X hd hp hc (no hc)
theorem g_icmp_ge_t (X : St Z n0 p l e R s m args below meth c own nm bytes ml ret T locs cells slots h) {x y : Int32} {o : Int} (hd : decode bytes pc = .ok (.if_icmp .ge o, 3)) (ho : (pc : Int) + o = (pt : Int)) (hc : ¬ x < y) (k : Go p e below K (T.setTop (mkF m pt L S))) : Go p e below K (T.setTop (mkF m pc L (.int y :: .int x :: S))) :=
  k.of (fun _ q => XS.icmpYes X.X.here X.hx rfl rfl (X.d hd) rfl ((flt hc).2.1) (ho ▸ Int.natCast_nonneg _) (by rw [ho]; rfl) q)
theorem g_icmp_ge_f (X : St Z n0 p l e R s m args below meth c own nm bytes ml ret T locs cells slots h) {x y : Int32} {o : Int} (hd : decode bytes pc = .ok (.if_icmp .ge o, 3)) (hp : pc + 3 = pc') (hc : x < y) (k : Go p e below K (T.setTop (mkF m pc' L S))) : Go p e below K (T.setTop (mkF m pc L (.int y :: .int x :: S))) := by
  subst hp; exact k.of (fun _ q => XS.icmpNo X.X.here X.hx rfl (X.d hd) rfl ((tlt hc).2.1) q)
theorem g_icmp_ge (X : St Z n0 p l e R s m args below meth c own nm bytes ml ret T locs cells slots h) {x y : Int32} {o : Int} (hd : decode bytes pc = .ok (.if_icmp .ge o, 3)) (ho : (pc : Int) + o = (pt : Int)) (hp : pc + 3 = pc') (yes : ¬ x < y → Go p e below K (T.setTop (mkF m pt L S))) (no : x < y → Go p e below K (T.setTop (mkF m pc' L S))) : Go p e below K (T.setTop (mkF m pc L (.int y :: .int x :: S))) := by
  by_cases hc : x < y
  · exact g_icmp_ge_f X hd hp hc (no hc)
  · exact g_icmp_ge_t X hd ho hc (yes hc)
theorem g_if_ge_t (X : St Z n0 p l e R s m args below meth c own nm bytes ml ret T locs cells slots h) {x : Int32} {o : Int} (hd : decode bytes pc = .ok (.ifCond .ge o, 3)) (ho : (pc : Int) + o = (pt : Int)) (hc : ¬ x < 0) (k : Go p e below K (T.setTop (mkF m pt L S))) : Go p e below K (T.setTop (mkF m pc L (.int x :: S))) :=
  k.of (fun _ q => XS.ifYes X.X.here X.hx rfl rfl (X.d hd) rfl ((if0 _ _).trans ((flt hc).2.1)) (ho ▸ Int.natCast_nonneg _) (by rw [ho]; rfl) q)
theorem g_if_ge_f (X : St Z n0 p l e R s m args below meth c own nm bytes ml ret T locs cells slots h) {x : Int32} {o : Int} (hd : decode bytes pc = .ok (.ifCond .ge o, 3)) (hp : pc + 3 = pc') (hc : x < 0) (k : Go p e below K (T.setTop (mkF m pc' L S))) : Go p e below K (T.setTop (mkF m pc L (.int x :: S))) := by
  subst hp; exact k.of (fun _ q => XS.ifNo X.X.here X.hx rfl (X.d hd) rfl ((if0 _ _).trans ((tlt hc).2.1)) q)
theorem g_if_ge (X : St Z n0 p l e R s m args below meth c own nm bytes ml ret T locs cells slots h) {x : Int32} {o : Int} (hd : decode bytes pc = .ok (.ifCond .ge o, 3)) (ho : (pc : Int) + o = (pt : Int)) (hp : pc + 3 = pc') (yes : ¬ x < 0 → Go p e below K (T.setTop (mkF m pt L S))) (no : x < 0 → Go p e below K (T.setTop (mkF m pc' L S))) : Go p e below K (T.setTop (mkF m pc L (.int x :: S))) := by
  by_cases hc : x < 0
  · exact g_if_ge_f X hd hp hc (no hc)
  · exact g_if_ge_t X hd ho hc (yes hc)
theorem g_icmp_gt_t (X : St Z n0 p l e R s m args below meth c own nm bytes ml ret T locs cells slots h) {x y : Int32} {o : Int} (hd : decode bytes pc = .ok (.if_icmp .gt o, 3)) (ho : (pc : Int) + o = (pt : Int)) (hc : y < x) (k : Go p e below K (T.setTop (mkF m pt L S))) : Go p e below K (T.setTop (mkF m pc L (.int y :: .int x :: S))) :=
  k.of (fun _ q => XS.icmpYes X.X.here X.hx rfl rfl (X.d hd) rfl ((tlt hc).2.2.1) (ho ▸ Int.natCast_nonneg _) (by rw [ho]; rfl) q)
theorem g_icmp_gt_f (X : St Z n0 p l e R s m args below meth c own nm bytes ml ret T locs cells slots h) {x y : Int32} {o : Int} (hd : decode bytes pc = .ok (.if_icmp .gt o, 3)) (hp : pc + 3 = pc') (hc : ¬ y < x) (k : Go p e below K (T.setTop (mkF m pc' L S))) : Go p e below K (T.setTop (mkF m pc L (.int y :: .int x :: S))) := by
  subst hp; exact k.of (fun _ q => XS.icmpNo X.X.here X.hx rfl (X.d hd) rfl ((flt hc).2.2.1) q)
theorem g_icmp_gt (X : St Z n0 p l e R s m args below meth c own nm bytes ml ret T locs cells slots h) {x y : Int32} {o : Int} (hd : decode bytes pc = .ok (.if_icmp .gt o, 3)) (ho : (pc : Int) + o = (pt : Int)) (hp : pc + 3 = pc') (yes : y < x → Go p e below K (T.setTop (mkF m pt L S))) (no : ¬ y < x → Go p e below K (T.setTop (mkF m pc' L S))) : Go p e below K (T.setTop (mkF m pc L (.int y :: .int x :: S))) := by
  by_cases hc : y < x
  · exact g_icmp_gt_t X hd ho hc (yes hc)
  · exact g_icmp_gt_f X hd hp hc (no hc)
theorem g_if_gt_t (X : St Z n0 p l e R s m args below meth c own nm bytes ml ret T locs cells slots h) {x : Int32} {o : Int} (hd : decode bytes pc = .ok (.ifCond .gt o, 3)) (ho : (pc : Int) + o = (pt : Int)) (hc : 0 < x) (k : Go p e below K (T.setTop (mkF m pt L S))) : Go p e below K (T.setTop (mkF m pc L (.int x :: S))) :=
  k.of (fun _ q => XS.ifYes X.X.here X.hx rfl rfl (X.d hd) rfl ((if0 _ _).trans ((tlt hc).2.2.1)) (ho ▸ Int.natCast_nonneg _) (by rw [ho]; rfl) q)
theorem g_if_gt_f (X : St Z n0 p l e R s m args below meth c own nm bytes ml ret T locs cells slots h) {x : Int32} {o : Int} (hd : decode bytes pc = .ok (.ifCond .gt o, 3)) (hp : pc + 3 = pc') (hc : ¬ 0 < x) (k : Go p e below K (T.setTop (mkF m pc' L S))) : Go p e below K (T.setTop (mkF m pc L (.int x :: S))) := by
  subst hp; exact k.of (fun _ q => XS.ifNo X.X.here X.hx rfl (X.d hd) rfl ((if0 _ _).trans ((flt hc).2.2.1)) q)
theorem g_if_gt (X : St Z n0 p l e R s m args below meth c own nm bytes ml ret T locs cells slots h) {x : Int32} {o : Int} (hd : decode bytes pc = .ok (.ifCond .gt o, 3)) (ho : (pc : Int) + o = (pt : Int)) (hp : pc + 3 = pc') (yes : 0 < x → Go p e below K (T.setTop (mkF m pt L S))) (no : ¬ 0 < x → Go p e below K (T.setTop (mkF m pc' L S))) : Go p e below K (T.setTop (mkF m pc L (.int x :: S))) := by
  by_cases hc : 0 < x
  · exact g_if_gt_t X hd ho hc (yes hc)
  · exact g_if_gt_f X hd hp hc (no hc)
theorem g_icmp_le_t (X : St Z n0 p l e R s m args below meth c own nm bytes ml ret T locs cells slots h) {x y : Int32} {o : Int} (hd : decode bytes pc = .ok (.if_icmp .le o, 3)) (ho : (pc : Int) + o = (pt : Int)) (hc : ¬ y < x) (k : Go p e below K (T.setTop (mkF m pt L S))) : Go p e below K (T.setTop (mkF m pc L (.int y :: .int x :: S))) :=
  k.of (fun _ q => XS.icmpYes X.X.here X.hx rfl rfl (X.d hd) rfl ((flt hc).2.2.2) (ho ▸ Int.natCast_nonneg _) (by rw [ho]; rfl) q)
theorem g_icmp_le_f (X : St Z n0 p l e R s m args below meth c own nm bytes ml ret T locs cells slots h) {x y : Int32} {o : Int} (hd : decode bytes pc = .ok (.if_icmp .le o, 3)) (hp : pc + 3 = pc') (hc : y < x) (k : Go p e below K (T.setTop (mkF m pc' L S))) : Go p e below K (T.setTop (mkF m pc L (.int y :: .int x :: S))) := by
  subst hp; exact k.of (fun _ q => XS.icmpNo X.X.here X.hx rfl (X.d hd) rfl ((tlt hc).2.2.2) q)
theorem g_icmp_le (X : St Z n0 p l e R s m args below meth c own nm bytes ml ret T locs cells slots h) {x y : Int32} {o : Int} (hd : decode bytes pc = .ok (.if_icmp .le o, 3)) (ho : (pc : Int) + o = (pt : Int)) (hp : pc + 3 = pc') (yes : ¬ y < x → Go p e below K (T.setTop (mkF m pt L S))) (no : y < x → Go p e below K (T.setTop (mkF m pc' L S))) : Go p e below K (T.setTop (mkF m pc L (.int y :: .int x :: S))) := by
  by_cases hc : y < x
  · exact g_icmp_le_f X hd hp hc (no hc)
  · exact g_icmp_le_t X hd ho hc (yes hc)
theorem g_if_le_t (X : St Z n0 p l e R s m args below meth c own nm bytes ml ret T locs cells slots h) {x : Int32} {o : Int} (hd : decode bytes pc = .ok (.ifCond .le o, 3)) (ho : (pc : Int) + o = (pt : Int)) (hc : ¬ 0 < x) (k : Go p e below K (T.setTop (mkF m pt L S))) : Go p e below K (T.setTop (mkF m pc L (.int x :: S))) :=
  k.of (fun _ q => XS.ifYes X.X.here X.hx rfl rfl (X.d hd) rfl ((if0 _ _).trans ((flt hc).2.2.2)) (ho ▸ Int.natCast_nonneg _) (by rw [ho]; rfl) q)
theorem g_if_le_f (X : St Z n0 p l e R s m args below meth c own nm bytes ml ret T locs cells slots h) {x : Int32} {o : Int} (hd : decode bytes pc = .ok (.ifCond .le o, 3)) (hp : pc + 3 = pc') (hc : 0 < x) (k : Go p e below K (T.setTop (mkF m pc' L S))) : Go p e below K (T.setTop (mkF m pc L (.int x :: S))) := by
  subst hp; exact k.of (fun _ q => XS.ifNo X.X.here X.hx rfl (X.d hd) rfl ((if0 _ _).trans ((tlt hc).2.2.2)) q)
theorem g_if_le (X : St Z n0 p l e R s m args below meth c own nm bytes ml ret T locs cells slots h) {x : Int32} {o : Int} (hd : decode bytes pc = .ok (.ifCond .le o, 3)) (ho : (pc : Int) + o = (pt : Int)) (hp : pc + 3 = pc') (yes : ¬ 0 < x → Go p e below K (T.setTop (mkF m pt L S))) (no : 0 < x → Go p e below K (T.setTop (mkF m pc' L S))) : Go p e below K (T.setTop (mkF m pc L (.int x :: S))) := by
  by_cases hc : 0 < x
  · exact g_if_le_f X hd hp hc (no hc)
  · exact g_if_le_t X hd ho hc (yes hc)
theorem g_lcmp_eq (X : St Z n0 p l e R s m args below meth c own nm bytes ml ret T locs cells slots h) {x y : Int64} {o : Int} (hd : decode bytes pc = .ok (.lcmp, 1)) (hd' : decode bytes (pc + 1) = .ok (.ifCond .eq o, 3)) (ho : ((pc + 1 : Nat) : Int) + o = (pt : Int)) (hp : pc + 1 + 3 = pc') (yes : x = y → Go p e below K (T.setTop (mkF m pt L S))) (no : ¬ x = y → Go p e below K (T.setTop (mkF m pc' L S))) : Go p e below K (T.setTop (mkF m pc L (.long y :: .long x :: S))) := by
  refine g_lcmp X hd rfl ?_
  refine g_if_eq X hd' ho hp (fun q => yes ?_) (fun q => no ?_)
  · rwa [lw_eq] at q
  · rwa [lw_eq] at q
theorem g_lcmp_ne (X : St Z n0 p l e R s m args below meth c own nm bytes ml ret T locs cells slots h) {x y : Int64} {o : Int} (hd : decode bytes pc = .ok (.lcmp, 1)) (hd' : decode bytes (pc + 1) = .ok (.ifCond .ne o, 3)) (ho : ((pc + 1 : Nat) : Int) + o = (pt : Int)) (hp : pc + 1 + 3 = pc') (yes : ¬ x = y → Go p e below K (T.setTop (mkF m pt L S))) (no : x = y → Go p e below K (T.setTop (mkF m pc' L S))) : Go p e below K (T.setTop (mkF m pc L (.long y :: .long x :: S))) := by
  refine g_lcmp X hd rfl ?_
  refine g_if_ne X hd' ho hp (fun q => yes ?_) (fun q => no ?_)
  · rwa [lw_eq] at q
  · rwa [lw_eq] at q
theorem g_lcmp_lt (X : St Z n0 p l e R s m args below meth c own nm bytes ml ret T locs cells slots h) {x y : Int64} {o : Int} (hd : decode bytes pc = .ok (.lcmp, 1)) (hd' : decode bytes (pc + 1) = .ok (.ifCond .lt o, 3)) (ho : ((pc + 1 : Nat) : Int) + o = (pt : Int)) (hp : pc + 1 + 3 = pc') (yes : x < y → Go p e below K (T.setTop (mkF m pt L S))) (no : ¬ x < y → Go p e below K (T.setTop (mkF m pc' L S))) : Go p e below K (T.setTop (mkF m pc L (.long y :: .long x :: S))) := by
  refine g_lcmp X hd rfl ?_
  refine g_if_lt X hd' ho hp (fun q => yes ?_) (fun q => no ?_)
  · rwa [lw_lt] at q
  · rwa [lw_lt] at q
theorem g_lcmp_ge (X : St Z n0 p l e R s m args below meth c own nm bytes ml ret T locs cells slots h) {x y : Int64} {o : Int} (hd : decode bytes pc = .ok (.lcmp, 1)) (hd' : decode bytes (pc + 1) = .ok (.ifCond .ge o, 3)) (ho : ((pc + 1 : Nat) : Int) + o = (pt : Int)) (hp : pc + 1 + 3 = pc') (yes : ¬ x < y → Go p e below K (T.setTop (mkF m pt L S))) (no : x < y → Go p e below K (T.setTop (mkF m pc' L S))) : Go p e below K (T.setTop (mkF m pc L (.long y :: .long x :: S))) := by
  refine g_lcmp X hd rfl ?_
  refine g_if_ge X hd' ho hp (fun q => yes ?_) (fun q => no ?_)
  · rwa [lw_lt] at q
  · rwa [lw_lt] at q
theorem g_lcmp_gt (X : St Z n0 p l e R s m args below meth c own nm bytes ml ret T locs cells slots h) {x y : Int64} {o : Int} (hd : decode bytes pc = .ok (.lcmp, 1)) (hd' : decode bytes (pc + 1) = .ok (.ifCond .gt o, 3)) (ho : ((pc + 1 : Nat) : Int) + o = (pt : Int)) (hp : pc + 1 + 3 = pc') (yes : y < x → Go p e below K (T.setTop (mkF m pt L S))) (no : ¬ y < x → Go p e below K (T.setTop (mkF m pc' L S))) : Go p e below K (T.setTop (mkF m pc L (.long y :: .long x :: S))) := by
  refine g_lcmp X hd rfl ?_
  refine g_if_gt X hd' ho hp (fun q => yes ?_) (fun q => no ?_)
  · rwa [lw_gt] at q
  · rwa [lw_gt] at q
theorem g_lcmp_le (X : St Z n0 p l e R s m args below meth c own nm bytes ml ret T locs cells slots h) {x y : Int64} {o : Int} (hd : decode bytes pc = .ok (.lcmp, 1)) (hd' : decode bytes (pc + 1) = .ok (.ifCond .le o, 3)) (ho : ((pc + 1 : Nat) : Int) + o = (pt : Int)) (hp : pc + 1 + 3 = pc') (yes : ¬ y < x → Go p e below K (T.setTop (mkF m pt L S))) (no : y < x → Go p e below K (T.setTop (mkF m pc' L S))) : Go p e below K (T.setTop (mkF m pc L (.long y :: .long x :: S))) := by
  refine g_lcmp X hd rfl ?_
  refine g_if_le X hd' ho hp (fun q => yes ?_) (fun q => no ?_)
  · rwa [lw_gt] at q
  · rwa [lw_gt] at q
theorem g_ifnull_t (X : St Z n0 p l e R s m args below meth c own nm bytes ml ret T locs cells slots h) {o : Int} (hd : decode bytes pc = .ok (.ifnull o, 3)) (ho : (pc : Int) + o = (pt : Int)) (k : Go p e below K (T.setTop (mkF m pt L S))) : Go p e below K (T.setTop (mkF m pc L (.null :: S))) :=
  k.of (fun _ q => XS.ifnullYes X.X.here X.hx rfl rfl (X.d hd) rfl (ho ▸ Int.natCast_nonneg _) (by rw [ho]; rfl) q)
theorem g_ifnull_f (X : St Z n0 p l e R s m args below meth c own nm bytes ml ret T locs cells slots h) {o : Int} {a : Addr} (hd : decode bytes pc = .ok (.ifnull o, 3)) (hp : pc + 3 = pc') (k : Go p e below K (T.setTop (mkF m pc' L S))) : Go p e below K (T.setTop (mkF m pc L (.ref a :: S))) := by
  subst hp; exact k.of (fun _ q => XS.ifnullNo X.X.here X.hx rfl (X.d hd) rfl q)
theorem g_ifnonnull_t (X : St Z n0 p l e R s m args below meth c own nm bytes ml ret T locs cells slots h) {o : Int} {a : Addr} (hd : decode bytes pc = .ok (.ifnonnull o, 3)) (ho : (pc : Int) + o = (pt : Int)) (k : Go p e below K (T.setTop (mkF m pt L S))) : Go p e below K (T.setTop (mkF m pc L (.ref a :: S))) :=
  k.of (fun _ q => XS.ifnonnullYes X.X.here X.hx rfl rfl (X.d hd) rfl (ho ▸ Int.natCast_nonneg _) (by rw [ho]; rfl) q)
theorem g_ifnonnull_f (X : St Z n0 p l e R s m args below meth c own nm bytes ml ret T locs cells slots h) {o : Int} (hd : decode bytes pc = .ok (.ifnonnull o, 3)) (hp : pc + 3 = pc') (k : Go p e below K (T.setTop (mkF m pc' L S))) : Go p e below K (T.setTop (mkF m pc L (.null :: S))) := by
  subst hp; exact k.of (fun _ q => XS.ifnonnullNo X.X.here X.hx rfl (X.d hd) rfl q)
theorem g_acmp (X : St Z n0 p l e R s m args below meth c own nm bytes ml ret T locs cells slots h) {cd : ACond} {x y : Value} {o : Int} {same : Bool} (h1 : x.isRef = true) (h2 : y.isRef = true) (hd : decode bytes pc = .ok (.if_acmp cd o, 3)) (ho : (pc : Int) + o = (pt : Int)) (hq : decide (x = y) = same) (hp : pc' = if acV cd same = true then pt else pc + 3) (k : Go p e below K (T.setTop (mkF m pc' L S))) : Go p e below K (T.setTop (mkF m pc L (y :: x :: S))) :=
  k.of (fun _ q => Jvm.RoadKit.acmp X.X X.hx rfl h1 h2 rfl (X.d hd) rfl hq (ho ▸ Int.natCast_nonneg _) (by rw [hp, ho]; rfl) q)
theorem g_acmp_eq (X : St Z n0 p l e R s m args below meth c own nm bytes ml ret T locs cells slots h) {a b : Addr} {o : Int} (hd : decode bytes pc = .ok (.if_acmp .eq o, 3)) (ho : (pc : Int) + o = (pt : Int)) (hp : pc + 3 = pc') (yes : a = b → Go p e below K (T.setTop (mkF m pt L S))) (no : ¬ a = b → Go p e below K (T.setTop (mkF m pc' L S))) : Go p e below K (T.setTop (mkF m pc L (.ref b :: .ref a :: S))) := by
  subst hp
  by_cases hc : a = b
  · exact g_acmp X (same := true) rfl rfl hd ho (decide_eq_true (congrArg Value.ref hc)) rfl (yes hc)
  · exact g_acmp X (same := false) rfl rfl hd ho (decide_eq_false fun q => hc (Value.ref.inj q)) rfl (no hc)
theorem g_acmp_ne (X : St Z n0 p l e R s m args below meth c own nm bytes ml ret T locs cells slots h) {a b : Addr} {o : Int} (hd : decode bytes pc = .ok (.if_acmp .ne o, 3)) (ho : (pc : Int) + o = (pt : Int)) (hp : pc + 3 = pc') (yes : ¬ a = b → Go p e below K (T.setTop (mkF m pt L S))) (no : a = b → Go p e below K (T.setTop (mkF m pc' L S))) : Go p e below K (T.setTop (mkF m pc L (.ref b :: .ref a :: S))) := by
  subst hp
  by_cases hc : a = b
  · exact g_acmp X (same := true) rfl rfl hd ho (decide_eq_true (congrArg Value.ref hc)) rfl (no hc)
  · exact g_acmp X (same := false) rfl rfl hd ho (decide_eq_false fun q => hc (Value.ref.inj q)) rfl (yes hc)
theorem g_ldc (X : St Z n0 p l e R s m args below meth c own nm bytes ml ret T locs cells slots h) {i : Nat} {v : Int32} (w : (Jvm.Cond.constant own i v).before a0 Z = true) (hd : decode bytes pc = .ok (.ldc i, 2)) (hp : pc + 2 = pc') (k : Go p e below K (T.setTop (mkF m pc' L (.int v :: S)))) : Go p e below K (T.setTop (mkF m pc L S)) := by
  subst hp; exact k.of (X.X.ldcInt X.hx X.own_ (mvT X.hZ w) (g := mkF m pc L S) rfl (X.d hd))
theorem g_ldc2 (X : St Z n0 p l e R s m args below meth c own nm bytes ml ret T locs cells slots h) {i : Nat} {v : Int64} (w : (Jvm.Cond.constantLong own i v).before a0 Z = true) (hd : decode bytes pc = .ok (.ldc2_w i, 3)) (hp : pc + 3 = pc') (k : Go p e below K (T.setTop (mkF m pc' L (.long v :: S)))) : Go p e below K (T.setTop (mkF m pc L S)) := by
  subst hp; exact k.of (X.X.ldc2Long X.hx X.own_ (mvT X.hZ w) (g := mkF m pc L S) rfl (X.d hd))
theorem g_getF (X : St Z n0 p l e R s m args below meth c own nm bytes ml ret T locs cells slots h) {R0 O n d host : String} {i : Nat} {a : Addr} {v : Value} (w : (Jvm.Cond.fieldLink own i R0 n d).before a0 Z = true ∨ (Jvm.Cond.fieldLinkNest own i R0 n d host).before a0 Z = true) (via : Via Z R0 O n d) (F : Fld Z h a O n d v) (hd : decode bytes pc = .ok (.getfield i, 3)) (hp : pc + 3 = pc') (k : ∀ T', St Z n0 p l e R s m args below meth c own nm bytes ml ret T' locs cells slots h → Go p e below K (T'.setTop (mkF m pc' L (v :: S)))) : Go p e below K (T.setTop (mkF m pc L (.ref a :: S))) := by
  obtain ⟨T', X', e', st'⟩ := getF X.X X.hx X.hZ X.own_ w via X.eT F (g := mkF m pc L (.ref a :: S)) rfl rfl (X.d hd)
  subst hp; exact (k T' (X.to X' e' X.fr X.old)).of st'
theorem g_getS (X : St Z n0 p l e R s m args below meth c own nm bytes ml ret T locs cells slots h) {O n d : String} {i : Nat} {v : Value} (w : (Jvm.Cond.fieldLink own i O n d).before a0 Z = true) (F : Sta Z h O n d v) (hd : decode bytes pc = .ok (.getstatic i, 3)) (hp : pc + 3 = pc') (k : ∀ T', St Z n0 p l e R s m args below meth c own nm bytes ml ret T' locs cells slots h → Go p e below K (T'.setTop (mkF m pc' L (v :: S)))) : Go p e below K (T.setTop (mkF m pc L S)) := by
  obtain ⟨T', X', e', st'⟩ := getS X.X X.hx X.hZ (host := "") X.own_ w Via.refl X.eT F (g := mkF m pc L S) rfl (X.d hd)
  subst hp; exact (k T' (X.to X' e' X.fr X.old)).of st'
theorem g_putF (X : St Z n0 p l e R s m args below meth c own nm bytes ml ret T locs cells slots h) {R0 O n d host C : String} {i kk : Nat} {ty : FieldType} {a : Addr} {v old : Value} (w : (Jvm.Cond.fieldLink own i R0 n d).before a0 Z = true ∨ (Jvm.Cond.fieldLinkNest own i R0 n d host).before a0 Z = true) (via : Via Z R0 O n d) (F : Fld Z h a O n d old) (E : Exa Z h a C)
    (La : (Jvm.Cond.lays C O n d).before a0 Z = true ∨ ((Jvm.Cond.laysFinal C O n d).before a0 Z = true ∧ own = O ∧ nm = "<init>")) (wi : (Jvm.Cond.instantiable C kk).before a0 Z = true) (hty : parseFieldDescriptor d = some ty) (hn : narrow ty v = v) (hf : fits ty v = true) (ga : n0 ≤ a) (hd : decode bytes pc = .ok (.putfield i, 3)) (hp : pc + 3 = pc') (k : ∀ T' h', St Z n0 p l e R s m args below meth c own nm bytes ml ret T' (locs ++ [⟨a, Jvm.RoadKit.slotOf Z O n d⟩]) cells slots h' → Wr h h' a (Jvm.RoadKit.slotOf Z O n d) v → Go p e below K (T'.setTop (mkF m pc' L S))) : Go p e below K (T.setTop (mkF m pc L (v :: .ref a :: S))) := by
  obtain ⟨T', h', X', e', W, st'⟩ := putF X.X X.hx X.hZ X.own_ w via X.eT F E (La.imp id fun q => ⟨q.1, q.2.1, X.nm_.trans q.2.2⟩) wi hty hn hf (g := mkF m pc L (v :: .ref a :: S)) rfl rfl (X.d hd)
  subst hp; exact (k T' h' (X.to X' e' (Fr.snoc X' X.fr ga) (X.old.wr W ga)) W).of st'
theorem g_putFN (X : St Z n0 p l e R s m args below meth c own nm bytes ml ret T locs cells slots h) {R0 O n d C : String} {i kk : Nat} {ty : FieldType} {a : Addr} {v v' old : Value} (w : (Jvm.Cond.fieldLink own i R0 n d).before a0 Z = true) (via : Via Z R0 O n d) (F : Fld Z h a O n d old) (E : Exa Z h a C)
    (La : (Jvm.Cond.lays C O n d).before a0 Z = true ∨ ((Jvm.Cond.laysFinal C O n d).before a0 Z = true ∧ own = O ∧ nm = "<init>")) (wi : (Jvm.Cond.instantiable C kk).before a0 Z = true) (hty : parseFieldDescriptor d = some ty) (hn : narrow ty v = v') (hf : fits ty v' = true) (ga : n0 ≤ a) (hd : decode bytes pc = .ok (.putfield i, 3)) (hp : pc + 3 = pc') (k : ∀ T' h', St Z n0 p l e R s m args below meth c own nm bytes ml ret T' (locs ++ [⟨a, Jvm.RoadKit.slotOf Z O n d⟩]) cells slots h' → Wr h h' a (Jvm.RoadKit.slotOf Z O n d) v' → Go p e below K (T'.setTop (mkF m pc' L S))) : Go p e below K (T.setTop (mkF m pc L (v :: .ref a :: S))) := by
  obtain ⟨T', h', X', e', W, st'⟩ := putFN X.X X.hx X.hZ X.own_ w via X.eT F E (La.imp id fun q => ⟨q.1, q.2.1, X.nm_.trans q.2.2⟩) wi hty hn hf (g := mkF m pc L (v :: .ref a :: S)) rfl rfl (X.d hd)
  subst hp; exact (k T' h' (X.to X' e' (Fr.snoc X' X.fr ga) (X.old.wr W ga)) W).of st'
theorem g_new (X : St Z n0 p l e R s m args below meth c own nm bytes ml ret T locs cells slots h) {C : String} {i n : Nat} (w : (Jvm.Cond.classLink own i C).before a0 Z = true) (wi : (Jvm.Cond.instantiable C n).before a0 Z = true) (wz : (Jvm.Cond.initialized C).before a0 Z = true) (hd : decode bytes pc = .ok (.new i, 3)) (hp : pc + 3 = pc') (hc : cells + 1 ≤ R.cells) (hl : slots + n ≤ R.slots)
    (k : ∀ T' h' a, St Z n0 p l e R s m args below meth c own nm bytes ml ret T' locs (cells + 1) (slots + n) h' → a = h.size → Ext h h' → Exa Z h' a C → (∀ {O nm d : String} {ty : FieldType}, Laid Z a0 C O nm d → parseFieldDescriptor d = some ty → Fld Z h' a O nm d (defaultValue ty)) → n0 ≤ a → Go p e below K (T'.setTop (mkF m pc' L (.ref a :: S)))) : Go p e below K (T.setTop (mkF m pc L S)) := by
  obtain ⟨T', h', X', e', E, A, D, -, st'⟩ := newO X.X X.hx X.hZ X.own_ w wi wz X.eT (g := mkF m pc L S) rfl (X.d hd) hc hl
  subst hp; exact (k T' h' _ (X.to X' e' X.fr (X.old.ext E)) rfl E A D X.sz).of st'
theorem g_initO (X : St Z n0 p l e R s m args below meth c own nm bytes ml ret T locs cells slots h) {i : Nat} {a : Addr} (w1 : (Jvm.Cond.methodLink own i Lib.objectInit).before a0 Z = true) (w2 : (Jvm.Cond.instanceMethod Lib.objectInit).before a0 Z = true) (w3 : (Jvm.Cond.code Lib.objectInit ⟨#[0xb1]⟩ 1 none).before a0 Z = true) (hL : L.size = ml) (hd : decode bytes pc = .ok (.invokespecial i, 3)) (hp : pc + 3 = pc') (hf : 1 ≤ R.frames) {W : Nat} (hW : (S.map fun v => v.category).sum = W) (hl : W + 12 ≤ R.locals) (k : ∀ T', St Z n0 p l e R s m args below meth c own nm bytes ml ret T' locs cells slots h → Go p e below K (T'.setTop (mkF m pc' L S))) : Go p e below K (T.setTop (mkF m pc L (.ref a :: S))) := by
  obtain ⟨T', X', e', st'⟩ := initO X.X X.hx X.hZ X.own_ w1 w2 w3 X.eT (g := mkF m pc L (.ref a :: S)) rfl (by rw [X.ml_]; exact hL) rfl (X.d hd) hf (W := W) (by show 2 * 0 + _ ≤ _; rw [hW, Nat.mul_zero, Nat.zero_add]; exact Nat.le_refl _) hl
  subst hp; exact (k T' (X.to X' e' X.fr X.old)).of st'
theorem g_castNull (X : St Z n0 p l e R s m args below meth c own nm bytes ml ret T locs cells slots h) {i : Nat} (hd : decode bytes pc = .ok (.checkcast i, 3)) (hp : pc + 3 = pc') (k : Go p e below K (T.setTop (mkF m pc' L (.null :: S)))) : Go p e below K (T.setTop (mkF m pc L (.null :: S))) := by
  subst hp; exact k.of (fun _ q => X.X.checkcastNull X.hx (g := mkF m pc L (.null :: S)) rfl rfl (X.d hd) _ q)
theorem g_instNull (X : St Z n0 p l e R s m args below meth c own nm bytes ml ret T locs cells slots h) {i : Nat} (hd : decode bytes pc = .ok (.instanceof i, 3)) (hp : pc + 3 = pc') (k : Go p e below K (T.setTop (mkF m pc' L (.int 0 :: S)))) : Go p e below K (T.setTop (mkF m pc L (.null :: S))) := by
  subst hp; exact k.of (fun _ q => X.X.instanceofNull X.hx (g := mkF m pc L (.null :: S)) rfl rfl (X.d hd) _ q)
theorem g_cast (X : St Z n0 p l e R s m args below meth c own nm bytes ml ret T locs cells slots h) {k0 : String} {i : Nat} {a : Addr} (w : (Jvm.Cond.classLink own i k0).before a0 Z = true) (F : Ins Z h a k0 true) (hd : decode bytes pc = .ok (.checkcast i, 3)) (hp : pc + 3 = pc') (k : ∀ T', St Z n0 p l e R s m args below meth c own nm bytes ml ret T' locs cells slots h → Go p e below K (T'.setTop (mkF m pc' L (.ref a :: S)))) : Go p e below K (T.setTop (mkF m pc L (.ref a :: S))) := by
  obtain ⟨T', X', e', st'⟩ := castY X.X X.hx X.hZ X.own_ w X.eT F (g := mkF m pc L (.ref a :: S)) rfl rfl (X.d hd)
  subst hp; exact (k T' (X.to X' e' X.fr X.old)).of st'
theorem g_inst (X : St Z n0 p l e R s m args below meth c own nm bytes ml ret T locs cells slots h) {k0 : String} {i : Nat} {a : Addr} (w : (Jvm.Cond.classLink own i k0).before a0 Z = true) (F : Ins Z h a k0 true) (hd : decode bytes pc = .ok (.instanceof i, 3)) (hp : pc + 3 = pc') (k : ∀ T', St Z n0 p l e R s m args below meth c own nm bytes ml ret T' locs cells slots h → Go p e below K (T'.setTop (mkF m pc' L (.int 1 :: S)))) : Go p e below K (T.setTop (mkF m pc L (.ref a :: S))) := by
  obtain ⟨T', X', e', st'⟩ := instY X.X X.hx X.hZ X.own_ w X.eT F (g := mkF m pc L (.ref a :: S)) rfl rfl (X.d hd)
  subst hp; exact (k T' (X.to X' e' X.fr X.old)).of st'
theorem g_instN (X : St Z n0 p l e R s m args below meth c own nm bytes ml ret T locs cells slots h) {k0 c0 : String} {i : Nat} {a : Addr} (w : (Jvm.Cond.classLink own i k0).before a0 Z = true) (F : Ins Z s.heap a k0 false) (E : Exa Z s.heap a c0) (hd : decode bytes pc = .ok (.instanceof i, 3)) (hp : pc + 3 = pc') (k : ∀ T', St Z n0 p l e R s m args below meth c own nm bytes ml ret T' locs cells slots h → Go p e below K (T'.setTop (mkF m pc' L (.int 0 :: S)))) : Go p e below K (T.setTop (mkF m pc L (.ref a :: S))) := by
  obtain ⟨T', X', e', st'⟩ := instN X.X X.hx X.hZ X.own_ w X.eT F E (g := mkF m pc L (.ref a :: S)) rfl rfl (X.d hd)
  subst hp; exact (k T' (X.to X' e' X.fr X.old)).of st'
/-- an array, by the list of what it holds -/
def Arx (Z : State) (h : Heap) (a : Addr) (ty : FieldType) (vs : List Value) : Prop := ∃ c : Cell, Arr Z h a c ty ∧ c.slots.toList = vs ∧ vs.length < 2 ^ 31
theorem Arx.keep {h' : Heap} {ws : List Addr} {a : Addr} {ty : FieldType} {vs : List Value} (A : Arx Z h a ty vs) (K : Keep h h' ws) (q : a ∉ ws) : Arx Z h' a ty vs := by obtain ⟨c, A, r⟩ := A; exact ⟨c, ⟨K.2.1 a c A.1 q, A.2⟩, r⟩
theorem Arx.ext {h' : Heap} {a : Addr} {ty : FieldType} {vs : List Value} (A : Arx Z h a ty vs) (E : Ext h h') : Arx Z h' a ty vs := by obtain ⟨c, A, r⟩ := A; exact ⟨c, A.ext E, r⟩
theorem Arx.other {h' : Heap} {a b : Addr} {sl : Nat} {v : Value} {ty : FieldType} {vs : List Value} (A : Arx Z h b ty vs) (W : Wr h h' a sl v) (q : b ≠ a) : Arx Z h' b ty vs := by obtain ⟨c, A, r⟩ := A; exact ⟨c, A.other W q, r⟩
theorem Arx.lt {a : Addr} {ty : FieldType} {vs : List Value} (A : Arx Z h a ty vs) : a < h.size := by obtain ⟨c, A, r⟩ := A; exact A.lt
theorem Arx.le {a : Addr} {ty : FieldType} {vs : List Value} (A : Arx Z h a ty vs) : vs.length < 2 ^ 31 := by obtain ⟨c, A, r, q⟩ := A; exact q
theorem arx_in {cl : Cell} {vs : List Value} (q : cl.slots.toList = vs) {j : Int32} {i : Nat} (hj : j.toInt = (i : Int)) (hi : i < vs.length) : ¬ (j < 0 ∨ cl.slots.size ≤ j.toNatClampNeg) ∧ j.toNatClampNeg = i := by
  have e1 : j.toNatClampNeg = i := by simp only [Int32.toNatClampNeg, hj]; omega
  have e2 : cl.slots.size = vs.length := by rw [← q]; simp
  refine ⟨?_, e1⟩
  rw [e1, e2, Int32.lt_iff_toInt_lt, hj]
  have : (0 : Int32).toInt = 0 := rfl
  omega
theorem arx_at {cl : Cell} {vs : List Value} (q : cl.slots.toList = vs) {i : Nat} {v : Value} (hv : vs[i]? = some v) : cl.slots[i]? = some v := by rw [← q] at hv; simpa using hv
theorem arx_new (k : ClassId) (ty : FieldType) (n : Int32) : (newA k ty n).slots.toList = List.replicate n.toNatClampNeg (defaultValue ty) := by simp [newA]
theorem g_iaload (X : St Z n0 p l e R s m args below meth c own nm bytes ml ret T locs cells slots h) {a : Addr} {j : Int32} {i : Nat} {v : Value} {vs : List Value} (A : Arx Z h a .int vs) (hj : j.toInt = (i : Int)) (hv : vs[i]? = some v) (hd : decode bytes pc = .ok (.iaload, 1)) (hp : pc + 1 = pc') (k : Go p e below K (T.setTop (mkF m pc' L (v :: S)))) : Go p e below K (T.setTop (mkF m pc L (.int j :: .ref a :: S))) := by
  obtain ⟨cl, A, q, -⟩ := A
  obtain ⟨hin, hi⟩ := arx_in q hj (List.getElem?_eq_some_iff.mp hv).1
  subst hp; exact k.of (fun _ z => X.X.iaload X.hx (by rw [X.eT]; exact A.1) (State.isArrayOf_alike X.hZ.alike A.2.1) A.2.2 hin (by rw [hi]; exact arx_at q hv) (g := mkF m pc L (.int j :: .ref a :: S)) rfl rfl (X.d hd) _ z)
theorem g_laload (X : St Z n0 p l e R s m args below meth c own nm bytes ml ret T locs cells slots h) {a : Addr} {j : Int32} {i : Nat} {v : Value} {vs : List Value} (A : Arx Z h a .long vs) (hj : j.toInt = (i : Int)) (hv : vs[i]? = some v) (hd : decode bytes pc = .ok (.laload, 1)) (hp : pc + 1 = pc') (k : Go p e below K (T.setTop (mkF m pc' L (v :: S)))) : Go p e below K (T.setTop (mkF m pc L (.int j :: .ref a :: S))) := by
  obtain ⟨cl, A, q, -⟩ := A
  obtain ⟨hin, hi⟩ := arx_in q hj (List.getElem?_eq_some_iff.mp hv).1
  subst hp; exact k.of (fun _ z => X.X.laload X.hx (by rw [X.eT]; exact A.1) (State.isArrayOf_alike X.hZ.alike A.2.1) A.2.2 hin (by rw [hi]; exact arx_at q hv) (g := mkF m pc L (.int j :: .ref a :: S)) rfl rfl (X.d hd) _ z)
theorem g_caload (X : St Z n0 p l e R s m args below meth c own nm bytes ml ret T locs cells slots h) {a : Addr} {j : Int32} {i : Nat} {v : Value} {vs : List Value} (A : Arx Z h a .char vs) (hj : j.toInt = (i : Int)) (hv : vs[i]? = some v) (hd : decode bytes pc = .ok (.caload, 1)) (hp : pc + 1 = pc') (k : Go p e below K (T.setTop (mkF m pc' L (v :: S)))) : Go p e below K (T.setTop (mkF m pc L (.int j :: .ref a :: S))) := by
  obtain ⟨cl, A, q, -⟩ := A
  obtain ⟨hin, hi⟩ := arx_in q hj (List.getElem?_eq_some_iff.mp hv).1
  subst hp; exact k.of (fun _ z => X.X.caload X.hx (by rw [X.eT]; exact A.1) (State.isArrayOf_alike X.hZ.alike A.2.1) A.2.2 hin (by rw [hi]; exact arx_at q hv) (g := mkF m pc L (.int j :: .ref a :: S)) rfl rfl (X.d hd) _ z)
theorem g_baload (X : St Z n0 p l e R s m args below meth c own nm bytes ml ret T locs cells slots h) {a : Addr} {j : Int32} {i : Nat} {v : Value} {vs : List Value} (A : Arx Z h a .byte vs) (hj : j.toInt = (i : Int)) (hv : vs[i]? = some v) (hd : decode bytes pc = .ok (.baload, 1)) (hp : pc + 1 = pc') (k : Go p e below K (T.setTop (mkF m pc' L (v :: S)))) : Go p e below K (T.setTop (mkF m pc L (.int j :: .ref a :: S))) := by
  obtain ⟨cl, A, q, -⟩ := A
  obtain ⟨hin, hi⟩ := arx_in q hj (List.getElem?_eq_some_iff.mp hv).1
  subst hp; exact k.of (fun _ z => X.X.baloadBytes X.hx (by rw [X.eT]; exact A.1) (State.isArrayOf_alike X.hZ.alike A.2.1) A.2.2 hin (by rw [hi]; exact arx_at q hv) (g := mkF m pc L (.int j :: .ref a :: S)) rfl rfl (X.d hd) _ z)
theorem g_aaload (X : St Z n0 p l e R s m args below meth c own nm bytes ml ret T locs cells slots h) {a : Addr} {j : Int32} {i : Nat} {v : Value} {ty : FieldType} {vs : List Value} (A : Arx Z h a ty vs) (hty : ty.isReference = true) (hj : j.toInt = (i : Int)) (hv : vs[i]? = some v) (hd : decode bytes pc = .ok (.aaload, 1)) (hp : pc + 1 = pc') (k : Go p e below K (T.setTop (mkF m pc' L (v :: S)))) : Go p e below K (T.setTop (mkF m pc L (.int j :: .ref a :: S))) := by
  obtain ⟨cl, A, q, -⟩ := A
  obtain ⟨hin, hi⟩ := arx_in q hj (List.getElem?_eq_some_iff.mp hv).1
  subst hp; exact k.of (fun _ z => X.X.aaload X.hx (by rw [X.eT]; exact A.1) (State.isArrayOf_alike X.hZ.alike A.2.1) hty A.2.2 hin (by rw [hi]; exact arx_at q hv) (g := mkF m pc L (.int j :: .ref a :: S)) rfl rfl (X.d hd) _ z)
theorem g_arraylength (X : St Z n0 p l e R s m args below meth c own nm bytes ml ret T locs cells slots h) {a : Addr} {ty : FieldType} {vs : List Value} {n : Int32} (A : Arx Z h a ty vs) (hn : vs.length.toInt32 = n) (hd : decode bytes pc = .ok (.arraylength, 1)) (hp : pc + 1 = pc') (k : Go p e below K (T.setTop (mkF m pc' L (.int n :: S)))) : Go p e below K (T.setTop (mkF m pc L (.ref a :: S))) := by
  obtain ⟨cl, A, q, -⟩ := A
  have e2 : cl.slots.size.toInt32 = n := by rw [← hn, ← q]; simp
  subst hp; exact k.of (fun _ z => X.X.arraylength X.hx (by rw [X.eT]; exact A.1) (State.isArrayOf_alike X.hZ.alike A.2.1) (g := mkF m pc L (.ref a :: S)) rfl rfl (X.d hd) _ (by rw [e2]; exact z))
theorem g_iastore (X : St Z n0 p l e R s m args below meth c own nm bytes ml ret T locs cells slots h) {a : Addr} {j : Int32} {i : Nat} {x : Int32} {vs : List Value} (A : Arx Z h a .int vs) (hj : j.toInt = (i : Int)) (hi : i < vs.length) (ga : n0 ≤ a) (hd : decode bytes pc = .ok (.iastore, 1)) (hp : pc + 1 = pc') (k : ∀ T' h', St Z n0 p l e R s m args below meth c own nm bytes ml ret T' (locs ++ [⟨a, i⟩]) cells slots h' → Wr h h' a i (.int x) → Arx Z h' a .int (vs.set i (.int x)) → Go p e below K (T'.setTop (mkF m pc' L S))) : Go p e below K (T.setTop (mkF m pc L (.int x :: .int j :: .ref a :: S))) := by
  obtain ⟨cl, A, q, hl⟩ := A
  obtain ⟨hin, hn⟩ := arx_in q hj hi
  obtain ⟨T', h', X', e', W, st'⟩ := stI X.X X.hx X.hZ X.eT A hin (g := mkF m pc L (.int x :: .int j :: .ref a :: S)) rfl rfl (X.d hd)
  rw [hn] at W X'
  subst hp; exact (k T' h' (X.to X' e' (Fr.snoc X' X.fr ga) (X.old.wr W ga)) W ⟨_, A.same W, by rw [← q]; simp [Cell.setSlot], by simpa using hl⟩).of st'
theorem g_lastore (X : St Z n0 p l e R s m args below meth c own nm bytes ml ret T locs cells slots h) {a : Addr} {j : Int32} {i : Nat} {x : Int64} {vs : List Value} (A : Arx Z h a .long vs) (hj : j.toInt = (i : Int)) (hi : i < vs.length) (ga : n0 ≤ a) (hd : decode bytes pc = .ok (.lastore, 1)) (hp : pc + 1 = pc') (k : ∀ T' h', St Z n0 p l e R s m args below meth c own nm bytes ml ret T' (locs ++ [⟨a, i⟩]) cells slots h' → Wr h h' a i (.long x) → Arx Z h' a .long (vs.set i (.long x)) → Go p e below K (T'.setTop (mkF m pc' L S))) : Go p e below K (T.setTop (mkF m pc L (.long x :: .int j :: .ref a :: S))) := by
  obtain ⟨cl, A, q, hl⟩ := A
  obtain ⟨hin, hn⟩ := arx_in q hj hi
  obtain ⟨T', h', X', e', W, st'⟩ := stJ X.X X.hx X.hZ X.eT A hin (g := mkF m pc L (.long x :: .int j :: .ref a :: S)) rfl rfl (X.d hd)
  rw [hn] at W X'
  subst hp; exact (k T' h' (X.to X' e' (Fr.snoc X' X.fr ga) (X.old.wr W ga)) W ⟨_, A.same W, by rw [← q]; simp [Cell.setSlot], by simpa using hl⟩).of st'
theorem g_castore (X : St Z n0 p l e R s m args below meth c own nm bytes ml ret T locs cells slots h) {a : Addr} {j : Int32} {i : Nat} {x : Int32} {vs : List Value} (A : Arx Z h a .char vs) (hj : j.toInt = (i : Int)) (hi : i < vs.length) (ga : n0 ≤ a) (hd : decode bytes pc = .ok (.castore, 1)) (hp : pc + 1 = pc') (k : ∀ T' h', St Z n0 p l e R s m args below meth c own nm bytes ml ret T' (locs ++ [⟨a, i⟩]) cells slots h' → Wr h h' a i (.int (nar .char x)) → Arx Z h' a .char (vs.set i (.int (nar .char x))) → Go p e below K (T'.setTop (mkF m pc' L S))) : Go p e below K (T.setTop (mkF m pc L (.int x :: .int j :: .ref a :: S))) := by
  obtain ⟨cl, A, q, hl⟩ := A
  obtain ⟨hin, hn⟩ := arx_in q hj hi
  obtain ⟨T', h', X', e', W, st'⟩ := stC X.X X.hx X.hZ X.eT A hin (g := mkF m pc L (.int x :: .int j :: .ref a :: S)) rfl rfl (X.d hd)
  rw [hn] at W X'
  subst hp; exact (k T' h' (X.to X' e' (Fr.snoc X' X.fr ga) (X.old.wr W ga)) W ⟨_, A.same W, by rw [← q]; simp [Cell.setSlot], by simpa using hl⟩).of st'
theorem g_bastore (X : St Z n0 p l e R s m args below meth c own nm bytes ml ret T locs cells slots h) {a : Addr} {j : Int32} {i : Nat} {x : Int32} {vs : List Value} (A : Arx Z h a .byte vs) (hj : j.toInt = (i : Int)) (hi : i < vs.length) (ga : n0 ≤ a) (hd : decode bytes pc = .ok (.bastore, 1)) (hp : pc + 1 = pc') (k : ∀ T' h', St Z n0 p l e R s m args below meth c own nm bytes ml ret T' (locs ++ [⟨a, i⟩]) cells slots h' → Wr h h' a i (.int (nar .byte x)) → Arx Z h' a .byte (vs.set i (.int (nar .byte x))) → Go p e below K (T'.setTop (mkF m pc' L S))) : Go p e below K (T.setTop (mkF m pc L (.int x :: .int j :: .ref a :: S))) := by
  obtain ⟨cl, A, q, hl⟩ := A
  obtain ⟨hin, hn⟩ := arx_in q hj hi
  obtain ⟨T', h', X', e', W, st'⟩ := stB X.X X.hx X.hZ X.eT A hin (g := mkF m pc L (.int x :: .int j :: .ref a :: S)) rfl rfl (X.d hd)
  rw [hn] at W X'
  subst hp; exact (k T' h' (X.to X' e' (Fr.snoc X' X.fr ga) (X.old.wr W ga)) W ⟨_, A.same W, by rw [← q]; simp [Cell.setSlot], by simpa using hl⟩).of st'
theorem g_newarray (X : St Z n0 p l e R s m args below meth c own nm bytes ml ret T locs cells slots h) {aty : ArrayType} {n : Int32} {cap : Nat} {vs : List Value} (w : (Jvm.Cond.arrayClass (newarray.typeOf aty)).before a0 Z = true) (hn : ¬ n < 0) (hcap : n.toNatClampNeg ≤ cap) (hvs : List.replicate n.toNatClampNeg (defaultValue (newarray.typeOf aty)) = vs) (hb : cap * 8 ≤ 536870912) (hd : decode bytes pc = .ok (.newarray aty, 2)) (hp : pc + 2 = pc') (hc : cells + 1 ≤ R.cells) (hl : slots + cap ≤ R.slots)
    (k : ∀ T' h' a, St Z n0 p l e R s m args below meth c own nm bytes ml ret T' locs (cells + 1) (slots + cap) h' → a = h.size → Ext h h' → Arx Z h' a (newarray.typeOf aty) vs → n0 ≤ a → Go p e below K (T'.setTop (mkF m pc' L (.ref a :: S)))) : Go p e below K (T.setTop (mkF m pc L (.int n :: S))) := by
  obtain ⟨T', h', cA, X', e', E, A, st'⟩ := newP X.X X.hx X.hZ w X.eT (g := mkF m pc L (.int n :: S)) rfl (X.d hd) rfl hn hcap hb hc hl
  subst hp; exact (k T' h' _ (X.to X' e' X.fr (X.old.ext E)) rfl E ⟨_, A, (arx_new _ _ _).trans hvs, by rw [← hvs, List.length_replicate]; omega⟩ X.sz).of st'
theorem g_callSB (X : St Z n0 p l e R s m args below meth c own nm bytes ml ret T locs cells slots h) {i : Nat} {y : MethodName} {b' : ByteArray} {ml' : Nat} {ret' : Option FieldType} {cc ss : Nat} {Q : Option Value → Heap → List Loc → Prop} {ps : List FieldType} {r : Option FieldType} {W : Nat} {S0 rest : List Value} (argsL : List Value) (w1 : (Jvm.Cond.methodLink own i y).before a0 Z = true) (w2 : (Jvm.Cond.static y).before a0 Z = true) (w0 : (Jvm.Cond.initialized y.cls).before a0 Z = true) (w4 : (Jvm.Cond.code y b' ml' ret').before a0 Z = true) (Bk : Back l R p e below s args y 3 W (fun A a' => a' = argsL.toArray ∧ A.U.heap = h ∧ A.cells + cc ≤ R.cells ∧ A.slots + ss ≤ R.slots) (fun A _ v B => ∃ L, Q v B.U.heap L ∧ B.locs = A.locs ++ L ∧ B.cells = A.cells + cc ∧ B.slots = A.slots + ss)) (hy : y.cls ≠ "java/lang/invoke/MethodHandle" ∧ y.cls ≠ "java/lang/invoke/VarHandle") (hc : cells + cc ≤ R.cells) (hs : slots + ss ≤ R.slots) (hL : L.size = ml) (hps : parseMethodDescriptor y.desc = some ⟨ps, r⟩) (hlen : argsL.length = ps.length) (hS : S0 = argsL.reverse ++ rest) (hW : (rest.map fun v => v.category).sum = W) (hd : decode bytes pc = .ok (.invokestatic i, 3)) (hp : pc + 3 = pc') (k : ∀ v T' h' L'', (Old Z n0 h' → Fr n0 L'' → St Z n0 p l e R s m args below meth c own nm bytes ml ret T' (locs ++ L'') (cells + cc) (slots + ss) h') → Q v h' L'' → Go p e below K (T'.setTop (mkF m pc' L (v.toList ++ rest)))) : Go p e below K (T.setTop (mkF m pc L S0)) := by
  subst hS hp
  obtain ⟨v, _, ⟨T', L'', k', n'⟩, -, X', ⟨Lc, hQ, l', y', z'⟩, st'⟩ := Jvm.LawKit.callS X.X X.hx (y := y) X.own_ (mvT X.hZ w1) (mvT X.hZ w2) (mvT X.hZ w0) (mvT X.hZ w4) hy Bk (g := mkF m pc L (argsL.reverse ++ rest)) rfl (by rw [X.ml_]; exact hL) (argsL := argsL) (rest := rest) (lenOf hps hlen) rfl (by show 2 * 0 + _ ≤ _; rw [hW, Nat.mul_zero, Nat.zero_add]; exact Nat.le_refl _) (X.d hd) (fun _ _ => ⟨rfl, X.eT, hc, hs⟩)
  dsimp only [Pt.U, Pt.locs, Pt.cells, Pt.slots] at X' l' y' z' st' hQ
  subst l' y' z'
  exact (k v T' T'.heap Lc (fun hz hF => ⟨X', X.2.1, rfl, X.fr.app hF, hz⟩) hQ).of st'
theorem g_callS (X : St Z n0 p l e R s m args below meth c own nm bytes ml ret T locs cells slots h) {i : Nat} {y : MethodName} {b' : ByteArray} {ml' : Nat} {ret' : Option FieldType} {rm : Room} {Q : Option Value → Heap → List Loc → Prop} {ps : List FieldType} {r : Option FieldType} {W : Nat} {S0 rest : List Value} (argsL : List Value) (w1 : (Jvm.Cond.methodLink own i y).before a0 Z = true) (w2 : (Jvm.Cond.static y).before a0 Z = true) (w0 : (Jvm.Cond.initialized y.cls).before a0 Z = true) (w4 : (Jvm.Cond.code y b' ml' ret').before a0 Z = true) (w3 : (Jvm.Cond.initialized y.cls).before a0 Z = true) (C : Con l Z y b' ml' ret' [] rm rm.cells rm.slots argsL.toArray h Q) (hy : y.cls ≠ "java/lang/invoke/MethodHandle" ∧ y.cls ≠ "java/lang/invoke/VarHandle") (hf : rm.frames + 1 ≤ R.frames) (hl : W + (ml' + 11) + rm.locals ≤ R.locals) (hc : cells + rm.cells ≤ R.cells) (hs : slots + rm.slots ≤ R.slots) (hL : L.size = ml) (hps : parseMethodDescriptor y.desc = some ⟨ps, r⟩) (hlen : argsL.length = ps.length) (hS : S0 = argsL.reverse ++ rest) (hW : (rest.map fun v => v.category).sum = W) (hd : decode bytes pc = .ok (.invokestatic i, 3)) (hp : pc + 3 = pc') (k : ∀ v T' h' L'', (Old Z n0 h' → Fr n0 L'' → St Z n0 p l e R s m args below meth c own nm bytes ml ret T' (locs ++ L'') (cells + rm.cells) (slots + rm.slots) h') → Q v h' L'' → Go p e below K (T'.setTop (mkF m pc' L (v.toList ++ rest)))) : Go p e below K (T.setTop (mkF m pc L S0)) :=
  g_callSB X argsL w1 w2 w0 w4 (backOf (W := W) C X.hZ w4 w3 hf hl) hy hc hs hL hps hlen hS hW hd hp k
theorem g_callIB (X : St Z n0 p l e R s m args below meth c own nm bytes ml ret T locs cells slots h) {i : Nat} {y : MethodName} {b' : ByteArray} {ml' : Nat} {ret' : Option FieldType} {cc ss : Nat} {Q : Option Value → Heap → List Loc → Prop} {ps : List FieldType} {r : Option FieldType} {W : Nat} {S0 rest : List Value} (argsL : List Value) {a : Addr} (hinit : y.name = "<init>") (w1 : (Jvm.Cond.methodLink own i y).before a0 Z = true) (w2 : (Jvm.Cond.instanceMethod y).before a0 Z = true) (hr : ret' = none) (w4 : (Jvm.Cond.code y b' ml' ret').before a0 Z = true) (Bk : Back l R p e below s args y 3 W (fun A a' => a' = (.ref a :: argsL).toArray ∧ A.U.heap = h ∧ A.cells + cc ≤ R.cells ∧ A.slots + ss ≤ R.slots) (fun A _ v B => ∃ L, Q v B.U.heap L ∧ B.locs = A.locs ++ L ∧ B.cells = A.cells + cc ∧ B.slots = A.slots + ss)) (hy : y.cls ≠ "java/lang/invoke/MethodHandle" ∧ y.cls ≠ "java/lang/invoke/VarHandle") (hc : cells + cc ≤ R.cells) (hs : slots + ss ≤ R.slots) (hL : L.size = ml) (hps : parseMethodDescriptor y.desc = some ⟨ps, r⟩) (hlen : argsL.length = ps.length) (hS : S0 = argsL.reverse ++ .ref a :: rest) (hW : (rest.map fun v => v.category).sum = W) (hd : decode bytes pc = .ok (.invokespecial i, 3)) (hp : pc + 3 = pc') (k : ∀ v T' h' L'', (Old Z n0 h' → Fr n0 L'' → St Z n0 p l e R s m args below meth c own nm bytes ml ret T' (locs ++ L'') (cells + cc) (slots + ss) h') → Q v h' L'' → Go p e below K (T'.setTop (mkF m pc' L (v.toList ++ rest)))) : Go p e below K (T.setTop (mkF m pc L S0)) := by
  subst hS hp
  subst hr
  obtain ⟨v, _, ⟨T', L'', k', n'⟩, -, X', ⟨Lc, hQ, l', y', z'⟩, st'⟩ := X.X.specialBack X.hx (y := y) hinit X.own_ (mvT X.hZ w1) (mvT X.hZ w2) (mvT X.hZ w4) hy Bk (g := mkF m pc L (argsL.reverse ++ .ref a :: rest)) rfl (by rw [X.ml_]; exact hL) (Steps.refl _) (a := a) (argsL := argsL) (rest := rest) (lenOf hps hlen) rfl (by show 2 * 0 + _ ≤ _; rw [hW, Nat.mul_zero, Nat.zero_add]; exact Nat.le_refl _) (X.d hd) (fun _ _ => ⟨rfl, X.eT, hc, hs⟩)
  dsimp only [Pt.U, Pt.locs, Pt.cells, Pt.slots] at X' l' y' z' st' hQ
  subst l' y' z'
  exact (k v T' T'.heap Lc (fun hz hF => ⟨X', X.2.1, rfl, X.fr.app hF, hz⟩) hQ).of (fun _ q => st'.trans q)
theorem g_callI (X : St Z n0 p l e R s m args below meth c own nm bytes ml ret T locs cells slots h) {i : Nat} {y : MethodName} {b' : ByteArray} {ml' : Nat} {ret' : Option FieldType} {rm : Room} {Q : Option Value → Heap → List Loc → Prop} {ps : List FieldType} {r : Option FieldType} {W : Nat} {S0 rest : List Value} (argsL : List Value) {a : Addr} (hinit : y.name = "<init>") (w1 : (Jvm.Cond.methodLink own i y).before a0 Z = true) (w2 : (Jvm.Cond.instanceMethod y).before a0 Z = true) (hr : ret' = none) (w4 : (Jvm.Cond.code y b' ml' ret').before a0 Z = true) (w3 : (Jvm.Cond.initialized y.cls).before a0 Z = true) (C : Con l Z y b' ml' ret' [] rm rm.cells rm.slots (.ref a :: argsL).toArray h Q) (hy : y.cls ≠ "java/lang/invoke/MethodHandle" ∧ y.cls ≠ "java/lang/invoke/VarHandle") (hf : rm.frames + 1 ≤ R.frames) (hl : W + (ml' + 11) + rm.locals ≤ R.locals) (hc : cells + rm.cells ≤ R.cells) (hs : slots + rm.slots ≤ R.slots) (hL : L.size = ml) (hps : parseMethodDescriptor y.desc = some ⟨ps, r⟩) (hlen : argsL.length = ps.length) (hS : S0 = argsL.reverse ++ .ref a :: rest) (hW : (rest.map fun v => v.category).sum = W) (hd : decode bytes pc = .ok (.invokespecial i, 3)) (hp : pc + 3 = pc') (k : ∀ v T' h' L'', (Old Z n0 h' → Fr n0 L'' → St Z n0 p l e R s m args below meth c own nm bytes ml ret T' (locs ++ L'') (cells + rm.cells) (slots + rm.slots) h') → Q v h' L'' → Go p e below K (T'.setTop (mkF m pc' L (v.toList ++ rest)))) : Go p e below K (T.setTop (mkF m pc L S0)) :=
  g_callIB X argsL hinit w1 w2 hr w4 (backOf (W := W) C X.hZ w4 w3 hf hl) hy hc hs hL hps hlen hS hW hd hp k
theorem g_callVB (X : St Z n0 p l e R s m args below meth c own nm bytes ml ret T locs cells slots h) {i : Nat} {y : MethodName} {b' : ByteArray} {ml' : Nat} {ret' : Option FieldType} {cc ss : Nat} {Q : Option Value → Heap → List Loc → Prop} {ps : List FieldType} {r : Option FieldType} {W : Nat} {S0 rest : List Value} (argsL : List Value) {C0 : String} {z : MethodName} {a : Addr} (w1 : (Jvm.Cond.methodLink own i y).before a0 Z = true) (w2 : (Jvm.Cond.declares y).before a0 Z = true) (nf : NotFace s y) (w5 : (Jvm.Cond.selects C0 y z).before a0 Z = true) (w6 : (Jvm.Cond.instanceMethod z).before a0 Z = true) (E : Exa Z h a C0) (w4 : (Jvm.Cond.code z b' ml' ret').before a0 Z = true) (Bk : Back l R p e below s args z 3 W (fun A a' => a' = (.ref a :: argsL).toArray ∧ A.U.heap = h ∧ A.cells + cc ≤ R.cells ∧ A.slots + ss ≤ R.slots) (fun A _ v B => ∃ L, Q v B.U.heap L ∧ B.locs = A.locs ++ L ∧ B.cells = A.cells + cc ∧ B.slots = A.slots + ss)) (hy : y.cls ≠ "java/lang/invoke/MethodHandle" ∧ y.cls ≠ "java/lang/invoke/VarHandle") (hc : cells + cc ≤ R.cells) (hs : slots + ss ≤ R.slots) (hL : L.size = ml) (hps : parseMethodDescriptor y.desc = some ⟨ps, r⟩) (hlen : argsL.length = ps.length) (hS : S0 = argsL.reverse ++ .ref a :: rest) (hW : (rest.map fun v => v.category).sum = W) (hd : decode bytes pc = .ok (.invokevirtual i, 3)) (hp : pc + 3 = pc') (k : ∀ v T' h' L'', (Old Z n0 h' → Fr n0 L'' → St Z n0 p l e R s m args below meth c own nm bytes ml ret T' (locs ++ L'') (cells + cc) (slots + ss) h') → Q v h' L'' → Go p e below K (T'.setTop (mkF m pc' L (v.toList ++ rest)))) : Go p e below K (T.setTop (mkF m pc L S0)) := by
  subst hS hp
  obtain ⟨cq, kq, q1, q2, q3⟩ := isOf X.hZ X.eT E
  obtain ⟨v, _, ⟨T', L'', k', n'⟩, -, X', ⟨Lc, hQ, l', y', z'⟩, st'⟩ := X.X.virtualBack X.hx (y := y) (z := z) X.own_ (mvT X.hZ w1) (mvT X.hZ w2) nf (mvT X.hZ w5) (mvT X.hZ w6) hy Bk q1 q3 (g := mkF m pc L (argsL.reverse ++ .ref a :: rest)) rfl (by rw [X.ml_]; exact hL) (Steps.refl _) (argsL := argsL) (rest := rest) (lenOf hps hlen) rfl (by show 2 * 0 + _ ≤ _; rw [hW, Nat.mul_zero, Nat.zero_add]; exact Nat.le_refl _) (X.d hd) (fun _ _ => ⟨rfl, X.eT, hc, hs⟩)
  dsimp only [Pt.U, Pt.locs, Pt.cells, Pt.slots] at X' l' y' z' st' hQ
  subst l' y' z'
  exact (k v T' T'.heap Lc (fun hz hF => ⟨X', X.2.1, rfl, X.fr.app hF, hz⟩) hQ).of (fun _ q => st'.trans q)
theorem g_callV (X : St Z n0 p l e R s m args below meth c own nm bytes ml ret T locs cells slots h) {i : Nat} {y : MethodName} {b' : ByteArray} {ml' : Nat} {ret' : Option FieldType} {rm : Room} {Q : Option Value → Heap → List Loc → Prop} {ps : List FieldType} {r : Option FieldType} {W : Nat} {S0 rest : List Value} (argsL : List Value) {C0 : String} {z : MethodName} {a : Addr} (w1 : (Jvm.Cond.methodLink own i y).before a0 Z = true) (w2 : (Jvm.Cond.declares y).before a0 Z = true) (nf : NotFace s y) (w5 : (Jvm.Cond.selects C0 y z).before a0 Z = true) (w6 : (Jvm.Cond.instanceMethod z).before a0 Z = true) (E : Exa Z h a C0) (w4 : (Jvm.Cond.code z b' ml' ret').before a0 Z = true) (w3 : (Jvm.Cond.initialized z.cls).before a0 Z = true) (C : Con l Z z b' ml' ret' [] rm rm.cells rm.slots (.ref a :: argsL).toArray h Q) (hy : y.cls ≠ "java/lang/invoke/MethodHandle" ∧ y.cls ≠ "java/lang/invoke/VarHandle") (hf : rm.frames + 1 ≤ R.frames) (hl : W + (ml' + 11) + rm.locals ≤ R.locals) (hc : cells + rm.cells ≤ R.cells) (hs : slots + rm.slots ≤ R.slots) (hL : L.size = ml) (hps : parseMethodDescriptor y.desc = some ⟨ps, r⟩) (hlen : argsL.length = ps.length) (hS : S0 = argsL.reverse ++ .ref a :: rest) (hW : (rest.map fun v => v.category).sum = W) (hd : decode bytes pc = .ok (.invokevirtual i, 3)) (hp : pc + 3 = pc') (k : ∀ v T' h' L'', (Old Z n0 h' → Fr n0 L'' → St Z n0 p l e R s m args below meth c own nm bytes ml ret T' (locs ++ L'') (cells + rm.cells) (slots + rm.slots) h') → Q v h' L'' → Go p e below K (T'.setTop (mkF m pc' L (v.toList ++ rest)))) : Go p e below K (T.setTop (mkF m pc L S0)) :=
  g_callVB X argsL w1 w2 nf w5 w6 E w4 (backOf (W := W) C X.hZ w4 w3 hf hl) hy hc hs hL hps hlen hS hW hd hp k
theorem g_retI (X : St Z n0 p l e R s m args below meth c own nm bytes ml ret T locs cells slots h) {C N : Nat} {Q : Option Value → Heap → List Loc → Prop} {z : Int32} (hr : ret = some .int) (hd : decode bytes pc = .ok (.ireturn, 1)) (hc : cells ≤ C) (hs : slots ≤ N) (q : Q (some (.int z)) h locs) : Go p e below (Kq s C N Q) (T.setTop (mkF m pc L (.int z :: S))) := by
  obtain ⟨fs, hl, hrun, hended, hW, hsame⟩ := X.X.leave (v := (some (.int z))) (fun h => by rw [X.ret_, hr] at h; cases h) X.lk
  exact ⟨_, _, retOut X.X X.hx (t := .int) (X.ret_.trans hr) rfl (Or.inl ⟨rfl, Or.inl rfl, _, rfl⟩) (X.d hd) hl, hrun, hended, _, _, rfl, (show Q _ T.heap _ by rw [X.eT]; exact q), ⟨_, rfl⟩, hW, hsame.mono hc hs⟩
theorem g_retL (X : St Z n0 p l e R s m args below meth c own nm bytes ml ret T locs cells slots h) {C N : Nat} {Q : Option Value → Heap → List Loc → Prop} {z : Int64} (hr : ret = some .long) (hd : decode bytes pc = .ok (.lreturn, 1)) (hc : cells ≤ C) (hs : slots ≤ N) (q : Q (some (.long z)) h locs) : Go p e below (Kq s C N Q) (T.setTop (mkF m pc L (.long z :: S))) := by
  obtain ⟨fs, hl, hrun, hended, hW, hsame⟩ := X.X.leave (v := (some (.long z))) (fun h => by rw [X.ret_, hr] at h; cases h) X.lk
  exact ⟨_, _, retOut X.X X.hx (t := .long) (X.ret_.trans hr) rfl (Or.inr (Or.inl ⟨rfl, rfl, _, rfl⟩)) (X.d hd) hl, hrun, hended, _, _, rfl, (show Q _ T.heap _ by rw [X.eT]; exact q), ⟨_, rfl⟩, hW, hsame.mono hc hs⟩
theorem g_retA (X : St Z n0 p l e R s m args below meth c own nm bytes ml ret T locs cells slots h) {C N : Nat} {Q : Option Value → Heap → List Loc → Prop} {z : Value} {t : FieldType} (hz : z.isRef = true) (ht : t.isReference = true) (hr : ret = some t) (hd : decode bytes pc = .ok (.areturn, 1)) (hc : cells ≤ C) (hs : slots ≤ N) (q : Q (some z) h locs) : Go p e below (Kq s C N Q) (T.setTop (mkF m pc L (z :: S))) := by
  obtain ⟨fs, hl, hrun, hended, hW, hsame⟩ := X.X.leave (v := (some z)) (fun h => by rw [X.ret_, hr] at h; cases h) X.lk
  exact ⟨_, _, retOut X.X X.hx (t := t) (X.ret_.trans hr) (by cases z <;> cases t <;> simp [Value.isRef, FieldType.isReference, narrow] at hz ht ⊢) (Or.inr (Or.inr (Or.inr (Or.inr ⟨rfl, ht, hz⟩)))) (X.d hd) hl, hrun, hended, _, _, rfl, (show Q _ T.heap _ by rw [X.eT]; exact q), ⟨_, rfl⟩, hW, hsame.mono hc hs⟩
theorem g_retN (X : St Z n0 p l e R s m args below meth c own nm bytes ml ret T locs cells slots h) {C N : Nat} {Q : Option Value → Heap → List Loc → Prop} {z : Int32} {t : FieldType} (ht : t = .boolean ∨ t = .byte ∨ t = .char ∨ t = .short) (hr : ret = some t) (hd : decode bytes pc = .ok (.ireturn, 1)) (hc : cells ≤ C) (hs : slots ≤ N) (q : Q (some (.int (nar t z))) h locs) : Go p e below (Kq s C N Q) (T.setTop (mkF m pc L (.int z :: S))) := by
  obtain ⟨fs, hl, hrun, hended, hW, hsame⟩ := X.X.leave (v := (some (.int (nar t z)))) (fun h => by rw [X.ret_, hr] at h; cases h) X.lk
  exact ⟨_, _, retN X.X X.hx (t := t) (X.ret_.trans hr) ht (X.d hd) hl, hrun, hended, _, _, rfl, (show Q _ T.heap _ by rw [X.eT]; exact q), ⟨_, rfl⟩, hW, hsame.mono hc hs⟩
theorem g_ret (X : St Z n0 p l e R s m args below meth c own nm bytes ml ret T locs cells slots h) {C N : Nat} {Q : Option Value → Heap → List Loc → Prop} (hr : ret = none) (hd : decode bytes pc = .ok (.return_, 1)) (hc : cells ≤ C) (hs : slots ≤ N) (q : Q none h locs) : Go p e below (Kq s C N Q) (T.setTop (mkF m pc L [])) := by
  obtain ⟨fs, hl, hrun, hended, hW, hsame⟩ := X.X.leave (v := none) (fun _ => rfl) X.lk
  exact ⟨_, _, X.X.returnOut X.hx (X.ret_.trans hr) (X.d hd) hl, hrun, hended, _, _, rfl, (show Q _ T.heap _ by rw [X.eT]; exact q), ⟨_, rfl⟩, hW, hsame.mono hc hs⟩
theorem nm0 {a : Addr} : a ∉ ([] : List Addr) := List.not_mem_nil
theorem nm1 {a b : Addr} (h : a ≠ b) : a ∉ [b] := by simpa using h
theorem nm2 {a b d : Addr} (h : a ≠ b) (h' : a ≠ d) : a ∉ [b, d] := by simp [h, h']
theorem keep_ext {h' : Heap} (E : Ext h h') (ws : List Addr) : Keep h h' ws := (Keep.refl h ws).ext E
theorem ne_new {a b k : Nat} (h1 : a < k) (h2 : b = k) : a ≠ b := by omega
theorem ne_new' {a b k : Nat} (h1 : a < k) (h2 : b = k) : b ≠ a := by omega
end Own

theorem m0 : (Jvm.Cond.classLink "com/example/branchwise/branchwise/dd/LiveDiagramsReleasePinLaw" (7 : Nat) "com/example/branchwise/branchwise/dd/LiveDiagrams") ∈ tables_1 := List.mem_of_getElem? (i := 0) rfl
theorem m1 : (Jvm.Cond.instantiable "com/example/branchwise/branchwise/dd/LiveDiagrams" (3 : Nat)) ∈ tables_1 := List.mem_of_getElem? (i := 1) rfl
theorem m2 : (Jvm.Cond.initialized "com/example/branchwise/branchwise/dd/LiveDiagrams") ∈ tables_1 := List.mem_of_getElem? (i := 2) rfl
theorem m3 : (Jvm.Cond.methodLink "com/example/branchwise/branchwise/dd/LiveDiagramsReleasePinLaw" (11 : Nat) ({ cls := "com/example/branchwise/branchwise/dd/LiveDiagrams", name := "<init>", desc := "(Lcom/example/branchwise/branchwise/dd/DiagramManager;)V" } : Jvm.MethodName)) ∈ tables_1 := List.mem_of_getElem? (i := 3) rfl
theorem m4 : (Jvm.Cond.instanceMethod ({ cls := "com/example/branchwise/branchwise/dd/LiveDiagrams", name := "<init>", desc := "(Lcom/example/branchwise/branchwise/dd/DiagramManager;)V" } : Jvm.MethodName)) ∈ tables_1 := List.mem_of_getElem? (i := 4) rfl
theorem m5 : (Jvm.Cond.code ({ cls := "com/example/branchwise/branchwise/dd/LiveDiagrams", name := "<init>", desc := "(Lcom/example/branchwise/branchwise/dd/DiagramManager;)V" } : Jvm.MethodName) prog_16_method_1_code (2 : Nat) (Option.none : Option Jvm.ClassFile.FieldType)) ∈ tables_1 := List.mem_of_getElem? (i := 5) rfl
theorem m6 : (Jvm.Cond.methodLink "com/example/branchwise/branchwise/dd/LiveDiagrams" (1 : Nat) ({ cls := "java/lang/Object", name := "<init>", desc := "()V" } : Jvm.MethodName)) ∈ tables_1 := List.mem_of_getElem? (i := 6) rfl
theorem m7 : (Jvm.Cond.instanceMethod ({ cls := "java/lang/Object", name := "<init>", desc := "()V" } : Jvm.MethodName)) ∈ tables_1 := List.mem_of_getElem? (i := 7) rfl
theorem m8 : (Jvm.Cond.code ({ cls := "java/lang/Object", name := "<init>", desc := "()V" } : Jvm.MethodName) object_method_1_code (1 : Nat) (Option.none : Option Jvm.ClassFile.FieldType)) ∈ tables_1 := List.mem_of_getElem? (i := 8) rfl
theorem m9 : (Jvm.Cond.arrayClass Jvm.ClassFile.FieldType.int) ∈ tables_1 := List.mem_of_getElem? (i := 9) rfl
theorem m10 : (Jvm.Cond.fieldLink "com/example/branchwise/branchwise/dd/LiveDiagrams" (7 : Nat) "com/example/branchwise/branchwise/dd/LiveDiagrams" "held" "[I") ∈ tables_1 := List.mem_of_getElem? (i := 10) rfl
theorem m11 : (Jvm.Cond.lays "com/example/branchwise/branchwise/dd/LiveDiagrams" "com/example/branchwise/branchwise/dd/LiveDiagrams" "held" "[I") ∈ tables_1 := List.mem_of_getElem? (i := 11) rfl
theorem m12 : (Jvm.Cond.fieldLink "com/example/branchwise/branchwise/dd/LiveDiagrams" (13 : Nat) "com/example/branchwise/branchwise/dd/LiveDiagrams" "diagrams" "Lcom/example/branchwise/branchwise/dd/DiagramManager;") ∈ tables_1 := List.mem_of_getElem? (i := 12) rfl
theorem m13 : (Jvm.Cond.laysFinal "com/example/branchwise/branchwise/dd/LiveDiagrams" "com/example/branchwise/branchwise/dd/LiveDiagrams" "diagrams" "Lcom/example/branchwise/branchwise/dd/DiagramManager;") ∈ tables_1 := List.mem_of_getElem? (i := 13) rfl
theorem m14 : (Jvm.Cond.methodLink "com/example/branchwise/branchwise/dd/LiveDiagramsReleasePinLaw" (18 : Nat) ({ cls := "com/example/branchwise/branchwise/dd/LiveDiagrams", name := "mark", desc := "()I" } : Jvm.MethodName)) ∈ tables_1 := List.mem_of_getElem? (i := 14) rfl
theorem m15 : (Jvm.Cond.declares ({ cls := "com/example/branchwise/branchwise/dd/LiveDiagrams", name := "mark", desc := "()I" } : Jvm.MethodName)) ∈ tables_1 := List.mem_of_getElem? (i := 15) rfl
theorem m16 : (Jvm.Cond.instanceMethod ({ cls := "com/example/branchwise/branchwise/dd/LiveDiagrams", name := "mark", desc := "()I" } : Jvm.MethodName)) ∈ tables_1 := List.mem_of_getElem? (i := 16) rfl
theorem m17 : (Jvm.Cond.selects "com/example/branchwise/branchwise/dd/LiveDiagrams" ({ cls := "com/example/branchwise/branchwise/dd/LiveDiagrams", name := "mark", desc := "()I" } : Jvm.MethodName) ({ cls := "com/example/branchwise/branchwise/dd/LiveDiagrams", name := "mark", desc := "()I" } : Jvm.MethodName)) ∈ tables_1 := List.mem_of_getElem? (i := 17) rfl
theorem m18 : (Jvm.Cond.code ({ cls := "com/example/branchwise/branchwise/dd/LiveDiagrams", name := "mark", desc := "()I" } : Jvm.MethodName) prog_16_method_5_code (1 : Nat) (Option.some Jvm.ClassFile.FieldType.int)) ∈ tables_1 := List.mem_of_getElem? (i := 18) rfl
theorem m19 : (Jvm.Cond.fieldLink "com/example/branchwise/branchwise/dd/LiveDiagrams" (32 : Nat) "com/example/branchwise/branchwise/dd/LiveDiagrams" "count" "I") ∈ tables_1 := List.mem_of_getElem? (i := 19) rfl
theorem m20 : (Jvm.Cond.lays "com/example/branchwise/branchwise/dd/LiveDiagrams" "com/example/branchwise/branchwise/dd/LiveDiagrams" "count" "I") ∈ tables_1 := List.mem_of_getElem? (i := 20) rfl
theorem m21 : (Jvm.Cond.constant "com/example/branchwise/branchwise/dd/LiveDiagramsReleasePinLaw" (22 : Nat) (2147483647 : Int32)) ∈ tables_1 := List.mem_of_getElem? (i := 21) rfl
theorem m22 : (Jvm.Cond.methodLink "com/example/branchwise/branchwise/dd/LiveDiagramsReleasePinLaw" (23 : Nat) ({ cls := "com/example/branchwise/branchwise/dd/LiveDiagrams", name := "release", desc := "(I)V" } : Jvm.MethodName)) ∈ tables_1 := List.mem_of_getElem? (i := 22) rfl
theorem m23 : (Jvm.Cond.declares ({ cls := "com/example/branchwise/branchwise/dd/LiveDiagrams", name := "release", desc := "(I)V" } : Jvm.MethodName)) ∈ tables_1 := List.mem_of_getElem? (i := 23) rfl
theorem m24 : (Jvm.Cond.instanceMethod ({ cls := "com/example/branchwise/branchwise/dd/LiveDiagrams", name := "release", desc := "(I)V" } : Jvm.MethodName)) ∈ tables_1 := List.mem_of_getElem? (i := 24) rfl
theorem m25 : (Jvm.Cond.selects "com/example/branchwise/branchwise/dd/LiveDiagrams" ({ cls := "com/example/branchwise/branchwise/dd/LiveDiagrams", name := "release", desc := "(I)V" } : Jvm.MethodName) ({ cls := "com/example/branchwise/branchwise/dd/LiveDiagrams", name := "release", desc := "(I)V" } : Jvm.MethodName)) ∈ tables_1 := List.mem_of_getElem? (i := 25) rfl
theorem m26 : (Jvm.Cond.code ({ cls := "com/example/branchwise/branchwise/dd/LiveDiagrams", name := "release", desc := "(I)V" } : Jvm.MethodName) prog_16_method_6_code (2 : Nat) (Option.none : Option Jvm.ClassFile.FieldType)) ∈ tables_1 := List.mem_of_getElem? (i := 26) rfl
theorem m27 : (Jvm.Cond.methodLink "com/example/branchwise/branchwise/dd/LiveDiagramsReleasePinLaw" (14 : Nat) ({ cls := "com/example/branchwise/branchwise/dd/LiveDiagrams", name := "hold", desc := "(I)I" } : Jvm.MethodName)) ∈ tables_1 := List.mem_of_getElem? (i := 27) rfl
theorem m28 : (Jvm.Cond.declares ({ cls := "com/example/branchwise/branchwise/dd/LiveDiagrams", name := "hold", desc := "(I)I" } : Jvm.MethodName)) ∈ tables_1 := List.mem_of_getElem? (i := 28) rfl
theorem m29 : (Jvm.Cond.instanceMethod ({ cls := "com/example/branchwise/branchwise/dd/LiveDiagrams", name := "hold", desc := "(I)I" } : Jvm.MethodName)) ∈ tables_1 := List.mem_of_getElem? (i := 29) rfl
theorem m30 : (Jvm.Cond.selects "com/example/branchwise/branchwise/dd/LiveDiagrams" ({ cls := "com/example/branchwise/branchwise/dd/LiveDiagrams", name := "hold", desc := "(I)I" } : Jvm.MethodName) ({ cls := "com/example/branchwise/branchwise/dd/LiveDiagrams", name := "hold", desc := "(I)I" } : Jvm.MethodName)) ∈ tables_1 := List.mem_of_getElem? (i := 30) rfl
theorem m31 : (Jvm.Cond.code ({ cls := "com/example/branchwise/branchwise/dd/LiveDiagrams", name := "hold", desc := "(I)I" } : Jvm.MethodName) prog_16_method_4_code (2 : Nat) (Option.some Jvm.ClassFile.FieldType.int)) ∈ tables_1 := List.mem_of_getElem? (i := 31) rfl
theorem pd_0 : parseMethodDescriptor "(Lcom/example/branchwise/branchwise/dd/DiagramManager;)V" = some ⟨[(.object "com/example/branchwise/branchwise/dd/DiagramManager")], none⟩ := by decide +kernel
theorem pd_1 : parseMethodDescriptor "()I" = some ⟨[], some .int⟩ := by decide +kernel
theorem pd_2 : parseMethodDescriptor "(I)V" = some ⟨[.int], none⟩ := by decide +kernel
theorem pd_3 : parseMethodDescriptor "(I)I" = some ⟨[.int], some .int⟩ := by decide +kernel
theorem pn_0 : plainName "com/example/branchwise/branchwise/dd/LiveDiagrams" = true := by first | (simp [plainName, overriddenIn]; done) | decide +kernel
theorem pn_1 : plainName "com/example/branchwise/branchwise/dd/LiveDiagramsReleasePinLaw" = true := by first | (simp [plainName, overriddenIn]; done) | decide +kernel
/-- a LiveDiagrams whose count is c (the natural k), its array of 64 places -/
def LD (Z : State) (n0 : Nat) (h : Heap) (a : Addr) (c : Int32) (k : Nat) : Prop := ∃ (t : Addr) (vs : List Value), Exa Z h a "com/example/branchwise/branchwise/dd/LiveDiagrams" ∧ Fld Z h a "com/example/branchwise/branchwise/dd/LiveDiagrams" "held" "[I" (.ref t) ∧ Fld Z h a "com/example/branchwise/branchwise/dd/LiveDiagrams" "count" "I" (.int c) ∧ Arx Z h t .int vs ∧ vs.length = 64 ∧ n0 ≤ a ∧ n0 ≤ t ∧ t ≠ a ∧ c.toInt = (k : Int)
theorem own_one {c : Int32} {k : Nat} (h : c.toInt = (k : Int)) (hk : k < 64) : (c + (1 : Int32)).toInt = ((k + 1 : Nat) : Int) := by
  have e1 : (1 : Int32).toInt = 1 := rfl
  rw [Jvm.Kit.i32_add (by omega) (by omega), h, e1]; omega
theorem own_ne {c : Int32} {k : Nat} (h : c.toInt = (k : Int)) (hk : k < 64) : ¬ c = (64 : Int32) := fun q => by
  rw [q] at h; have e1 : (64 : Int32).toInt = 64 := rfl
  omega
theorem own_nz {c : Int32} {k : Nat} (h : c.toInt = (k : Int)) (hk : k < 64) : c + (1 : Int32) ≠ 0 := fun q => by
  have e := own_one h hk; rw [q] at e; have e1 : (0 : Int32).toInt = 0 := rfl
  omega
theorem own_rem (y : Int32) {c : Int32} {k : Nat} (h : c.toInt = (k : Int)) (hk : k < 64) : ∃ j : Nat, j ≤ k ∧ ((y &&& (2147483647 : Int32)) % (c + (1 : Int32))).toInt = (j : Int) := by
  have e := own_one h hk
  have e1 : (y &&& (2147483647 : Int32)).toInt = y.toInt % 2 ^ 31 := Jvm.Kit.i32_mask y 2147483647 (k := 31) (by decide) (by decide)
  have h0 : 0 ≤ (y &&& (2147483647 : Int32)).toInt := by rw [e1]; omega
  have h2 : ((y &&& (2147483647 : Int32)) % (c + (1 : Int32))).toInt = (y &&& (2147483647 : Int32)).toInt % (c + (1 : Int32)).toInt := by
    rw [Int32.toInt_mod, Int.tmod_eq_emod_of_nonneg h0]
  rw [h2, e]
  generalize (y &&& (2147483647 : Int32)).toInt = u at *
  have h3 : 0 ≤ u % ((k + 1 : Nat) : Int) := Int.emod_nonneg _ (by omega)
  have h4 : u % ((k + 1 : Nat) : Int) < ((k + 1 : Nat) : Int) := Int.emod_lt_of_pos _ (by omega)
  refine ⟨(u % ((k + 1 : Nat) : Int)).toNat, by omega, by omega⟩
theorem own_lt {c : Int32} {k : Nat} (h : c.toInt = (k : Int)) : ¬ c < 0 := by
  rw [Int32.lt_iff_toInt_lt]; have e1 : (0 : Int32).toInt = 0 := rfl
  omega
theorem own_le {c d : Int32} {k j : Nat} (h : c.toInt = (k : Int)) (g : d.toInt = (j : Int)) (q : j ≤ k) : ¬ c < d := by
  rw [Int32.lt_iff_toInt_lt]; omega
theorem d1_0 : decode prog_16_method_1_code 0 = .ok (.aload_n 0, 1) := by decide +kernel
theorem d1_1 : decode prog_16_method_1_code 1 = .ok (.invokespecial 1, 3) := by decide +kernel
theorem d1_4 : decode prog_16_method_1_code 4 = .ok (.aload_n 0, 1) := by decide +kernel
theorem d1_5 : decode prog_16_method_1_code 5 = .ok (.bipush 64, 2) := by decide +kernel
theorem d1_7 : decode prog_16_method_1_code 7 = .ok (.newarray .int, 2) := by decide +kernel
theorem d1_9 : decode prog_16_method_1_code 9 = .ok (.putfield 7, 3) := by decide +kernel
theorem d1_12 : decode prog_16_method_1_code 12 = .ok (.aload_n 0, 1) := by decide +kernel
theorem d1_13 : decode prog_16_method_1_code 13 = .ok (.aload_n 1, 1) := by decide +kernel
theorem d1_14 : decode prog_16_method_1_code 14 = .ok (.putfield 13, 3) := by decide +kernel
theorem d1_17 : decode prog_16_method_1_code 17 = .ok (.return_, 1) := by decide +kernel
theorem ef_1 (m : MethodId) (a : Addr) : entryFrame m #[(.ref a), .null] 2 = mkF m 0 #[.val (.ref a), .val .null] [] := by first | (simp [entryFrame, mkF, argsToLocals, Value.category]; done) | rfl
def R1 : Room := ({ frames := 1, cells := 1, slots := 64, locals := 12 } : Room)
set_option maxRecDepth 65536 in
set_option maxHeartbeats 40000000 in
theorem rm1 (l : Launch) (Z : State) (a0 : Array Value) (hw : ∀ d ∈ tables_1, d.before a0 Z = true) (a : Addr) (h0 : Heap) (n0 : Nat) (hO : Old Z n0 h0) (E_a : Exa Z h0 a "com/example/branchwise/branchwise/dd/LiveDiagrams") (ga : n0 ≤ a) (F_held : Fld Z h0 a "com/example/branchwise/branchwise/dd/LiveDiagrams" "held" "[I" .null) (F_diagrams : Fld Z h0 a "com/example/branchwise/branchwise/dd/LiveDiagrams" "diagrams" "Lcom/example/branchwise/branchwise/dd/DiagramManager;" .null) (F_count : Fld Z h0 a "com/example/branchwise/branchwise/dd/LiveDiagrams" "count" "I" (.int (0 : Int32))) :
    Con l Z (⟨"com/example/branchwise/branchwise/dd/LiveDiagrams", "<init>", "(Lcom/example/branchwise/branchwise/dd/DiagramManager;)V"⟩ : MethodName) prog_16_method_1_code 2 none [] R1 R1.cells R1.slots #[(.ref a), .null] h0 (fun v h L => v = none ∧ Fr n0 L ∧ Old Z n0 h ∧ LD Z n0 h a (0 : Int32) 0) := by
  refine Con.intro (n0 := n0) (plainFor_of_name pn_0) (fun m => ef_1 m a) hO ?_
  intro p e s m below meth c T hs0 X0
  refine g_aloadN X0 d1_0 (pc' := 1) rfl rfl rfl ?_
  refine g_initO X0 (hw _ m6) (hw _ m7) (hw _ m8) rfl d1_1 (pc' := 4) rfl (by decide) (W := 0) rfl (by decide) (fun T1 X1 => ?_)
  refine g_aloadN X1 d1_4 (pc' := 5) rfl rfl rfl ?_
  refine g_bipush X1 d1_5 (pc' := 7) rfl (v := (64 : Int32)) rfl ?_
  refine g_newarray X1 (aty := .int) (cap := 64) (vs := (List.replicate 64 (.int (0 : Int32)))) (hw _ m9) (by decide) (by decide) rfl (by decide) d1_7 (pc' := 9) rfl (by decide) (by decide) (fun T2 h2 b2 X2 g2 E2 A2 l2 => ?_)
  have ne3 : a ≠ b2 := ne_new E_a.lt g2
  have f4 := (F_held.ext E2)
  have f5 := (E_a.ext E2)
  refine g_putF X2 (host := "") (Or.inl (hw _ m10)) Via.refl f4 f5 (Or.inl (hw _ m11)) (hw _ m1) (ty := (.array .int)) (by decide) rfl rfl ga d1_9 (pc' := 12) rfl (fun T6 h6 X6 W6 => ?_)
  have F6 := f4.same W6
  refine g_aloadN X6 d1_12 (pc' := 13) rfl rfl rfl ?_
  refine g_aloadN X6 d1_13 (pc' := 14) rfl rfl rfl ?_
  have f7 := ((F_diagrams.ext E2).other W6 (Or.inr (slot_ne (Or.inr (hw _ m13)) (Or.inl (hw _ m11)) (by decide) (t := (.object "com/example/branchwise/branchwise/dd/DiagramManager")) (t' := (.array .int)) (by decide) (by decide))))
  have f8 := (f5.wr W6)
  refine g_putF X6 (host := "") (Or.inl (hw _ m12)) Via.refl f7 f8 (Or.inr ⟨(hw _ m13), rfl, rfl⟩) (hw _ m1) (ty := (.object "com/example/branchwise/branchwise/dd/DiagramManager")) (by decide) rfl rfl ga d1_14 (pc' := 17) rfl (fun T9 h9 X9 W9 => ?_)
  have F9 := f7.same W9
  have f10 := (f8.wr W9)
  have f11 := (F6.other W9 (Or.inr (slot_ne (Or.inl (hw _ m11)) (Or.inr (hw _ m13)) (by decide) (t := (.array .int)) (t' := (.object "com/example/branchwise/branchwise/dd/DiagramManager")) (by decide) (by decide))))
  have f12 := (((F_count.ext E2).other W6 (Or.inr (slot_ne (Or.inl (hw _ m20)) (Or.inl (hw _ m11)) (by decide) (t := .int) (t' := (.array .int)) (by decide) (by decide)))).other W9 (Or.inr (slot_ne (Or.inl (hw _ m20)) (Or.inr (hw _ m13)) (by decide) (t := .int) (t' := (.object "com/example/branchwise/branchwise/dd/DiagramManager")) (by decide) (by decide))))
  have f13 := ((A2.other W6 (Ne.symm ne3)).other W9 (Ne.symm ne3))
  exact g_ret X9 rfl d1_17 (by decide) (by decide) ⟨rfl, X9.fr, X9.old, _, _, f10, f11, f12, f13, rfl, ga, l2, (Ne.symm ne3), rfl⟩

theorem d3_0 : decode prog_16_method_5_code 0 = .ok (.aload_n 0, 1) := by decide +kernel
theorem d3_1 : decode prog_16_method_5_code 1 = .ok (.getfield 32, 3) := by decide +kernel
theorem d3_4 : decode prog_16_method_5_code 4 = .ok (.ireturn, 1) := by decide +kernel
theorem ef_3 (m : MethodId) (a : Addr) : entryFrame m #[(.ref a)] 1 = mkF m 0 #[.val (.ref a)] [] := by first | (simp [entryFrame, mkF, argsToLocals, Value.category]; done) | rfl
def R3 : Room := ({ frames := 0, cells := 0, slots := 0, locals := 0 } : Room)
set_option maxRecDepth 65536 in
set_option maxHeartbeats 40000000 in
theorem rm3 (l : Launch) (Z : State) (a0 : Array Value) (hw : ∀ d ∈ tables_1, d.before a0 Z = true) (a : Addr) (h0 : Heap) (n0 : Nat) (hO : Old Z n0 h0) (c : Int32) (k : Nat) (H : LD Z n0 h0 a c k) :
    Con l Z (⟨"com/example/branchwise/branchwise/dd/LiveDiagrams", "mark", "()I"⟩ : MethodName) prog_16_method_5_code 1 (some .int) [] R3 R3.cells R3.slots #[(.ref a)] h0 (fun v h L => v = some (.int c) ∧ h0 = h ∧ L = []) := by
  refine Con.intro (n0 := n0) (plainFor_of_name pn_0) (fun m => ef_3 m a) hO ?_
  intro p e s m below meth cc T hs0 X0
  obtain ⟨t, vs, E_a, F_h, F_c, A_t, hvs, ga, gt, nta, hk⟩ := H
  refine g_aloadN X0 d3_0 (pc' := 1) rfl rfl rfl ?_
  refine g_getF X0 (host := "") (Or.inl (hw _ m19)) Via.refl F_c d3_1 (pc' := 4) rfl (fun T14 X14 => ?_)
  exact g_retI X14 rfl d3_4 (by decide) (by decide) ⟨rfl, rfl, rfl⟩

theorem d4_0 : decode prog_16_method_6_code 0 = .ok (.iload_n 1, 1) := by decide +kernel
theorem d4_1 : decode prog_16_method_6_code 1 = .ok (.ifCond .lt 11, 3) := by decide +kernel
theorem d4_4 : decode prog_16_method_6_code 4 = .ok (.iload_n 1, 1) := by decide +kernel
theorem d4_5 : decode prog_16_method_6_code 5 = .ok (.aload_n 0, 1) := by decide +kernel
theorem d4_6 : decode prog_16_method_6_code 6 = .ok (.getfield 32, 3) := by decide +kernel
theorem d4_9 : decode prog_16_method_6_code 9 = .ok (.if_icmp .le 21, 3) := by decide +kernel
theorem d4_30 : decode prog_16_method_6_code 30 = .ok (.aload_n 0, 1) := by decide +kernel
theorem d4_31 : decode prog_16_method_6_code 31 = .ok (.iload_n 1, 1) := by decide +kernel
theorem d4_32 : decode prog_16_method_6_code 32 = .ok (.putfield 32, 3) := by decide +kernel
theorem d4_35 : decode prog_16_method_6_code 35 = .ok (.return_, 1) := by decide +kernel
theorem ef_4 (m : MethodId) (a : Addr) (d : Int32) : entryFrame m #[(.ref a), (.int d)] 2 = mkF m 0 #[.val (.ref a), .val (.int d)] [] := by first | (simp [entryFrame, mkF, argsToLocals, Value.category]; done) | rfl
def R4 : Room := ({ frames := 0, cells := 0, slots := 0, locals := 0 } : Room)
set_option maxRecDepth 65536 in
set_option maxHeartbeats 40000000 in
theorem rm4 (l : Launch) (Z : State) (a0 : Array Value) (hw : ∀ d ∈ tables_1, d.before a0 Z = true) (a : Addr) (d : Int32) (h0 : Heap) (n0 : Nat) (hO : Old Z n0 h0) (c : Int32) (k j : Nat) (H : LD Z n0 h0 a c k) (hj : d.toInt = (j : Int)) (hjk : j ≤ k) :
    Con l Z (⟨"com/example/branchwise/branchwise/dd/LiveDiagrams", "release", "(I)V"⟩ : MethodName) prog_16_method_6_code 2 none [] R4 R4.cells R4.slots #[(.ref a), (.int d)] h0 (fun v h L => v = none ∧ Fr n0 L ∧ Old Z n0 h ∧ LD Z n0 h a d j) := by
  refine Con.intro (n0 := n0) (plainFor_of_name pn_0) (fun m => ef_4 m a d) hO ?_
  intro p e s m below meth cc T hs0 X0
  obtain ⟨t, vs, E_a, F_h, F_c, A_t, hvs, ga, gt, nta, hk⟩ := H
  refine g_iloadN X0 d4_0 (pc' := 1) rfl rfl ?_
  refine g_if_lt_f X0 d4_1 (pc' := 4) rfl (own_lt hj) ?_
  refine g_iloadN X0 d4_4 (pc' := 5) rfl rfl ?_
  refine g_aloadN X0 d4_5 (pc' := 6) rfl rfl rfl ?_
  refine g_getF X0 (host := "") (Or.inl (hw _ m19)) Via.refl F_c d4_6 (pc' := 9) rfl (fun T15 X15 => ?_)
  refine g_icmp_le_t X15 d4_9 (pt := 30) (by decide) (own_le hk hj hjk) ?_
  refine g_aloadN X15 d4_30 (pc' := 31) rfl rfl rfl ?_
  refine g_iloadN X15 d4_31 (pc' := 32) rfl rfl ?_
  refine g_putF X15 (host := "") (Or.inl (hw _ m19)) Via.refl F_c E_a (Or.inl (hw _ m20)) (hw _ m1) (ty := .int) (by decide) rfl rfl ga d4_32 (pc' := 35) rfl (fun T16 h16 X16 W16 => ?_)
  have F16 := F_c.same W16
  have f17 := (E_a.wr W16)
  have f18 := (F_h.other W16 (Or.inr (slot_ne (Or.inl (hw _ m11)) (Or.inl (hw _ m20)) (by decide) (t := (.array .int)) (t' := .int) (by decide) (by decide))))
  have f19 := (A_t.other W16 nta)
  exact g_ret X16 rfl d4_35 (by decide) (by decide) ⟨rfl, X16.fr, X16.old, _, _, f17, f18, F16, f19, hvs, ga, gt, nta, hj⟩

theorem d5_0 : decode prog_16_method_4_code 0 = .ok (.aload_n 0, 1) := by decide +kernel
theorem d5_1 : decode prog_16_method_4_code 1 = .ok (.getfield 32, 3) := by decide +kernel
theorem d5_4 : decode prog_16_method_4_code 4 = .ok (.aload_n 0, 1) := by decide +kernel
theorem d5_5 : decode prog_16_method_4_code 5 = .ok (.getfield 7, 3) := by decide +kernel
theorem d5_8 : decode prog_16_method_4_code 8 = .ok (.arraylength, 1) := by decide +kernel
theorem d5_9 : decode prog_16_method_4_code 9 = .ok (.if_icmp .ne 20, 3) := by decide +kernel
theorem d5_29 : decode prog_16_method_4_code 29 = .ok (.aload_n 0, 1) := by decide +kernel
theorem d5_30 : decode prog_16_method_4_code 30 = .ok (.getfield 7, 3) := by decide +kernel
theorem d5_33 : decode prog_16_method_4_code 33 = .ok (.aload_n 0, 1) := by decide +kernel
theorem d5_34 : decode prog_16_method_4_code 34 = .ok (.getfield 32, 3) := by decide +kernel
theorem d5_37 : decode prog_16_method_4_code 37 = .ok (.iload_n 1, 1) := by decide +kernel
theorem d5_38 : decode prog_16_method_4_code 38 = .ok (.iastore, 1) := by decide +kernel
theorem d5_39 : decode prog_16_method_4_code 39 = .ok (.aload_n 0, 1) := by decide +kernel
theorem d5_40 : decode prog_16_method_4_code 40 = .ok (.dup, 1) := by decide +kernel
theorem d5_41 : decode prog_16_method_4_code 41 = .ok (.getfield 32, 3) := by decide +kernel
theorem d5_44 : decode prog_16_method_4_code 44 = .ok (.iconst 1, 1) := by decide +kernel
theorem d5_45 : decode prog_16_method_4_code 45 = .ok (.iadd, 1) := by decide +kernel
theorem d5_46 : decode prog_16_method_4_code 46 = .ok (.putfield 32, 3) := by decide +kernel
theorem d5_49 : decode prog_16_method_4_code 49 = .ok (.iload_n 1, 1) := by decide +kernel
theorem d5_50 : decode prog_16_method_4_code 50 = .ok (.ireturn, 1) := by decide +kernel
theorem ef_5 (m : MethodId) (a : Addr) (f : Int32) : entryFrame m #[(.ref a), (.int f)] 2 = mkF m 0 #[.val (.ref a), .val (.int f)] [] := by first | (simp [entryFrame, mkF, argsToLocals, Value.category]; done) | rfl
def R5 : Room := ({ frames := 0, cells := 0, slots := 0, locals := 0 } : Room)
set_option maxRecDepth 65536 in
set_option maxHeartbeats 40000000 in
theorem rm5 (l : Launch) (Z : State) (a0 : Array Value) (hw : ∀ d ∈ tables_1, d.before a0 Z = true) (a : Addr) (f : Int32) (h0 : Heap) (n0 : Nat) (hO : Old Z n0 h0) (c : Int32) (k : Nat) (H : LD Z n0 h0 a c k) (hk64 : k < 64) :
    Con l Z (⟨"com/example/branchwise/branchwise/dd/LiveDiagrams", "hold", "(I)I"⟩ : MethodName) prog_16_method_4_code 2 (some .int) [] R5 R5.cells R5.slots #[(.ref a), (.int f)] h0 (fun v h L => v = some (.int f) ∧ Fr n0 L ∧ Old Z n0 h ∧ LD Z n0 h a (c + (1 : Int32)) (k + 1)) := by
  refine Con.intro (n0 := n0) (plainFor_of_name pn_0) (fun m => ef_5 m a f) hO ?_
  intro p e s m below meth cc T hs0 X0
  obtain ⟨t, vs, E_a, F_h, F_c, A_t, hvs, ga, gt, nta, hk⟩ := H
  refine g_aloadN X0 d5_0 (pc' := 1) rfl rfl rfl ?_
  refine g_getF X0 (host := "") (Or.inl (hw _ m19)) Via.refl F_c d5_1 (pc' := 4) rfl (fun T20 X20 => ?_)
  refine g_aloadN X20 d5_4 (pc' := 5) rfl rfl rfl ?_
  refine g_getF X20 (host := "") (Or.inl (hw _ m10)) Via.refl F_h d5_5 (pc' := 8) rfl (fun T21 X21 => ?_)
  refine g_arraylength X21 (n := (64 : Int32)) A_t (by rw [hvs]; rfl) d5_8 (pc' := 9) rfl ?_
  refine g_icmp_ne_t X21 d5_9 (pt := 29) (by decide) (own_ne hk hk64) ?_
  refine g_aloadN X21 d5_29 (pc' := 30) rfl rfl rfl ?_
  refine g_getF X21 (host := "") (Or.inl (hw _ m10)) Via.refl F_h d5_30 (pc' := 33) rfl (fun T22 X22 => ?_)
  refine g_aloadN X22 d5_33 (pc' := 34) rfl rfl rfl ?_
  refine g_getF X22 (host := "") (Or.inl (hw _ m19)) Via.refl F_c d5_34 (pc' := 37) rfl (fun T23 X23 => ?_)
  refine g_iloadN X23 d5_37 (pc' := 38) rfl rfl ?_
  refine g_iastore X23 (i := k) A_t hk (by rw [hvs]; exact hk64) gt d5_38 (pc' := 39) rfl (fun T24 h24 X24 W24 A24 => ?_)
  refine g_aloadN X24 d5_39 (pc' := 40) rfl rfl rfl ?_
  refine g_dup X24 d5_40 (pc' := 41) rfl rfl ?_
  have f25 := (F_c.other W24 (Or.inl (Ne.symm nta)))
  refine g_getF X24 (host := "") (Or.inl (hw _ m19)) Via.refl f25 d5_41 (pc' := 44) rfl (fun T26 X26 => ?_)
  refine g_iconst X26 d5_44 (pc' := 45) rfl (v := (1 : Int32)) rfl ?_
  refine g_iadd X26 d5_45 (pc' := 46) rfl ?_
  have f27 := (E_a.wr W24)
  refine g_putF X26 (host := "") (Or.inl (hw _ m19)) Via.refl f25 f27 (Or.inl (hw _ m20)) (hw _ m1) (ty := .int) (by decide) rfl rfl ga d5_46 (pc' := 49) rfl (fun T28 h28 X28 W28 => ?_)
  have F28 := f25.same W28
  refine g_iloadN X28 d5_49 (pc' := 50) rfl rfl ?_
  have f29 := (f27.wr W28)
  have f30 := ((F_h.other W24 (Or.inl (Ne.symm nta))).other W28 (Or.inr (slot_ne (Or.inl (hw _ m11)) (Or.inl (hw _ m20)) (by decide) (t := (.array .int)) (t' := .int) (by decide) (by decide))))
  have f31 := (A24.other W28 nta)
  exact g_retI X28 rfl d5_50 (by decide) (by decide) ⟨rfl, X28.fr, X28.old, _, _, f29, f30, F28, f31, (by rw [List.length_set]; exact hvs), ga, gt, nta, own_one hk hk64⟩

theorem own_exa {Z : State} {n0 : Nat} {h : Heap} {a : Addr} {c : Int32} {k : Nat} (H : LD Z n0 h a c k) : Exa Z h a "com/example/branchwise/branchwise/dd/LiveDiagrams" := by obtain ⟨t, vs, E, -⟩ := H; exact E
theorem own_toInt {Z : State} {n0 : Nat} {h : Heap} {a : Addr} {c : Int32} {k : Nat} (H : LD Z n0 h a c k) : c.toInt = (k : Int) := by obtain ⟨t, vs, -, -, -, -, -, -, -, -, q⟩ := H; exact q
theorem own_four (y : Int32) : y &&& (3 : Int32) = (0 : Int32) ∨ y &&& (3 : Int32) = (1 : Int32) ∨ y &&& (3 : Int32) = (2 : Int32) ∨ y &&& (3 : Int32) = (3 : Int32) := by
  have e1 : (y &&& (3 : Int32)).toInt = y.toInt % 2 ^ 2 := Jvm.Kit.i32_mask y 3 (k := 2) (by decide) (by decide)
  have : y.toInt % 2 ^ 2 = 0 ∨ y.toInt % 2 ^ 2 = 1 ∨ y.toInt % 2 ^ 2 = 2 ∨ y.toInt % 2 ^ 2 = 3 := by omega
  rcases this with q | q | q | q <;> rw [q] at e1
  · exact Or.inl (Int32.toInt_inj.mp e1)
  · exact Or.inr (Or.inl (Int32.toInt_inj.mp e1))
  · exact Or.inr (Or.inr (Or.inl (Int32.toInt_inj.mp e1)))
  · exact Or.inr (Or.inr (Or.inr (Int32.toInt_inj.mp e1)))
theorem ef_0 (m : MethodId) (size : Int32) (at_ : Int32) (again : Int32) (f1 : Int32) (f2 : Int32) (f3 : Int32) : entryFrame m #[(.int size), (.int at_), (.int again), (.int f1), (.int f2), (.int f3)] maxLocals = mkF m 0 #[.val (.int size), .val (.int at_), .val (.int again), .val (.int f1), .val (.int f2), .val (.int f3), .unset, .unset, .unset, .unset, .unset, .unset] [] := by first | (simp [entryFrame, mkF, argsToLocals, Value.category, maxLocals]; done) | rfl
set_option maxRecDepth 65536 in
set_option maxHeartbeats 40000000 in
theorem rm0 (l : Launch) (Z : State) (a0 : Array Value) (hw : ∀ d ∈ tables_1, d.before a0 Z = true) (ws : List Jvm.Cond) (size : Int32) (at_ : Int32) (again : Int32) (f1 : Int32) (f2 : Int32) (f3 : Int32) (h0 : Heap) (n0 : Nat) (hO : Old Z n0 h0)  :
    Con l Z x code maxLocals ret ws room_1 16 256 #[(.int size), (.int at_), (.int again), (.int f1), (.int f2), (.int f3)] h0 (fun v h L => v = some (.int 1) ∧ Fr n0 L) := by
  refine Con.intro (n0 := n0) (plainFor_of_name pn_1) (fun m => ef_0 m size at_ again f1 f2 f3) hO ?_
  intro p e s m below meth c T hs0 X0
  refine g_new X0 (hw _ m0) (hw _ m1) (hw _ m2) at_0 (pc' := 3) rfl (by decide) (by decide) (fun T32 h32 b32 X32 g32 E32 A32 D32 l32 => ?_)
  have F32_held : Fld Z h32 b32 "com/example/branchwise/branchwise/dd/LiveDiagrams" "held" "[I" .null := D32 (Or.inl (hw _ m11)) (ty := (.array .int)) (by decide)
  have F32_diagrams : Fld Z h32 b32 "com/example/branchwise/branchwise/dd/LiveDiagrams" "diagrams" "Lcom/example/branchwise/branchwise/dd/DiagramManager;" .null := D32 (Or.inr (hw _ m13)) (ty := (.object "com/example/branchwise/branchwise/dd/DiagramManager")) (by decide)
  have F32_count : Fld Z h32 b32 "com/example/branchwise/branchwise/dd/LiveDiagrams" "count" "I" (.int (0 : Int32)) := D32 (Or.inl (hw _ m20)) (ty := .int) (by decide)
  refine g_dup X32 at_3 (pc' := 4) rfl rfl ?_
  refine g_aconst_null X32 at_4 (pc' := 5) rfl ?_
  refine g_castNull X32 at_5 (pc' := 8) rfl ?_
  refine g_callI X32 (y := (⟨"com/example/branchwise/branchwise/dd/LiveDiagrams", "<init>", "(Lcom/example/branchwise/branchwise/dd/DiagramManager;)V"⟩ : MethodName)) (a := b32) [.null] rfl (hw _ m3) (hw _ m4) rfl (hw _ m5) (hw _ m2) (rm1 l Z a0 hw b32 h32 n0 X32.old A32 l32 F32_held F32_diagrams F32_count) (by decide) (by decide) (by decide) (by decide) (by decide) rfl pd_0 rfl (rest := [(.ref b32)]) rfl (W := 1) rfl at_8 (pc' := 11) rfl ?_
  rintro _ T33 h33 L33 Y33 ⟨rfl, N33, z33, H33⟩
  have X33 := Y33 z33 N33
  have q34 := own_exa H33
  show Go p e below _ (State.setTop _ (mkF m 11 #[.val (.int size), .val (.int at_), .val (.int again), .val (.int f1), .val (.int f2), .val (.int f3), .unset, .unset, .unset, .unset, .unset, .unset] [(.ref b32)]))
  refine g_astore X33 at_11 (pc' := 13) rfl rfl (L' := #[.val (.int size), .val (.int at_), .val (.int again), .val (.int f1), .val (.int f2), .val (.int f3), .val (.ref b32), .unset, .unset, .unset, .unset, .unset]) rfl ?_
  have J58 : ∀ (T : State) (locs : List Loc) (h : Heap) (n : Int32) (k : Nat), St Z n0 p l e room_1 s m #[(.int size), (.int at_), (.int again), (.int f1), (.int f2), (.int f3)] below meth c x.cls x.name code maxLocals ret T locs 2 67 h → LD Z n0 h b32 n k → k ≤ 3 → Go p e below (Kq s 16 256 (fun v h L => v = some (.int 1) ∧ Fr n0 L)) (T.setTop (mkF m 58 #[.val (.int size), .val (.int at_), .val (.int again), .val (.int f1), .val (.int f2), .val (.int f3), .val (.ref b32), .val (.int n), .unset, .unset, .unset, .unset] [])) := by
    intro T locs h n k X H hk3
    have hn := own_toInt H
    have q35 := own_exa H
    refine g_aload X at_58 (pc' := 60) rfl rfl rfl ?_
    refine g_callV X (y := (⟨"com/example/branchwise/branchwise/dd/LiveDiagrams", "mark", "()I"⟩ : MethodName)) (z := (⟨"com/example/branchwise/branchwise/dd/LiveDiagrams", "mark", "()I"⟩ : MethodName)) (a := b32) [] (hw _ m14) (hw _ m15) (notFace_of_selects (args := #[]) (mvT X.hZ (hw _ m17))) (hw _ m17) (hw _ m16) q35 (hw _ m18) (hw _ m2) (rm3 l Z a0 hw b32 h n0 X.old n k H) (by decide) (by decide) (by decide) (by decide) (by decide) rfl pd_1 rfl (rest := []) rfl (W := 0) rfl at_60 (pc' := 63) rfl ?_
    rintro _ T36 _ _ Y36 ⟨rfl, rfl, rfl⟩
    have X36 := Y36 X.old (Fr.nil _)
    show Go p e below _ (State.setTop _ (mkF m 63 #[.val (.int size), .val (.int at_), .val (.int again), .val (.int f1), .val (.int f2), .val (.int f3), .val (.ref b32), .val (.int n), .unset, .unset, .unset, .unset] [(.int n)]))
    refine g_iload X36 at_63 (pc' := 65) rfl rfl ?_
    refine g_icmp_ne_f X36 at_65 (pc' := 68) rfl rfl ?_
    refine g_iconst X36 at_68 (pc' := 69) rfl (v := (1 : Int32)) rfl ?_
    refine g_goto X36 at_69 (pt := 73) (by decide) ?_
    refine g_istore X36 at_73 (pc' := 75) rfl (L' := #[.val (.int size), .val (.int at_), .val (.int again), .val (.int f1), .val (.int f2), .val (.int f3), .val (.ref b32), .val (.int n), .val (.int (1 : Int32)), .unset, .unset, .unset]) rfl ?_
    refine g_iloadN X36 at_75 (pc' := 76) rfl rfl ?_
    refine g_ldc X36 (hw _ m21) at_76 (pc' := 78) rfl ?_
    refine g_iand X36 at_78 (pc' := 79) rfl ?_
    refine g_iload X36 at_79 (pc' := 81) rfl rfl ?_
    refine g_iconst X36 at_81 (pc' := 82) rfl (v := (1 : Int32)) rfl ?_
    refine g_iadd X36 at_82 (pc' := 83) rfl ?_
    refine g_irem X36 at_83 (pc' := 84) rfl (own_nz hn (by omega)) ?_
    obtain ⟨j1, hjk1, hj1⟩ := own_rem at_ (k := k) hn (by omega)
    obtain ⟨r1, hr1⟩ : ∃ r, r = ((at_ &&& (2147483647 : Int32)) % (n + (1 : Int32))) := ⟨_, rfl⟩
    rw [← hr1] at hj1 ⊢
    refine g_istore X36 at_84 (pc' := 86) rfl (L' := #[.val (.int size), .val (.int at_), .val (.int again), .val (.int f1), .val (.int f2), .val (.int f3), .val (.ref b32), .val (.int n), .val (.int (1 : Int32)), .val (.int r1), .unset, .unset]) rfl ?_
    refine g_aload X36 at_86 (pc' := 88) rfl rfl rfl ?_
    refine g_iload X36 at_88 (pc' := 90) rfl rfl ?_
    refine g_callV X36 (y := (⟨"com/example/branchwise/branchwise/dd/LiveDiagrams", "release", "(I)V"⟩ : MethodName)) (z := (⟨"com/example/branchwise/branchwise/dd/LiveDiagrams", "release", "(I)V"⟩ : MethodName)) (a := b32) [(.int r1)] (hw _ m22) (hw _ m23) (notFace_of_selects (args := #[]) (mvT X36.hZ (hw _ m25))) (hw _ m25) (hw _ m24) q35 (hw _ m26) (hw _ m2) (rm4 l Z a0 hw b32 r1 h n0 X36.old n k j1 H hj1 hjk1) (by decide) (by decide) (by decide) (by decide) (by decide) rfl pd_2 rfl (rest := []) rfl (W := 0) rfl at_90 (pc' := 93) rfl ?_
    rintro _ T37 h37 L37 Y37 ⟨rfl, N37, z37, H37⟩
    have X37 := Y37 z37 N37
    have q38 := own_exa H37
    show Go p e below _ (State.setTop _ (mkF m 93 #[.val (.int size), .val (.int at_), .val (.int again), .val (.int f1), .val (.int f2), .val (.int f3), .val (.ref b32), .val (.int n), .val (.int (1 : Int32)), .val (.int r1), .unset, .unset] []))
    refine g_iload X37 at_93 (pc' := 95) rfl rfl ?_
    refine g_if_eq_f X37 at_95 (pc' := 98) rfl (by decide) ?_
    refine g_aload X37 at_98 (pc' := 100) rfl rfl rfl ?_
    refine g_callV X37 (y := (⟨"com/example/branchwise/branchwise/dd/LiveDiagrams", "mark", "()I"⟩ : MethodName)) (z := (⟨"com/example/branchwise/branchwise/dd/LiveDiagrams", "mark", "()I"⟩ : MethodName)) (a := b32) [] (hw _ m14) (hw _ m15) (notFace_of_selects (args := #[]) (mvT X37.hZ (hw _ m17))) (hw _ m17) (hw _ m16) q38 (hw _ m18) (hw _ m2) (rm3 l Z a0 hw b32 h37 n0 X37.old r1 j1 H37) (by decide) (by decide) (by decide) (by decide) (by decide) rfl pd_1 rfl (rest := []) rfl (W := 0) rfl at_100 (pc' := 103) rfl ?_
    rintro _ T39 _ _ Y39 ⟨rfl, rfl, rfl⟩
    have X39 := Y39 X37.old (Fr.nil _)
    show Go p e below _ (State.setTop _ (mkF m 103 #[.val (.int size), .val (.int at_), .val (.int again), .val (.int f1), .val (.int f2), .val (.int f3), .val (.ref b32), .val (.int n), .val (.int (1 : Int32)), .val (.int r1), .unset, .unset] [(.int r1)]))
    refine g_iload X39 at_103 (pc' := 105) rfl rfl ?_
    refine g_icmp_ne_f X39 at_105 (pc' := 108) rfl rfl ?_
    refine g_iconst X39 at_108 (pc' := 109) rfl (v := (1 : Int32)) rfl ?_
    refine g_goto X39 at_109 (pt := 113) (by decide) ?_
    refine g_istore X39 at_113 (pc' := 115) rfl (L' := #[.val (.int size), .val (.int at_), .val (.int again), .val (.int f1), .val (.int f2), .val (.int f3), .val (.ref b32), .val (.int n), .val (.int (1 : Int32)), .val (.int r1), .unset, .unset]) rfl ?_
    refine g_iloadN X39 at_115 (pc' := 116) rfl rfl ?_
    refine g_ldc X39 (hw _ m21) at_116 (pc' := 118) rfl ?_
    refine g_iand X39 at_118 (pc' := 119) rfl ?_
    refine g_iload X39 at_119 (pc' := 121) rfl rfl ?_
    refine g_iconst X39 at_121 (pc' := 122) rfl (v := (1 : Int32)) rfl ?_
    refine g_iadd X39 at_122 (pc' := 123) rfl ?_
    refine g_irem X39 at_123 (pc' := 124) rfl (own_nz hj1 (by omega)) ?_
    obtain ⟨j2, hjk2, hj2⟩ := own_rem again (k := j1) hj1 (by omega)
    obtain ⟨r2, hr2⟩ : ∃ r, r = ((again &&& (2147483647 : Int32)) % (r1 + (1 : Int32))) := ⟨_, rfl⟩
    rw [← hr2] at hj2 ⊢
    refine g_istore X39 at_124 (pc' := 126) rfl (L' := #[.val (.int size), .val (.int at_), .val (.int again), .val (.int f1), .val (.int f2), .val (.int f3), .val (.ref b32), .val (.int n), .val (.int (1 : Int32)), .val (.int r1), .val (.int r2), .unset]) rfl ?_
    refine g_aload X39 at_126 (pc' := 128) rfl rfl rfl ?_
    refine g_iload X39 at_128 (pc' := 130) rfl rfl ?_
    refine g_callV X39 (y := (⟨"com/example/branchwise/branchwise/dd/LiveDiagrams", "release", "(I)V"⟩ : MethodName)) (z := (⟨"com/example/branchwise/branchwise/dd/LiveDiagrams", "release", "(I)V"⟩ : MethodName)) (a := b32) [(.int r2)] (hw _ m22) (hw _ m23) (notFace_of_selects (args := #[]) (mvT X39.hZ (hw _ m25))) (hw _ m25) (hw _ m24) q38 (hw _ m26) (hw _ m2) (rm4 l Z a0 hw b32 r2 h37 n0 X39.old r1 j1 j2 H37 hj2 hjk2) (by decide) (by decide) (by decide) (by decide) (by decide) rfl pd_2 rfl (rest := []) rfl (W := 0) rfl at_130 (pc' := 133) rfl ?_
    rintro _ T40 h40 L40 Y40 ⟨rfl, N40, z40, H40⟩
    have X40 := Y40 z40 N40
    have q41 := own_exa H40
    show Go p e below _ (State.setTop _ (mkF m 133 #[.val (.int size), .val (.int at_), .val (.int again), .val (.int f1), .val (.int f2), .val (.int f3), .val (.ref b32), .val (.int n), .val (.int (1 : Int32)), .val (.int r1), .val (.int r2), .unset] []))
    refine g_iload X40 at_133 (pc' := 135) rfl rfl ?_
    refine g_if_eq_f X40 at_135 (pc' := 138) rfl (by decide) ?_
    refine g_aload X40 at_138 (pc' := 140) rfl rfl rfl ?_
    refine g_callV X40 (y := (⟨"com/example/branchwise/branchwise/dd/LiveDiagrams", "mark", "()I"⟩ : MethodName)) (z := (⟨"com/example/branchwise/branchwise/dd/LiveDiagrams", "mark", "()I"⟩ : MethodName)) (a := b32) [] (hw _ m14) (hw _ m15) (notFace_of_selects (args := #[]) (mvT X40.hZ (hw _ m17))) (hw _ m17) (hw _ m16) q41 (hw _ m18) (hw _ m2) (rm3 l Z a0 hw b32 h40 n0 X40.old r2 j2 H40) (by decide) (by decide) (by decide) (by decide) (by decide) rfl pd_1 rfl (rest := []) rfl (W := 0) rfl at_140 (pc' := 143) rfl ?_
    rintro _ T42 _ _ Y42 ⟨rfl, rfl, rfl⟩
    have X42 := Y42 X40.old (Fr.nil _)
    show Go p e below _ (State.setTop _ (mkF m 143 #[.val (.int size), .val (.int at_), .val (.int again), .val (.int f1), .val (.int f2), .val (.int f3), .val (.ref b32), .val (.int n), .val (.int (1 : Int32)), .val (.int r1), .val (.int r2), .unset] [(.int r2)]))
    refine g_iload X42 at_143 (pc' := 145) rfl rfl ?_
    refine g_icmp_ne_f X42 at_145 (pc' := 148) rfl rfl ?_
    refine g_iconst X42 at_148 (pc' := 149) rfl (v := (1 : Int32)) rfl ?_
    refine g_goto X42 at_149 (pt := 153) (by decide) ?_
    refine g_istore X42 at_153 (pc' := 155) rfl (L' := #[.val (.int size), .val (.int at_), .val (.int again), .val (.int f1), .val (.int f2), .val (.int f3), .val (.ref b32), .val (.int n), .val (.int (1 : Int32)), .val (.int r1), .val (.int r2), .unset]) rfl ?_
    refine g_aload X42 at_155 (pc' := 157) rfl rfl rfl ?_
    refine g_iloadN X42 at_157 (pc' := 158) rfl rfl ?_
    refine g_callV X42 (y := (⟨"com/example/branchwise/branchwise/dd/LiveDiagrams", "hold", "(I)I"⟩ : MethodName)) (z := (⟨"com/example/branchwise/branchwise/dd/LiveDiagrams", "hold", "(I)I"⟩ : MethodName)) (a := b32) [(.int f1)] (hw _ m27) (hw _ m28) (notFace_of_selects (args := #[]) (mvT X42.hZ (hw _ m30))) (hw _ m30) (hw _ m29) q41 (hw _ m31) (hw _ m2) (rm5 l Z a0 hw b32 f1 h40 n0 X42.old r2 j2 H40 (by omega)) (by decide) (by decide) (by decide) (by decide) (by decide) rfl pd_3 rfl (rest := []) rfl (W := 0) rfl at_158 (pc' := 161) rfl ?_
    rintro _ T43 h43 L43 Y43 ⟨rfl, N43, z43, H43⟩
    have X43 := Y43 z43 N43
    have q44 := own_exa H43
    show Go p e below _ (State.setTop _ (mkF m 161 #[.val (.int size), .val (.int at_), .val (.int again), .val (.int f1), .val (.int f2), .val (.int f3), .val (.ref b32), .val (.int n), .val (.int (1 : Int32)), .val (.int r1), .val (.int r2), .unset] [(.int f1)]))
    refine g_istore X43 at_161 (pc' := 163) rfl (L' := #[.val (.int size), .val (.int at_), .val (.int again), .val (.int f1), .val (.int f2), .val (.int f3), .val (.ref b32), .val (.int n), .val (.int (1 : Int32)), .val (.int r1), .val (.int r2), .val (.int f1)]) rfl ?_
    refine g_iload X43 at_163 (pc' := 165) rfl rfl ?_
    refine g_if_eq_f X43 at_165 (pc' := 168) rfl (by decide) ?_
    refine g_iload X43 at_168 (pc' := 170) rfl rfl ?_
    refine g_iloadN X43 at_170 (pc' := 171) rfl rfl ?_
    refine g_icmp_ne_f X43 at_171 (pc' := 174) rfl rfl ?_
    refine g_aload X43 at_174 (pc' := 176) rfl rfl rfl ?_
    refine g_callV X43 (y := (⟨"com/example/branchwise/branchwise/dd/LiveDiagrams", "mark", "()I"⟩ : MethodName)) (z := (⟨"com/example/branchwise/branchwise/dd/LiveDiagrams", "mark", "()I"⟩ : MethodName)) (a := b32) [] (hw _ m14) (hw _ m15) (notFace_of_selects (args := #[]) (mvT X43.hZ (hw _ m17))) (hw _ m17) (hw _ m16) q44 (hw _ m18) (hw _ m2) (rm3 l Z a0 hw b32 h43 n0 X43.old (r2 + (1 : Int32)) (j2 + 1) H43) (by decide) (by decide) (by decide) (by decide) (by decide) rfl pd_1 rfl (rest := []) rfl (W := 0) rfl at_176 (pc' := 179) rfl ?_
    rintro _ T45 _ _ Y45 ⟨rfl, rfl, rfl⟩
    have X45 := Y45 X43.old (Fr.nil _)
    show Go p e below _ (State.setTop _ (mkF m 179 #[.val (.int size), .val (.int at_), .val (.int again), .val (.int f1), .val (.int f2), .val (.int f3), .val (.ref b32), .val (.int n), .val (.int (1 : Int32)), .val (.int r1), .val (.int r2), .val (.int f1)] [(.int (r2 + (1 : Int32)))]))
    refine g_iload X45 at_179 (pc' := 181) rfl rfl ?_
    refine g_iconst X45 at_181 (pc' := 182) rfl (v := (1 : Int32)) rfl ?_
    refine g_iadd X45 at_182 (pc' := 183) rfl ?_
    refine g_icmp_ne_f X45 at_183 (pc' := 186) rfl rfl ?_
    refine g_iconst X45 at_186 (pc' := 187) rfl (v := (1 : Int32)) rfl ?_
    refine g_goto X45 at_187 (pt := 191) (by decide) ?_
    refine g_istore X45 at_191 (pc' := 193) rfl (L' := #[.val (.int size), .val (.int at_), .val (.int again), .val (.int f1), .val (.int f2), .val (.int f3), .val (.ref b32), .val (.int n), .val (.int (1 : Int32)), .val (.int r1), .val (.int r2), .val (.int f1)]) rfl ?_
    refine g_iload X45 at_193 (pc' := 195) rfl rfl ?_
    exact g_retN X45 (Or.inl rfl) rfl at_195 (by decide) (by decide) ⟨rfl, X45.fr⟩
  have hsz : size &&& (3 : Int32) = (0 : Int32) ∨ size &&& (3 : Int32) = (1 : Int32) ∨ size &&& (3 : Int32) = (2 : Int32) ∨ size &&& (3 : Int32) = (3 : Int32) := own_four size
  refine g_iloadN X33 at_13 (pc' := 14) rfl rfl ?_
  refine g_iconst X33 at_14 (pc' := 15) rfl (v := (3 : Int32)) rfl ?_
  refine g_iand X33 at_15 (pc' := 16) rfl ?_
  rcases hsz with q | q | q | q <;> rw [q]
  · refine g_istore X33 at_16 (pc' := 18) rfl (L' := #[.val (.int size), .val (.int at_), .val (.int again), .val (.int f1), .val (.int f2), .val (.int f3), .val (.ref b32), .val (.int (0 : Int32)), .unset, .unset, .unset, .unset]) rfl ?_
    refine g_iload X33 at_18 (pc' := 20) rfl rfl ?_
    refine g_if_le_t X33 at_20 (pt := 30) (by decide) (by decide) ?_
    refine g_iload X33 at_30 (pc' := 32) rfl rfl ?_
    refine g_iconst X33 at_32 (pc' := 33) rfl (v := (1 : Int32)) rfl ?_
    refine g_icmp_le_t X33 at_33 (pt := 44) (by decide) (by decide) ?_
    refine g_iload X33 at_44 (pc' := 46) rfl rfl ?_
    refine g_iconst X33 at_46 (pc' := 47) rfl (v := (2 : Int32)) rfl ?_
    refine g_icmp_le_t X33 at_47 (pt := 58) (by decide) (by decide) ?_
    exact J58 _ _ _ (0 : Int32) 0 (X33.more (by decide) (by decide)) ((by decide : (0 : Int32) = (0 : Int32)) ▸ H33) (by omega)
  · refine g_istore X33 at_16 (pc' := 18) rfl (L' := #[.val (.int size), .val (.int at_), .val (.int again), .val (.int f1), .val (.int f2), .val (.int f3), .val (.ref b32), .val (.int (1 : Int32)), .unset, .unset, .unset, .unset]) rfl ?_
    refine g_iload X33 at_18 (pc' := 20) rfl rfl ?_
    refine g_if_le_f X33 at_20 (pc' := 23) rfl (by decide) ?_
    refine g_aload X33 at_23 (pc' := 25) rfl rfl rfl ?_
    refine g_iloadN X33 at_25 (pc' := 26) rfl rfl ?_
    refine g_callV X33 (y := (⟨"com/example/branchwise/branchwise/dd/LiveDiagrams", "hold", "(I)I"⟩ : MethodName)) (z := (⟨"com/example/branchwise/branchwise/dd/LiveDiagrams", "hold", "(I)I"⟩ : MethodName)) (a := b32) [(.int f1)] (hw _ m27) (hw _ m28) (notFace_of_selects (args := #[]) (mvT X33.hZ (hw _ m30))) (hw _ m30) (hw _ m29) q34 (hw _ m31) (hw _ m2) (rm5 l Z a0 hw b32 f1 h33 n0 X33.old (0 : Int32) 0 H33 (by omega)) (by decide) (by decide) (by decide) (by decide) (by decide) rfl pd_3 rfl (rest := []) rfl (W := 0) rfl at_26 (pc' := 29) rfl ?_
    rintro _ T46 h46 L46 Y46 ⟨rfl, N46, z46, H46⟩
    have X46 := Y46 z46 N46
    have q47 := own_exa H46
    show Go p e below _ (State.setTop _ (mkF m 29 #[.val (.int size), .val (.int at_), .val (.int again), .val (.int f1), .val (.int f2), .val (.int f3), .val (.ref b32), .val (.int (1 : Int32)), .unset, .unset, .unset, .unset] [(.int f1)]))
    refine g_pop X46 at_29 (pc' := 30) rfl rfl ?_
    refine g_iload X46 at_30 (pc' := 32) rfl rfl ?_
    refine g_iconst X46 at_32 (pc' := 33) rfl (v := (1 : Int32)) rfl ?_
    refine g_icmp_le_t X46 at_33 (pt := 44) (by decide) (by decide) ?_
    refine g_iload X46 at_44 (pc' := 46) rfl rfl ?_
    refine g_iconst X46 at_46 (pc' := 47) rfl (v := (2 : Int32)) rfl ?_
    refine g_icmp_le_t X46 at_47 (pt := 58) (by decide) (by decide) ?_
    exact J58 _ _ _ (1 : Int32) 1 (X46.more (by decide) (by decide)) ((by decide : ((0 : Int32) + (1 : Int32)) = (1 : Int32)) ▸ H46) (by omega)
  · refine g_istore X33 at_16 (pc' := 18) rfl (L' := #[.val (.int size), .val (.int at_), .val (.int again), .val (.int f1), .val (.int f2), .val (.int f3), .val (.ref b32), .val (.int (2 : Int32)), .unset, .unset, .unset, .unset]) rfl ?_
    refine g_iload X33 at_18 (pc' := 20) rfl rfl ?_
    refine g_if_le_f X33 at_20 (pc' := 23) rfl (by decide) ?_
    refine g_aload X33 at_23 (pc' := 25) rfl rfl rfl ?_
    refine g_iloadN X33 at_25 (pc' := 26) rfl rfl ?_
    refine g_callV X33 (y := (⟨"com/example/branchwise/branchwise/dd/LiveDiagrams", "hold", "(I)I"⟩ : MethodName)) (z := (⟨"com/example/branchwise/branchwise/dd/LiveDiagrams", "hold", "(I)I"⟩ : MethodName)) (a := b32) [(.int f1)] (hw _ m27) (hw _ m28) (notFace_of_selects (args := #[]) (mvT X33.hZ (hw _ m30))) (hw _ m30) (hw _ m29) q34 (hw _ m31) (hw _ m2) (rm5 l Z a0 hw b32 f1 h33 n0 X33.old (0 : Int32) 0 H33 (by omega)) (by decide) (by decide) (by decide) (by decide) (by decide) rfl pd_3 rfl (rest := []) rfl (W := 0) rfl at_26 (pc' := 29) rfl ?_
    rintro _ T48 h48 L48 Y48 ⟨rfl, N48, z48, H48⟩
    have X48 := Y48 z48 N48
    have q49 := own_exa H48
    show Go p e below _ (State.setTop _ (mkF m 29 #[.val (.int size), .val (.int at_), .val (.int again), .val (.int f1), .val (.int f2), .val (.int f3), .val (.ref b32), .val (.int (2 : Int32)), .unset, .unset, .unset, .unset] [(.int f1)]))
    refine g_pop X48 at_29 (pc' := 30) rfl rfl ?_
    refine g_iload X48 at_30 (pc' := 32) rfl rfl ?_
    refine g_iconst X48 at_32 (pc' := 33) rfl (v := (1 : Int32)) rfl ?_
    refine g_icmp_le_f X48 at_33 (pc' := 36) rfl (by decide) ?_
    refine g_aload X48 at_36 (pc' := 38) rfl rfl rfl ?_
    refine g_iload X48 at_38 (pc' := 40) rfl rfl ?_
    refine g_callV X48 (y := (⟨"com/example/branchwise/branchwise/dd/LiveDiagrams", "hold", "(I)I"⟩ : MethodName)) (z := (⟨"com/example/branchwise/branchwise/dd/LiveDiagrams", "hold", "(I)I"⟩ : MethodName)) (a := b32) [(.int f2)] (hw _ m27) (hw _ m28) (notFace_of_selects (args := #[]) (mvT X48.hZ (hw _ m30))) (hw _ m30) (hw _ m29) q49 (hw _ m31) (hw _ m2) (rm5 l Z a0 hw b32 f2 h48 n0 X48.old ((0 : Int32) + (1 : Int32)) (0 + 1) H48 (by omega)) (by decide) (by decide) (by decide) (by decide) (by decide) rfl pd_3 rfl (rest := []) rfl (W := 0) rfl at_40 (pc' := 43) rfl ?_
    rintro _ T50 h50 L50 Y50 ⟨rfl, N50, z50, H50⟩
    have X50 := Y50 z50 N50
    have q51 := own_exa H50
    show Go p e below _ (State.setTop _ (mkF m 43 #[.val (.int size), .val (.int at_), .val (.int again), .val (.int f1), .val (.int f2), .val (.int f3), .val (.ref b32), .val (.int (2 : Int32)), .unset, .unset, .unset, .unset] [(.int f2)]))
    refine g_pop X50 at_43 (pc' := 44) rfl rfl ?_
    refine g_iload X50 at_44 (pc' := 46) rfl rfl ?_
    refine g_iconst X50 at_46 (pc' := 47) rfl (v := (2 : Int32)) rfl ?_
    refine g_icmp_le_t X50 at_47 (pt := 58) (by decide) (by decide) ?_
    exact J58 _ _ _ (2 : Int32) 2 (X50.more (by decide) (by decide)) ((by decide : (((0 : Int32) + (1 : Int32)) + (1 : Int32)) = (2 : Int32)) ▸ H50) (by omega)
  · refine g_istore X33 at_16 (pc' := 18) rfl (L' := #[.val (.int size), .val (.int at_), .val (.int again), .val (.int f1), .val (.int f2), .val (.int f3), .val (.ref b32), .val (.int (3 : Int32)), .unset, .unset, .unset, .unset]) rfl ?_
    refine g_iload X33 at_18 (pc' := 20) rfl rfl ?_
    refine g_if_le_f X33 at_20 (pc' := 23) rfl (by decide) ?_
    refine g_aload X33 at_23 (pc' := 25) rfl rfl rfl ?_
    refine g_iloadN X33 at_25 (pc' := 26) rfl rfl ?_
    refine g_callV X33 (y := (⟨"com/example/branchwise/branchwise/dd/LiveDiagrams", "hold", "(I)I"⟩ : MethodName)) (z := (⟨"com/example/branchwise/branchwise/dd/LiveDiagrams", "hold", "(I)I"⟩ : MethodName)) (a := b32) [(.int f1)] (hw _ m27) (hw _ m28) (notFace_of_selects (args := #[]) (mvT X33.hZ (hw _ m30))) (hw _ m30) (hw _ m29) q34 (hw _ m31) (hw _ m2) (rm5 l Z a0 hw b32 f1 h33 n0 X33.old (0 : Int32) 0 H33 (by omega)) (by decide) (by decide) (by decide) (by decide) (by decide) rfl pd_3 rfl (rest := []) rfl (W := 0) rfl at_26 (pc' := 29) rfl ?_
    rintro _ T52 h52 L52 Y52 ⟨rfl, N52, z52, H52⟩
    have X52 := Y52 z52 N52
    have q53 := own_exa H52
    show Go p e below _ (State.setTop _ (mkF m 29 #[.val (.int size), .val (.int at_), .val (.int again), .val (.int f1), .val (.int f2), .val (.int f3), .val (.ref b32), .val (.int (3 : Int32)), .unset, .unset, .unset, .unset] [(.int f1)]))
    refine g_pop X52 at_29 (pc' := 30) rfl rfl ?_
    refine g_iload X52 at_30 (pc' := 32) rfl rfl ?_
    refine g_iconst X52 at_32 (pc' := 33) rfl (v := (1 : Int32)) rfl ?_
    refine g_icmp_le_f X52 at_33 (pc' := 36) rfl (by decide) ?_
    refine g_aload X52 at_36 (pc' := 38) rfl rfl rfl ?_
    refine g_iload X52 at_38 (pc' := 40) rfl rfl ?_
    refine g_callV X52 (y := (⟨"com/example/branchwise/branchwise/dd/LiveDiagrams", "hold", "(I)I"⟩ : MethodName)) (z := (⟨"com/example/branchwise/branchwise/dd/LiveDiagrams", "hold", "(I)I"⟩ : MethodName)) (a := b32) [(.int f2)] (hw _ m27) (hw _ m28) (notFace_of_selects (args := #[]) (mvT X52.hZ (hw _ m30))) (hw _ m30) (hw _ m29) q53 (hw _ m31) (hw _ m2) (rm5 l Z a0 hw b32 f2 h52 n0 X52.old ((0 : Int32) + (1 : Int32)) (0 + 1) H52 (by omega)) (by decide) (by decide) (by decide) (by decide) (by decide) rfl pd_3 rfl (rest := []) rfl (W := 0) rfl at_40 (pc' := 43) rfl ?_
    rintro _ T54 h54 L54 Y54 ⟨rfl, N54, z54, H54⟩
    have X54 := Y54 z54 N54
    have q55 := own_exa H54
    show Go p e below _ (State.setTop _ (mkF m 43 #[.val (.int size), .val (.int at_), .val (.int again), .val (.int f1), .val (.int f2), .val (.int f3), .val (.ref b32), .val (.int (3 : Int32)), .unset, .unset, .unset, .unset] [(.int f2)]))
    refine g_pop X54 at_43 (pc' := 44) rfl rfl ?_
    refine g_iload X54 at_44 (pc' := 46) rfl rfl ?_
    refine g_iconst X54 at_46 (pc' := 47) rfl (v := (2 : Int32)) rfl ?_
    refine g_icmp_le_f X54 at_47 (pc' := 50) rfl (by decide) ?_
    refine g_aload X54 at_50 (pc' := 52) rfl rfl rfl ?_
    refine g_iload X54 at_52 (pc' := 54) rfl rfl ?_
    refine g_callV X54 (y := (⟨"com/example/branchwise/branchwise/dd/LiveDiagrams", "hold", "(I)I"⟩ : MethodName)) (z := (⟨"com/example/branchwise/branchwise/dd/LiveDiagrams", "hold", "(I)I"⟩ : MethodName)) (a := b32) [(.int f3)] (hw _ m27) (hw _ m28) (notFace_of_selects (args := #[]) (mvT X54.hZ (hw _ m30))) (hw _ m30) (hw _ m29) q55 (hw _ m31) (hw _ m2) (rm5 l Z a0 hw b32 f3 h54 n0 X54.old (((0 : Int32) + (1 : Int32)) + (1 : Int32)) ((0 + 1) + 1) H54 (by omega)) (by decide) (by decide) (by decide) (by decide) (by decide) rfl pd_3 rfl (rest := []) rfl (W := 0) rfl at_54 (pc' := 57) rfl ?_
    rintro _ T56 h56 L56 Y56 ⟨rfl, N56, z56, H56⟩
    have X56 := Y56 z56 N56
    have q57 := own_exa H56
    show Go p e below _ (State.setTop _ (mkF m 57 #[.val (.int size), .val (.int at_), .val (.int again), .val (.int f1), .val (.int f2), .val (.int f3), .val (.ref b32), .val (.int (3 : Int32)), .unset, .unset, .unset, .unset] [(.int f3)]))
    refine g_pop X56 at_57 (pc' := 58) rfl rfl ?_
    exact J58 _ _ _ (3 : Int32) 3 (X56.more (by decide) (by decide)) ((by decide : ((((0 : Int32) + (1 : Int32)) + (1 : Int32)) + (1 : Int32)) = (3 : Int32)) ▸ H56) (by omega)

set_option maxRecDepth 65536 in
set_option maxHeartbeats 40000000 in
theorem comes_1 {Post : Tables → Env → Array Value → State → Outcome → State → Prop} (hpost : ∀ tb e args s v u, (limb_1_1.after args s (.returned v) u = true ∧ limb_1_2.after args s (.returned v) u = true ∧ True) → FrameEnd s (.returned v) u (Jvm.fieldLocs frame_1_writes args s ++ Jvm.arrayLocs frame_1_arrays args s ++ Jvm.staticLocs frame_1_statics s) 16 256 → Post tb e args s (.returned v) u) :
    ArmFor flags0 classFile x code maxLocals ret World_1 tables_1 room_1 Calls_1 rest_1 Pre_1 Post := by
  intro l hfl _ _ p e ha hc hk s m args below hf hA hF happ hP
  obtain ⟨hcalls, hrest, hpre⟩ := hP
  obtain ⟨-, -, -, hnamed, -, -, -, hat⟩ := (Spec.applies_iff hf).mp happ
  obtain ⟨hg, hn⟩ := and_e (Cond.before_iff.mp (show (Jvm.Cond.and given_1 narrow_1).before args s = true from hpre))
  obtain ⟨hcount, hg⟩ := and_e hg
  obtain ⟨k0, hg⟩ := and_e hg
  obtain ⟨k1, hg⟩ := and_e hg
  obtain ⟨k2, hg⟩ := and_e hg
  obtain ⟨k3, hg⟩ := and_e hg
  obtain ⟨k4, hg⟩ := and_e hg
  have k5 := hg
  obtain ⟨w0, w1, w2, w3, w4, w5, rfl⟩ : ∃ w0 w1 w2 w3 w4 w5 : Value, args = #[w0, w1, w2, w3, w4, w5] := by
    have hs : args.size = 6 := by simpa [Cond.value, given_1] using hcount
    obtain ⟨L⟩ := args
    match L, hs with
    | [w0, w1, w2, w3, w4, w5], _ => exact ⟨w0, w1, w2, w3, w4, w5, rfl⟩
  have hw := fun d (hd : d ∈ tables_1) => atoms_spec (ws := Jvm.Cond.code x code maxLocals ret :: tables_1) hat d (List.mem_cons_of_mem _ hd)
  obtain ⟨i0, e0⟩ := is_v k0
  obtain rfl : w0 = (.int i0) := Option.some.inj e0
  obtain ⟨i1, e1⟩ := is_v k1
  obtain rfl : w1 = (.int i1) := Option.some.inj e1
  obtain ⟨i2, e2⟩ := is_v k2
  obtain rfl : w2 = (.int i2) := Option.some.inj e2
  obtain ⟨i3, e3⟩ := is_v k3
  obtain rfl : w3 = (.int i3) := Option.some.inj e3
  obtain ⟨i4, e4⟩ := is_v k4
  obtain rfl : w4 = (.int i4) := Option.some.inj e4
  obtain ⟨i5, e5⟩ := is_v k5
  obtain rfl : w5 = (.int i5) := Option.some.inj e5
  obtain ⟨n, o, h1, h2, h3, _, L, rfl, ⟨rfl, N⟩, hq⟩ := rm0 l s _ hw tables_1 i0 i1 i2 i3 i4 i5 s.heap s.heap.size (Old.start s)  p e ha hc hk s m _ below hf ((Spec.applies_iff_loose hf).mp happ).1 ⟨rfl, State.Warmed39.refl s, rfl⟩ trivial
  refine ⟨n, _, h1, h2, h3, hpost _ _ _ _ _ _ ⟨Cond.after_iff.mpr rfl, Cond.after_iff.mpr (eq_i res_at (Term.int_eval (1)) rfl), trivial⟩ ⟨hq.1, hq.2.1, (hq.2.2.sift fun y hy => Or.inr (N y hy)).mono (by decide) (by decide)⟩⟩
theorem main_1_1 : Claimed_1_1 := comes_1 fun _ _ _ _ _ _ h hF => ⟨h.1, hF⟩
theorem main_1_2 : Claimed_1_2 := comes_1 fun _ _ _ _ _ _ h hF => ⟨h.2.1, hF⟩
end Jvm.Pilot.@@N@@
namespace Jvm.Pilot.@@N@@
open Jvm Jvm.ClassFile Sem Op Lib Jvm.Free Jvm.Stand Jvm.Pilot.@@N@@.Jvm.D
/-! MADE BY PROGRAM (witnessworld.py) out of the Statement's table words and the real class files: 9 classes; the members and pool entries that the words name. The judged class is class 1, her method 1. -/
namespace start1
open Jvm.ClassFile
def u (s : String) : CpInfo := .utf8 (stringToUtf16 s)
/-- a pool by its gaps: so many unusable entries, then the entry; so many at the end -/
def gap : Nat → List CpInfo → List CpInfo
  | 0, r => r
  | n + 1, r => .unusable :: gap n r
def poolList (es : List (Nat × CpInfo)) (last : Nat) : List CpInfo := es.foldr (fun e r => gap e.1 (e.2 :: r)) (gap last [])
def pool (es : List (Nat × CpInfo)) (last : Nat) : Array CpInfo := ⟨poolList es last⟩
def fileOf (pool : Array CpInfo) (this : Nat) (attrs : Array Attribute := #[]) (ms : Array MethodInfo := #[]) (fl : Nat := 33) (sup : Nat := 0) (ifs : Array Nat := #[]) (fds : Array FieldInfo := #[]) : ClassFile where
  minorVersion := 0
  majorVersion := 65
  constantPool := pool
  accessFlags := fl
  thisClass := this
  superClass := sup
  interfaces := ifs
  fields := fds
  methods := ms
  attributes := attrs
def plain (name : String) (sup : Option ClassId) : Class where
  name := name
  kind := .ordinary
  loader := none
  accessFlags := 33
  super := sup
  interfaces := #[]
  cf := none
  fields := #[]
  methods := #[]
  instanceTypes := #[]
  staticTypes := #[]
  resolved := #[]
  callSites := []
  init := .initialized
  statics := none
  mirror := none

def pool0 : Array CpInfo := pool [(5, u "<init>"), (0, u "()V"), (1, .class_ 10), (1, u "java/lang/Object")] 113

def k0c0 : Code := { maxStack := 0, maxLocals := 1, code := object_method_1_code, exceptionTable := #[], attributes := #[] }
def k0m0 : Method := { name := "<init>", desc := "()V", sig := { parameters := [], returnType := none }, accessFlags := 1, code := some k0c0 }
/-- java/lang/Object -/
def k0 : Class := { plain "java/lang/Object" none with
  accessFlags := 33
  interfaces := #[]
  cf := some (fileOf pool0 8 #[] #[{ accessFlags := 1, nameIndex := 5, descriptorIndex := 6, attributes := #[] }] 33 0 #[] #[])
  fields := #[]
  methods := #[k0m0]
  instanceTypes := #[]
  staticTypes := #[]
  resolved := Array.replicate 124 none
  statics := none }

def pool1 : Array CpInfo := pool [(2, .class_ 4), (1, u "java/lang/Object"), (0, u "<init>"), (0, u "()V"), (0, .class_ 8), (0, u "com/example/branchwise/branchwise/dd/LiveDiagrams"), (2, .methodref 7 12), (0, .nameAndType 5 13), (0, u "(Lcom/example/branchwise/branchwise/dd/DiagramManager;)V"), (0, .methodref 7 15), (0, .nameAndType 16 17), (0, u "hold"), (0, u "(I)I"), (0, .methodref 7 19), (0, .nameAndType 20 21), (0, u "mark"), (0, u "()I"), (0, .integer 2147483647), (0, .methodref 7 24), (0, .nameAndType 25 26), (0, u "release"), (0, u "(I)V"), (0, .class_ 28), (0, u "com/example/branchwise/branchwise/dd/LiveDiagramsReleasePinLaw"), (2, u "law"), (0, u "(IIIIII)Z")] 3

def k1m0 : Method := { name := "<init>", desc := "()V", sig := { parameters := [], returnType := none }, accessFlags := 1, code := none }
def k1c1 : Code := { maxStack := 3, maxLocals := 12, code := code, exceptionTable := #[], attributes := #[] }
def k1m1 : Method := { name := "law", desc := "(IIIIII)Z", sig := { parameters := [.int, .int, .int, .int, .int, .int], returnType := some .boolean }, accessFlags := 9, code := some k1c1 }
/-- com/example/branchwise/branchwise/dd/LiveDiagramsReleasePinLaw -/
def k1 : Class := { plain "com/example/branchwise/branchwise/dd/LiveDiagramsReleasePinLaw" (some 0) with
  accessFlags := 49
  interfaces := #[]
  cf := some (fileOf pool1 27 #[] #[{ accessFlags := 1, nameIndex := 5, descriptorIndex := 6, attributes := #[] }, { accessFlags := 9, nameIndex := 31, descriptorIndex := 32, attributes := #[] }] 49 2 #[] #[])
  fields := #[]
  methods := #[k1m0, k1m1]
  instanceTypes := #[]
  staticTypes := #[]
  resolved := Array.replicate 36 none
  statics := none }

def pool2 : Array CpInfo := pool [(1, .methodref 2 3), (0, .class_ 4), (0, .nameAndType 5 6), (0, u "java/lang/Object"), (0, u "<init>"), (0, u "()V"), (0, .fieldref 8 9), (0, .class_ 10), (0, .nameAndType 11 12), (0, u "com/example/branchwise/branchwise/dd/LiveDiagrams"), (0, u "held"), (0, u "[I"), (0, .fieldref 8 14), (0, .nameAndType 15 16), (0, u "diagrams"), (0, u "Lcom/example/branchwise/branchwise/dd/DiagramManager;"), (5, u "()I"), (7, u "hold"), (0, u "(I)I"), (0, .fieldref 8 33), (0, .nameAndType 34 35), (0, u "count"), (0, u "I"), (17, u "release"), (0, u "(I)V"), (5, u "(Lcom/example/branchwise/branchwise/dd/DiagramManager;)V"), (6, u "mark")] 19

def k2c0 : Code := { maxStack := 2, maxLocals := 2, code := prog_16_method_1_code, exceptionTable := #[], attributes := #[] }
def k2m0 : Method := { name := "<init>", desc := "(Lcom/example/branchwise/branchwise/dd/DiagramManager;)V", sig := { parameters := [(.object "com/example/branchwise/branchwise/dd/DiagramManager")], returnType := none }, accessFlags := 1, code := some k2c0 }
def k2c1 : Code := { maxStack := 4, maxLocals := 2, code := prog_16_method_4_code, exceptionTable := #[], attributes := #[] }
def k2m1 : Method := { name := "hold", desc := "(I)I", sig := { parameters := [.int], returnType := some .int }, accessFlags := 1, code := some k2c1 }
def k2c2 : Code := { maxStack := 1, maxLocals := 1, code := prog_16_method_5_code, exceptionTable := #[], attributes := #[] }
def k2m2 : Method := { name := "mark", desc := "()I", sig := { parameters := [], returnType := some .int }, accessFlags := 1, code := some k2c2 }
def k2c3 : Code := { maxStack := 4, maxLocals := 2, code := prog_16_method_6_code, exceptionTable := #[], attributes := #[] }
def k2m3 : Method := { name := "release", desc := "(I)V", sig := { parameters := [.int], returnType := none }, accessFlags := 1, code := some k2c3 }
/-- com/example/branchwise/branchwise/dd/LiveDiagrams -/
def k2 : Class := { plain "com/example/branchwise/branchwise/dd/LiveDiagrams" (some 0) with
  accessFlags := 49
  interfaces := #[]
  cf := some (fileOf pool2 8 #[] #[{ accessFlags := 1, nameIndex := 5, descriptorIndex := 60, attributes := #[] }, { accessFlags := 1, nameIndex := 30, descriptorIndex := 31, attributes := #[] }, { accessFlags := 1, nameIndex := 67, descriptorIndex := 22, attributes := #[] }, { accessFlags := 1, nameIndex := 53, descriptorIndex := 54, attributes := #[] }] 49 2 #[] #[{ accessFlags := 18, nameIndex := 15, descriptorIndex := 16, attributes := #[] }, { accessFlags := 2, nameIndex := 11, descriptorIndex := 12, attributes := #[] }, { accessFlags := 2, nameIndex := 34, descriptorIndex := 35, attributes := #[] }])
  fields := #[{ name := "diagrams", type := (.object "com/example/branchwise/branchwise/dd/DiagramManager"), accessFlags := 18, slot := 0, constantValue := 0 }, { name := "held", type := (.array .int), accessFlags := 2, slot := 1, constantValue := 0 }, { name := "count", type := .int, accessFlags := 2, slot := 2, constantValue := 0 }]
  methods := #[k2m0, k2m1, k2m2, k2m3]
  instanceTypes := #[(.object "com/example/branchwise/branchwise/dd/DiagramManager"), (.array .int), .int]
  staticTypes := #[]
  resolved := Array.replicate 87 none
  statics := none }

def pool3 : Array CpInfo := pool [(1, u "java/lang/Cloneable"), (0, .class_ 1), (0, u "java/lang/Object"), (0, .class_ 3)] 3

/-- java/lang/Cloneable -/
def k3 : Class := { plain "java/lang/Cloneable" (some 0) with
  accessFlags := 1537
  interfaces := #[]
  cf := some (fileOf pool3 2 #[] #[] 1537 4 #[] #[])
  fields := #[]
  methods := #[]
  instanceTypes := #[]
  staticTypes := #[]
  resolved := Array.replicate 8 none
  statics := none }

def pool4 : Array CpInfo := pool [(1, u "java/io/Serializable"), (0, .class_ 1), (0, u "java/lang/Object"), (0, .class_ 3)] 3

/-- java/io/Serializable -/
def k4 : Class := { plain "java/io/Serializable" (some 0) with
  accessFlags := 1537
  interfaces := #[]
  cf := some (fileOf pool4 2 #[] #[] 1537 4 #[] #[])
  fields := #[]
  methods := #[]
  instanceTypes := #[]
  staticTypes := #[]
  resolved := Array.replicate 8 none
  statics := none }

/-- the primitive byte -/
def k5 : Class := { plain "byte" none with kind := .primitive 'B', accessFlags := 0x411 }
/-- [B -/
def k6 : Class := { plain "[B" (some 0) with kind := .array 5 .byte, interfaces := #[3, 4], accessFlags := 1041 }

/-- the primitive int -/
def k7 : Class := { plain "int" none with kind := .primitive 'I', accessFlags := 0x411 }
/-- [I -/
def k8 : Class := { plain "[I" (some 0) with kind := .array 7 .int, interfaces := #[3, 4], accessFlags := 1041 }

def heap : Heap := #[]
def classes : Array Class := #[k0, k1, k2, k3, k4, k5, k6, k7, k8]
def interned : List (Array UInt16 × Addr) := []
def slotsUsed : Nat := 0
def theMethod : MethodId := ⟨1, 1⟩
def args0 : Array Value := #[.int 3, .int 5, .int 6, .int 7, .int 8, .int 9]
def aboutOver (below : List Frame) : State where
  vm := { classes := classes, interned := interned.toArray }
  heap := heap
  slotsUsed := slotsUsed
  threads := #[{ frames := .invoking theMethod args0 :: below }]
def below0 : List Frame := [.native { method := ⟨0, 0⟩, args := #[] }]
def about1 : State := aboutOver below0
def p0 : Program := .bare "" "" ""
def e0 : Env := launch0.env 0 0 0
theorem w_frames : about1.frames = Frame.invoking theMethod args0 :: below0 := rfl
set_option maxRecDepth 65536 in
theorem w_args : argsFit about1.vm theMethod args0 = true := by decide +kernel
set_option maxRecDepth 65536 in
theorem w_heap : heapFits about1 = true := by decide +kernel
set_option maxRecDepth 65536 in
theorem w_runnable : about1.curStatus? = some .runnable := by decide +kernel
set_option maxRecDepth 65536 in
theorem w_alone : about1.alone = true := by decide +kernel
set_option maxRecDepth 65536 in
theorem w_named : about1.methodNamed? x = some theMethod := by decide +kernel
set_option maxRecDepth 65536 in
theorem w_hears : about1.hears theMethod below0 = true := by decide +kernel
set_option maxRecDepth 65536 in
theorem w_ripe : about1.ripe theMethod args0 below0 = true := by decide +kernel
theorem w_running : about1.status = .running := rfl
set_option maxRecDepth 65536 in
theorem w_room : about1.hasRoom e0.platform room_1 = true :=
  launch0.hasRoom_least _ room_1 (by decide +kernel) (by decide +kernel) (by decide +kernel) (by decide +kernel) (by decide +kernel) (by decide +kernel)
theorem allAtoms_all (ts : List Jvm.Cond) (a : Array Jvm.Value) (st : Jvm.State) : (allAtoms ts).before a st = ts.all (fun c => c.before a st) := by
  induction ts with
  | nil => rfl
  | cons c t ih =>
    show (Jvm.Cond.and c (allAtoms t)).before a st = _
    rw [Jvm.Cond.before_and, ih, List.all_cons]
def words1 : List Jvm.Cond := Jvm.Cond.code x code maxLocals ret :: tables_1
/-- a 'code' word, met by the world's own term for the bytes: nothing is compared byte by byte -/
theorem code_word {y : MethodName} {bytes : ByteArray} {mx : Nat} {rt : Option FieldType} {a : Array Value} {s : State} {m : MethodId} {meth : Method} {c : Code} (h1 : s.methodNamed? y = some m) (h2 : s.vm.method? m = some meth) (h3 : meth.code = some c) (h4 : c.code = bytes)
    (h5 : (c.maxLocals == mx && c.exceptionTable.isEmpty && decide (c.maxStack ≤ mostOperands) && decide (meth.sig.returnType = rt) && !meth.locks && decide (parseMethodDescriptor y.desc = some meth.sig)) = true) : (Jvm.Cond.code y bytes mx rt).before a s = true := by
  simp only [Bool.and_eq_true, beq_iff_eq, Bool.not_eq_true', decide_eq_true_eq] at h5
  obtain ⟨⟨⟨⟨⟨g1, g2⟩, g3⟩, g4⟩, g5⟩, g6⟩ := h5
  simp [Cond.before, Cond.holds, Cond.value, h1, h2, h3, h4, g1, g2, g3, g4, g5, g6]
def isCode : Jvm.Cond → Bool
  | .code _ _ _ _ => true
  | _ => false
theorem all_split {L : List Jvm.Cond} {P : Jvm.Cond → Bool} (h1 : L.all (fun c => isCode c || P c) = true) (h2 : ∀ c ∈ L.filter isCode, P c = true) : L.all P = true := by
  refine List.all_eq_true.mpr fun c hc => ?_
  have h := List.all_eq_true.mp h1 c hc
  rcases Bool.eq_false_or_eq_true (isCode c) with hi | hi
  · exact h2 c (List.mem_filter.mpr ⟨hc, hi⟩)
  · simpa [hi] using h
set_option maxRecDepth 65536 in
theorem w_c0 : (Jvm.Cond.code x code maxLocals ret).before args0 about1 = true := code_word (m := ⟨1, 1⟩) (meth := k1m1) (c := k1c1) (by decide +kernel) rfl rfl rfl (by decide +kernel)
set_option maxRecDepth 65536 in
theorem w_c1 : (Jvm.Cond.code ({ cls := "com/example/branchwise/branchwise/dd/LiveDiagrams", name := "<init>", desc := "(Lcom/example/branchwise/branchwise/dd/DiagramManager;)V" } : Jvm.MethodName) prog_16_method_1_code (2 : Nat) (Option.none : Option Jvm.ClassFile.FieldType)).before args0 about1 = true := code_word (m := ⟨2, 0⟩) (meth := k2m0) (c := k2c0) (by decide +kernel) rfl rfl rfl (by decide +kernel)
set_option maxRecDepth 65536 in
theorem w_c2 : (Jvm.Cond.code ({ cls := "java/lang/Object", name := "<init>", desc := "()V" } : Jvm.MethodName) object_method_1_code (1 : Nat) (Option.none : Option Jvm.ClassFile.FieldType)).before args0 about1 = true := code_word (m := ⟨0, 0⟩) (meth := k0m0) (c := k0c0) (by decide +kernel) rfl rfl rfl (by decide +kernel)
set_option maxRecDepth 65536 in
theorem w_c3 : (Jvm.Cond.code ({ cls := "com/example/branchwise/branchwise/dd/LiveDiagrams", name := "mark", desc := "()I" } : Jvm.MethodName) prog_16_method_5_code (1 : Nat) (Option.some Jvm.ClassFile.FieldType.int)).before args0 about1 = true := code_word (m := ⟨2, 2⟩) (meth := k2m2) (c := k2c2) (by decide +kernel) rfl rfl rfl (by decide +kernel)
set_option maxRecDepth 65536 in
theorem w_c4 : (Jvm.Cond.code ({ cls := "com/example/branchwise/branchwise/dd/LiveDiagrams", name := "release", desc := "(I)V" } : Jvm.MethodName) prog_16_method_6_code (2 : Nat) (Option.none : Option Jvm.ClassFile.FieldType)).before args0 about1 = true := code_word (m := ⟨2, 3⟩) (meth := k2m3) (c := k2c3) (by decide +kernel) rfl rfl rfl (by decide +kernel)
set_option maxRecDepth 65536 in
theorem w_c5 : (Jvm.Cond.code ({ cls := "com/example/branchwise/branchwise/dd/LiveDiagrams", name := "hold", desc := "(I)I" } : Jvm.MethodName) prog_16_method_4_code (2 : Nat) (Option.some Jvm.ClassFile.FieldType.int)).before args0 about1 = true := code_word (m := ⟨2, 1⟩) (meth := k2m1) (c := k2c1) (by decide +kernel) rfl rfl rfl (by decide +kernel)
def codes1 : List Jvm.Cond := [Jvm.Cond.code x code maxLocals ret, Jvm.Cond.code ({ cls := "com/example/branchwise/branchwise/dd/LiveDiagrams", name := "<init>", desc := "(Lcom/example/branchwise/branchwise/dd/DiagramManager;)V" } : Jvm.MethodName) prog_16_method_1_code (2 : Nat) (Option.none : Option Jvm.ClassFile.FieldType), Jvm.Cond.code ({ cls := "java/lang/Object", name := "<init>", desc := "()V" } : Jvm.MethodName) object_method_1_code (1 : Nat) (Option.none : Option Jvm.ClassFile.FieldType), Jvm.Cond.code ({ cls := "com/example/branchwise/branchwise/dd/LiveDiagrams", name := "mark", desc := "()I" } : Jvm.MethodName) prog_16_method_5_code (1 : Nat) (Option.some Jvm.ClassFile.FieldType.int), Jvm.Cond.code ({ cls := "com/example/branchwise/branchwise/dd/LiveDiagrams", name := "release", desc := "(I)V" } : Jvm.MethodName) prog_16_method_6_code (2 : Nat) (Option.none : Option Jvm.ClassFile.FieldType), Jvm.Cond.code ({ cls := "com/example/branchwise/branchwise/dd/LiveDiagrams", name := "hold", desc := "(I)I" } : Jvm.MethodName) prog_16_method_4_code (2 : Nat) (Option.some Jvm.ClassFile.FieldType.int)]
set_option maxRecDepth 65536 in
theorem codes_eq : words1.filter isCode = codes1 := rfl
theorem w_codes : ∀ c ∈ words1.filter isCode, c.before args0 about1 = true := by
  rw [codes_eq]
  intro c hc
  simp only [codes1, List.mem_cons, List.not_mem_nil, or_false] at hc
  rcases hc with rfl | rfl | rfl | rfl | rfl | rfl
  · exact w_c0
  · exact w_c1
  · exact w_c2
  · exact w_c3
  · exact w_c4
  · exact w_c5
set_option maxRecDepth 65536 in
theorem w_t1 : (words1.take 24).all (fun c => isCode c || c.before args0 about1) = true := by decide +kernel
set_option maxRecDepth 65536 in
theorem w_t2 : (words1.drop 24).all (fun c => isCode c || c.before args0 about1) = true := by decide +kernel
theorem w_tables : (allAtoms (Jvm.Cond.code x code maxLocals ret :: tables_1)).before args0 about1 = true := by
  rw [allAtoms_all]
  show words1.all (fun c => c.before args0 about1) = true
  refine all_split ?_ w_codes
  rw [← List.take_append_drop 24 words1, List.all_append, w_t1, w_t2]
  rfl
set_option maxRecDepth 65536 in
theorem w_case : (Jvm.Cond.and given_1 narrow_1).before args0 about1 = true := by decide +kernel
theorem w_applies : (headSpec (Jvm.Cond.code x code maxLocals ret :: tables_1) room_1).applies x e0.platform about1 = true :=
  (Spec.applies_iff w_frames).mpr ⟨w_running, w_runnable, w_alone, w_named, w_hears, w_ripe, w_room, w_tables⟩
theorem atStart : AtStart classFile x code maxLocals ret World_1 tables_1 room_1 Calls_1 rest_1 Pre_1 launch0 p0 e0 about1 theMethod args0 below0 :=
  ⟨lists_1, trivial, launch0.admits_env _ _ _, launch0.least_env, fairChoices_fair.cas, fairChoices_fair.clock, w_frames, w_args, w_heap, w_applies, trivial, trivial, w_case⟩
end start1
theorem witness_1 : WitnessClaimed_1 := ⟨start1.p0, start1.e0, start1.about1, start1.theMethod, start1.args0, start1.below0, start1.atStart⟩
end Jvm.Pilot.@@N@@
