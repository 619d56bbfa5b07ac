import JvmDerived
import JvmDerived.Pilot.@@N@@Statement
import JvmDerived.Pilot.@@N@@Code
set_option linter.unusedVariables false
set_option linter.unusedSimpArgs false
@@BLOCK:NumsL.lean.txt@@
namespace Jvm.Pilot.@@N@@
open Jvm Jvm.ClassFile Sem Op Lib Jvm.Free Jvm.Stand Jvm.LawKit Jvm.RoadKit Bundle Jvm.Pilot.@@N@@.Jvm.D
section Own
variable {p : Program} {l : Launch} {e : Env} {R : Room} {s : State} {m : MethodId} {args : Array Value} {below : List Frame} {meth : Method} {c : Code} {own nm : String} {bytes : ByteArray} {ml : Nat} {ret : Option FieldType} {T : State} {locs : List Loc} {cells slots : Nat} {Z : State} {a0 : Array Value} {h : Heap} {n0 : Nat} {K : State → Outcome → Prop} {pc pc' pt : Nat} {L L' : Array Slot} {S : List Value}
/-- what is left of a run, from a state on -/
def Go (p : Program) (e : Env) (below : List Frame) (K : State → Outcome → Prop) (U : State) : Prop := ∃ s₂ o, Steps p.tables e below U s₂ ∧ s₂.status = .running ∧ Ended s₂ below o ∧ K s₂ o
theorem Go.of {U U' : State} (g : Go p e below K U') (st : ∀ t, Steps p.tables e below U' t → Steps p.tables e below U t) : Go p e below K U := by
  obtain ⟨s₂, o, h1, h2⟩ := g; exact ⟨s₂, o, st _ h1, h2⟩
/-- where a walk stands -/
def St (Z : State) (n0 : Nat) (p : Program) (l : Launch) (e : Env) (R : Room) (s : State) (m : MethodId) (args : Array Value) (below : List Frame) (meth : Method) (c : Code) (own nm : String) (bytes : ByteArray) (ml : Nat) (ret : Option FieldType) (T : State) (locs : List Loc) (cells slots : Nat) (h : Heap) : Prop :=
  Stand p l e R s m args below meth c T locs cells slots ∧ (p.tables.exec = Jvm.exec ∧ c.code = bytes ∧ c.maxLocals = ml ∧ s.vm.findClass own = some m.cls ∧ Z.Warmed39 s.vm ∧ meth.sig.returnType = ret ∧ meth.locks = false ∧ meth.name = nm) ∧ T.heap = h ∧ Fr n0 locs ∧ Old Z n0 h
theorem St.X (X : St Z n0 p l e R s m args below meth c own nm bytes ml ret T locs cells slots h) : Stand p l e R s m args below meth c T locs cells slots := X.1
theorem St.hx (X : St Z n0 p l e R s m args below meth c own nm bytes ml ret T locs cells slots h) : p.tables.exec = Jvm.exec := X.2.1.1
theorem St.by_ (X : St Z n0 p l e R s m args below meth c own nm bytes ml ret T locs cells slots h) : c.code = bytes := X.2.1.2.1
theorem St.ml_ (X : St Z n0 p l e R s m args below meth c own nm bytes ml ret T locs cells slots h) : c.maxLocals = ml := X.2.1.2.2.1
theorem St.own_ (X : St Z n0 p l e R s m args below meth c own nm bytes ml ret T locs cells slots h) : s.vm.findClass own = some m.cls := X.2.1.2.2.2.1
theorem St.hZ (X : St Z n0 p l e R s m args below meth c own nm bytes ml ret T locs cells slots h) : Z.Warmed39 s.vm := X.2.1.2.2.2.2.1
theorem St.ret_ (X : St Z n0 p l e R s m args below meth c own nm bytes ml ret T locs cells slots h) : meth.sig.returnType = ret := X.2.1.2.2.2.2.2.1
theorem St.lk (X : St Z n0 p l e R s m args below meth c own nm bytes ml ret T locs cells slots h) : meth.locks = false := X.2.1.2.2.2.2.2.2.1
theorem St.nm_ (X : St Z n0 p l e R s m args below meth c own nm bytes ml ret T locs cells slots h) : meth.name = nm := X.2.1.2.2.2.2.2.2.2
theorem St.eT (X : St Z n0 p l e R s m args below meth c own nm bytes ml ret T locs cells slots h) : T.heap = h := X.2.2.1
theorem St.fr (X : St Z n0 p l e R s m args below meth c own nm bytes ml ret T locs cells slots h) : Fr n0 locs := X.2.2.2.1
theorem St.old (X : St Z n0 p l e R s m args below meth c own nm bytes ml ret T locs cells slots h) : Old Z n0 h := X.2.2.2.2
theorem St.sz (X : St Z n0 p l e R s m args below meth c own nm bytes ml ret T locs cells slots h) : n0 ≤ h.size := X.2.2.2.2.1 ▸ X.2.2.2.2.2.1
theorem St.to (X : St Z n0 p l e R s m args below meth c own nm bytes ml ret T locs cells slots h) {T' : State} {locs' : List Loc} {cells' slots' : Nat} {h' : Heap} (Y : Stand p l e R s m args below meth c T' locs' cells' slots') (e' : T'.heap = h') (N : Fr n0 locs') (z : Old Z n0 h') : St Z n0 p l e R s m args below meth c own nm bytes ml ret T' locs' cells' slots' h' := ⟨Y, X.2.1, e', N, z⟩
theorem St.more (X : St Z n0 p l e R s m args below meth c own nm bytes ml ret T locs cells slots h) {c' n' : Nat} (q1 : cells ≤ c') (q2 : slots ≤ n') : St Z n0 p l e R s m args below meth c own nm bytes ml ret T locs c' n' h := ⟨X.X.mono q1 q2, X.2⟩
theorem St.d (X : St Z n0 p l e R s m args below meth c own nm bytes ml ret T locs cells slots h) {r : Except DecodeError (Instr × Nat)} (hd : decode bytes pc = r) : decode c.code pc = r := hb X.by_ hd
/-- a body's contract -/
def Con (l : Launch) (Z : State) (y : MethodName) (bytes : ByteArray) (ml : Nat) (ret : Option FieldType) (ws : List Jvm.Cond) (rm : Room) (C N : Nat) (as' : Array Value) (h : Heap) (Q : Option Value → Heap → List Loc → Prop) : Prop :=
  MetFree l y (head1 (Jvm.Cond.code y bytes ml ret :: ws) rm) (fun a U => a = as' ∧ Z.Warmed39 U.vm ∧ U.heap = h) (fun _ _ _ _ _ => True) (fun _ U o U' => ∃ v L, o = .returned v ∧ Q v U'.heap L ∧ FrameEnd U o U' L C N)
def Kq (s : State) (C N : Nat) (Q : Option Value → Heap → List Loc → Prop) (t : State) (o : Outcome) : Prop := ∃ v L, o = .returned v ∧ Q v t.heap L ∧ FrameEnd s o t L C N
theorem Con.intro {y : MethodName} {ws : List Jvm.Cond} {rm : Room} {C N : Nat} {as' : Array Value} {Q : Option Value → Heap → List Loc → Prop} (hy : plainFor y = true) (ef : ∀ m, entryFrame m as' ml = mkF m 0 L []) (hz : Old Z n0 h)
    (body : ∀ p e s m below meth c T, s.heap = h → St Z n0 p l e rm s m as' below meth c y.cls y.name bytes ml ret T [] 0 0 h → Go p e below (Kq s C N Q) (T.setTop (mkF m 0 L []))) : Con l Z y bytes ml ret ws rm C N as' h Q := by
  refine MetFree.of_bodySF hy hisR ?_
  intro p e s m args below meth c s₁ Bd hml0 hP hK
  obtain ⟨rfl, hZ, hh⟩ := hP
  have e0 : s₁.heap = h := by rw [← hh, Bd.state]; rfl
  obtain ⟨s₂, o, h1, h2, h3, h4⟩ := body p e s m below meth c s₁ hh ⟨Stand.of_body Bd, ⟨Bd.exec, Bd.bytes, hml0, findClass_of_methodNamed Bd.named, hZ, Bd.returns, Bd.notSynchronized, (name_of_methodNamed Bd.named Bd.method).1⟩, e0, Fr.nil n0, hz⟩
  exact ⟨s₂, o, castTop (ef m) h1, h2, h3, h4⟩
theorem go_eq {f g : JFrame} (q : f = g) (k : Go p e below K (T.setTop g)) : Go p e below K (T.setTop f) := q ▸ k
theorem g_iloadN (X : St Z n0 p l e R s m args below meth c own nm bytes ml ret T locs cells slots h) {k : Fin 4} {v : Int32} (hd : decode bytes pc = .ok (.iload_n k, 1)) (hp : pc + 1 = pc') (hl : L[k.val]? = some (.val (.int v))) (k : Go p e below K (T.setTop (mkF m pc' L (.int v :: S)))) : Go p e below K (T.setTop (mkF m pc L S)) := by
  subst hp; exact k.of (fun _ q => XS.iloadN X.X.here X.hx rfl (X.d hd) hl q)
theorem g_iload (X : St Z n0 p l e R s m args below meth c own nm bytes ml ret T locs cells slots h) {k : Nat} {v : Int32} (hd : decode bytes pc = .ok (.iload k, 2)) (hp : pc + 2 = pc') (hl : L[k]? = some (.val (.int v))) (k : Go p e below K (T.setTop (mkF m pc' L (.int v :: S)))) : Go p e below K (T.setTop (mkF m pc L S)) := by
  subst hp; exact k.of (fun _ q => XS.iload X.X.here X.hx rfl (X.d hd) hl q)
theorem g_lloadN (X : St Z n0 p l e R s m args below meth c own nm bytes ml ret T locs cells slots h) {k : Fin 4} {v : Int64} (hd : decode bytes pc = .ok (.lload_n k, 1)) (hp : pc + 1 = pc') (hl : L[k.val]? = some (.val (.long v))) (k : Go p e below K (T.setTop (mkF m pc' L (.long v :: S)))) : Go p e below K (T.setTop (mkF m pc L S)) := by
  subst hp; exact k.of (fun _ q => XS.lloadN X.X.here X.hx rfl (X.d hd) hl q)
theorem g_lload (X : St Z n0 p l e R s m args below meth c own nm bytes ml ret T locs cells slots h) {k : Nat} {v : Int64} (hd : decode bytes pc = .ok (.lload k, 2)) (hp : pc + 2 = pc') (hl : L[k]? = some (.val (.long v))) (k : Go p e below K (T.setTop (mkF m pc' L (.long v :: S)))) : Go p e below K (T.setTop (mkF m pc L S)) := by
  subst hp; exact k.of (fun _ q => XS.lload X.X.here X.hx rfl (X.d hd) hl q)
theorem g_aloadN (X : St Z n0 p l e R s m args below meth c own nm bytes ml ret T locs cells slots h) {k : Fin 4} {v : Value} (hd : decode bytes pc = .ok (.aload_n k, 1)) (hp : pc + 1 = pc') (hl : L[k.val]? = some (.val v)) (hv : v.isRef = true) (k : Go p e below K (T.setTop (mkF m pc' L (v :: S)))) : Go p e below K (T.setTop (mkF m pc L S)) := by
  subst hp; exact k.of (fun _ q => XS.aloadN X.X.here X.hx rfl (X.d hd) hl hv q)
theorem g_aload (X : St Z n0 p l e R s m args below meth c own nm bytes ml ret T locs cells slots h) {k : Nat} {v : Value} (hd : decode bytes pc = .ok (.aload k, 2)) (hp : pc + 2 = pc') (hl : L[k]? = some (.val v)) (hv : v.isRef = true) (k : Go p e below K (T.setTop (mkF m pc' L (v :: S)))) : Go p e below K (T.setTop (mkF m pc L S)) := by
  subst hp; exact k.of (fun _ q => XS.aload X.X.here X.hx rfl (X.d hd) hl hv q)
theorem g_istoreN (X : St Z n0 p l e R s m args below meth c own nm bytes ml ret T locs cells slots h) {k : Fin 4} {v : Int32} (hd : decode bytes pc = .ok (.istore_n k, 1)) (hp : pc + 1 = pc') (hl : storeLocals L k.val (.int v) = some L') (k : Go p e below K (T.setTop (mkF m pc' L' S))) : Go p e below K (T.setTop (mkF m pc L (.int v :: S))) := by
  subst hp; exact k.of (fun _ q => XS.istoreN X.X.here X.hx rfl (X.d hd) rfl hl q)
theorem g_istore (X : St Z n0 p l e R s m args below meth c own nm bytes ml ret T locs cells slots h) {k : Nat} {v : Int32} (hd : decode bytes pc = .ok (.istore k, 2)) (hp : pc + 2 = pc') (hl : storeLocals L k (.int v) = some L') (k : Go p e below K (T.setTop (mkF m pc' L' S))) : Go p e below K (T.setTop (mkF m pc L (.int v :: S))) := by
  subst hp; exact k.of (fun _ q => XS.istore X.X.here X.hx rfl (X.d hd) rfl hl q)
theorem g_lstoreN (X : St Z n0 p l e R s m args below meth c own nm bytes ml ret T locs cells slots h) {k : Fin 4} {v : Int64} (hd : decode bytes pc = .ok (.lstore_n k, 1)) (hp : pc + 1 = pc') (hl : storeLocals L k.val (.long v) = some L') (k : Go p e below K (T.setTop (mkF m pc' L' S))) : Go p e below K (T.setTop (mkF m pc L (.long v :: S))) := by
  subst hp; exact k.of (fun _ q => XS.lstoreN X.X.here X.hx rfl (X.d hd) rfl hl q)
theorem g_lstore (X : St Z n0 p l e R s m args below meth c own nm bytes ml ret T locs cells slots h) {k : Nat} {v : Int64} (hd : decode bytes pc = .ok (.lstore k, 2)) (hp : pc + 2 = pc') (hl : storeLocals L k (.long v) = some L') (k : Go p e below K (T.setTop (mkF m pc' L' S))) : Go p e below K (T.setTop (mkF m pc L (.long v :: S))) := by
  subst hp; exact k.of (fun _ q => XS.lstore X.X.here X.hx rfl (X.d hd) rfl hl q)
theorem g_astoreN (X : St Z n0 p l e R s m args below meth c own nm bytes ml ret T locs cells slots h) {k : Fin 4} {v : Value} (hd : decode bytes pc = .ok (.astore_n k, 1)) (hp : pc + 1 = pc') (hv : v.isRef = true) (hl : storeLocals L k.val v = some L') (k : Go p e below K (T.setTop (mkF m pc' L' S))) : Go p e below K (T.setTop (mkF m pc L (v :: S))) := by
  subst hp; exact k.of (fun _ q => XS.astoreN X.X.here X.hx rfl (X.d hd) rfl hv hl q)
theorem g_astore (X : St Z n0 p l e R s m args below meth c own nm bytes ml ret T locs cells slots h) {k : Nat} {v : Value} (hd : decode bytes pc = .ok (.astore k, 2)) (hp : pc + 2 = pc') (hv : v.isRef = true) (hl : storeLocals L k v = some L') (k : Go p e below K (T.setTop (mkF m pc' L' S))) : Go p e below K (T.setTop (mkF m pc L (v :: S))) := by
  subst hp; exact k.of (fun _ q => XS.astore X.X.here X.hx rfl (X.d hd) rfl hv hl q)
theorem g_iinc (X : St Z n0 p l e R s m args below meth c own nm bytes ml ret T locs cells slots h) {k : Nat} {z : Int} {v : Int32} (hd : decode bytes pc = .ok (.iinc k z, 3)) (hp : pc + 3 = pc') (hl : L[k]? = some (.val (.int v))) (hl' : storeLocals L k (.int (v + Int32.ofInt z)) = some L') (k : Go p e below K (T.setTop (mkF m pc' L' S))) : Go p e below K (T.setTop (mkF m pc L S)) := by
  subst hp; exact k.of (fun _ q => XS.iinc X.X.here X.hx rfl (X.d hd) hl hl' q)
theorem g_iconst (X : St Z n0 p l e R s m args below meth c own nm bytes ml ret T locs cells slots h) {i : Int} {v : Int32} (hd : decode bytes pc = .ok (.iconst i, 1)) (hp : pc + 1 = pc') (hv : Int32.ofInt i = v) (k : Go p e below K (T.setTop (mkF m pc' L (.int v :: S)))) : Go p e below K (T.setTop (mkF m pc L S)) := by
  subst hp; exact k.of (fun _ q => XS.iconst X.X.here X.hx rfl (X.d hd) (hv ▸ q))
theorem g_bipush (X : St Z n0 p l e R s m args below meth c own nm bytes ml ret T locs cells slots h) {i : Int} {v : Int32} (hd : decode bytes pc = .ok (.bipush i, 2)) (hp : pc + 2 = pc') (hv : (Int8.ofInt i).toInt32 = v) (k : Go p e below K (T.setTop (mkF m pc' L (.int v :: S)))) : Go p e below K (T.setTop (mkF m pc L S)) := by
  subst hp; exact k.of (fun _ q => XS.bipush X.X.here X.hx rfl (X.d hd) (hv ▸ q))
theorem g_sipush (X : St Z n0 p l e R s m args below meth c own nm bytes ml ret T locs cells slots h) {i : Int} {v : Int32} (hd : decode bytes pc = .ok (.sipush i, 3)) (hp : pc + 3 = pc') (hv : (Int16.ofInt i).toInt32 = v) (k : Go p e below K (T.setTop (mkF m pc' L (.int v :: S)))) : Go p e below K (T.setTop (mkF m pc L S)) := by
  subst hp; exact k.of (fun _ q => XS.sipush X.X.here X.hx rfl (X.d hd) (hv ▸ q))
theorem g_lconst (X : St Z n0 p l e R s m args below meth c own nm bytes ml ret T locs cells slots h) {i : Fin 2} {v : Int64} (hd : decode bytes pc = .ok (.lconst i, 1)) (hp : pc + 1 = pc') (hv : Int64.ofNat i = v) (k : Go p e below K (T.setTop (mkF m pc' L (.long v :: S)))) : Go p e below K (T.setTop (mkF m pc L S)) := by
  subst hp; exact k.of (fun _ q => XS.lconst X.X.here X.hx rfl (X.d hd) (hv ▸ q))
theorem g_aconst_null (X : St Z n0 p l e R s m args below meth c own nm bytes ml ret T locs cells slots h) (hd : decode bytes pc = .ok (.aconst_null, 1)) (hp : pc + 1 = pc') (k : Go p e below K (T.setTop (mkF m pc' L (.null :: S)))) : Go p e below K (T.setTop (mkF m pc L S)) := by
  subst hp; exact k.of (fun _ q => XS.aconstNull X.X.here X.hx rfl (X.d hd) q)
theorem g_iadd (X : St Z n0 p l e R s m args below meth c own nm bytes ml ret T locs cells slots h) {x y : Int32} (hd : decode bytes pc = .ok (.iadd, 1)) (hp : pc + 1 = pc') (k : Go p e below K (T.setTop (mkF m pc' L (.int (x + y) :: S)))) : Go p e below K (T.setTop (mkF m pc L (.int y :: .int x :: S))) := by
  subst hp; exact k.of (fun _ q => XS.iadd X.X.here X.hx rfl (X.d hd) rfl q)
theorem g_isub (X : St Z n0 p l e R s m args below meth c own nm bytes ml ret T locs cells slots h) {x y : Int32} (hd : decode bytes pc = .ok (.isub, 1)) (hp : pc + 1 = pc') (k : Go p e below K (T.setTop (mkF m pc' L (.int (x - y) :: S)))) : Go p e below K (T.setTop (mkF m pc L (.int y :: .int x :: S))) := by
  subst hp; exact k.of (fun _ q => XS.isub X.X.here X.hx rfl (X.d hd) rfl q)
theorem g_imul (X : St Z n0 p l e R s m args below meth c own nm bytes ml ret T locs cells slots h) {x y : Int32} (hd : decode bytes pc = .ok (.imul, 1)) (hp : pc + 1 = pc') (k : Go p e below K (T.setTop (mkF m pc' L (.int (x * y) :: S)))) : Go p e below K (T.setTop (mkF m pc L (.int y :: .int x :: S))) := by
  subst hp; exact k.of (fun _ q => XS.imul X.X.here X.hx rfl (X.d hd) rfl q)
theorem g_iand (X : St Z n0 p l e R s m args below meth c own nm bytes ml ret T locs cells slots h) {x y : Int32} (hd : decode bytes pc = .ok (.iand, 1)) (hp : pc + 1 = pc') (k : Go p e below K (T.setTop (mkF m pc' L (.int (x &&& y) :: S)))) : Go p e below K (T.setTop (mkF m pc L (.int y :: .int x :: S))) := by
  subst hp; exact k.of (fun _ q => XS.iand X.X.here X.hx rfl (X.d hd) rfl q)
theorem g_ior (X : St Z n0 p l e R s m args below meth c own nm bytes ml ret T locs cells slots h) {x y : Int32} (hd : decode bytes pc = .ok (.ior, 1)) (hp : pc + 1 = pc') (k : Go p e below K (T.setTop (mkF m pc' L (.int (x ||| y) :: S)))) : Go p e below K (T.setTop (mkF m pc L (.int y :: .int x :: S))) := by
  subst hp; exact k.of (fun _ q => XS.ior X.X.here X.hx rfl (X.d hd) rfl q)
theorem g_ixor (X : St Z n0 p l e R s m args below meth c own nm bytes ml ret T locs cells slots h) {x y : Int32} (hd : decode bytes pc = .ok (.ixor, 1)) (hp : pc + 1 = pc') (k : Go p e below K (T.setTop (mkF m pc' L (.int (x ^^^ y) :: S)))) : Go p e below K (T.setTop (mkF m pc L (.int y :: .int x :: S))) := by
  subst hp; exact k.of (fun _ q => XS.ixor X.X.here X.hx rfl (X.d hd) rfl q)
theorem g_ishl (X : St Z n0 p l e R s m args below meth c own nm bytes ml ret T locs cells slots h) {x y : Int32} (hd : decode bytes pc = .ok (.ishl, 1)) (hp : pc + 1 = pc') (k : Go p e below K (T.setTop (mkF m pc' L (.int (x <<< (y &&& 31)) :: S)))) : Go p e below K (T.setTop (mkF m pc L (.int y :: .int x :: S))) := by
  subst hp; exact k.of (fun _ q => XS.ishl X.X.here X.hx rfl (X.d hd) rfl q)
theorem g_ishr (X : St Z n0 p l e R s m args below meth c own nm bytes ml ret T locs cells slots h) {x y : Int32} (hd : decode bytes pc = .ok (.ishr, 1)) (hp : pc + 1 = pc') (k : Go p e below K (T.setTop (mkF m pc' L (.int (x >>> (y &&& 31)) :: S)))) : Go p e below K (T.setTop (mkF m pc L (.int y :: .int x :: S))) := by
  subst hp; exact k.of (fun _ q => XS.ishr X.X.here X.hx rfl (X.d hd) rfl q)
theorem g_iushr (X : St Z n0 p l e R s m args below meth c own nm bytes ml ret T locs cells slots h) {x y : Int32} (hd : decode bytes pc = .ok (.iushr, 1)) (hp : pc + 1 = pc') (k : Go p e below K (T.setTop (mkF m pc' L (.int ((x.toUInt32 >>> (y &&& 31).toUInt32).toInt32) :: S)))) : Go p e below K (T.setTop (mkF m pc L (.int y :: .int x :: S))) := by
  subst hp; exact k.of (fun _ q => XS.iushr X.X.here X.hx rfl (X.d hd) rfl q)
theorem g_idiv (X : St Z n0 p l e R s m args below meth c own nm bytes ml ret T locs cells slots h) {x y : Int32} (hd : decode bytes pc = .ok (.idiv, 1)) (hp : pc + 1 = pc') (hy : y ≠ 0) (k : Go p e below K (T.setTop (mkF m pc' L (.int (x / y) :: S)))) : Go p e below K (T.setTop (mkF m pc L (.int y :: .int x :: S))) := by
  subst hp; exact k.of (fun _ q => XS.idiv X.X.here X.hx rfl (X.d hd) rfl hy q)
theorem g_irem (X : St Z n0 p l e R s m args below meth c own nm bytes ml ret T locs cells slots h) {x y : Int32} (hd : decode bytes pc = .ok (.irem, 1)) (hp : pc + 1 = pc') (hy : y ≠ 0) (k : Go p e below K (T.setTop (mkF m pc' L (.int (x % y) :: S)))) : Go p e below K (T.setTop (mkF m pc L (.int y :: .int x :: S))) := by
  subst hp; exact k.of (fun _ q => iremM X.X X.hx rfl (X.d hd) rfl hy q)
theorem g_ladd (X : St Z n0 p l e R s m args below meth c own nm bytes ml ret T locs cells slots h) {x y : Int64} (hd : decode bytes pc = .ok (.ladd, 1)) (hp : pc + 1 = pc') (k : Go p e below K (T.setTop (mkF m pc' L (.long (x + y) :: S)))) : Go p e below K (T.setTop (mkF m pc L (.long y :: .long x :: S))) := by
  subst hp; exact k.of (fun _ q => XS.ladd X.X.here X.hx rfl (X.d hd) rfl q)
theorem g_lsub (X : St Z n0 p l e R s m args below meth c own nm bytes ml ret T locs cells slots h) {x y : Int64} (hd : decode bytes pc = .ok (.lsub, 1)) (hp : pc + 1 = pc') (k : Go p e below K (T.setTop (mkF m pc' L (.long (x - y) :: S)))) : Go p e below K (T.setTop (mkF m pc L (.long y :: .long x :: S))) := by
  subst hp; exact k.of (fun _ q => XS.lsub X.X.here X.hx rfl (X.d hd) rfl q)
theorem g_lmul (X : St Z n0 p l e R s m args below meth c own nm bytes ml ret T locs cells slots h) {x y : Int64} (hd : decode bytes pc = .ok (.lmul, 1)) (hp : pc + 1 = pc') (k : Go p e below K (T.setTop (mkF m pc' L (.long (x * y) :: S)))) : Go p e below K (T.setTop (mkF m pc L (.long y :: .long x :: S))) := by
  subst hp; exact k.of (fun _ q => XS.lmul X.X.here X.hx rfl (X.d hd) rfl q)
theorem g_land (X : St Z n0 p l e R s m args below meth c own nm bytes ml ret T locs cells slots h) {x y : Int64} (hd : decode bytes pc = .ok (.land, 1)) (hp : pc + 1 = pc') (k : Go p e below K (T.setTop (mkF m pc' L (.long (x &&& y) :: S)))) : Go p e below K (T.setTop (mkF m pc L (.long y :: .long x :: S))) := by
  subst hp; exact k.of (fun _ q => XS.land X.X.here X.hx rfl (X.d hd) rfl q)
theorem g_lor (X : St Z n0 p l e R s m args below meth c own nm bytes ml ret T locs cells slots h) {x y : Int64} (hd : decode bytes pc = .ok (.lor, 1)) (hp : pc + 1 = pc') (k : Go p e below K (T.setTop (mkF m pc' L (.long (x ||| y) :: S)))) : Go p e below K (T.setTop (mkF m pc L (.long y :: .long x :: S))) := by
  subst hp; exact k.of (fun _ q => XS.lor X.X.here X.hx rfl (X.d hd) rfl q)
theorem g_lxor (X : St Z n0 p l e R s m args below meth c own nm bytes ml ret T locs cells slots h) {x y : Int64} (hd : decode bytes pc = .ok (.lxor, 1)) (hp : pc + 1 = pc') (k : Go p e below K (T.setTop (mkF m pc' L (.long (x ^^^ y) :: S)))) : Go p e below K (T.setTop (mkF m pc L (.long y :: .long x :: S))) := by
  subst hp; exact k.of (fun _ q => XS.lxor X.X.here X.hx rfl (X.d hd) rfl q)
theorem g_ldiv (X : St Z n0 p l e R s m args below meth c own nm bytes ml ret T locs cells slots h) {x y : Int64} (hd : decode bytes pc = .ok (.ldiv, 1)) (hp : pc + 1 = pc') (hy : y ≠ 0) (k : Go p e below K (T.setTop (mkF m pc' L (.long (x / y) :: S)))) : Go p e below K (T.setTop (mkF m pc L (.long y :: .long x :: S))) := by
  subst hp; exact k.of (fun _ q => XS.ldiv X.X.here X.hx rfl (X.d hd) rfl hy q)
theorem g_lrem (X : St Z n0 p l e R s m args below meth c own nm bytes ml ret T locs cells slots h) {x y : Int64} (hd : decode bytes pc = .ok (.lrem, 1)) (hp : pc + 1 = pc') (hy : y ≠ 0) (k : Go p e below K (T.setTop (mkF m pc' L (.long (x - (x / y) * y) :: S)))) : Go p e below K (T.setTop (mkF m pc L (.long y :: .long x :: S))) := by
  subst hp; exact k.of (fun _ q => XS.lrem X.X.here X.hx rfl (X.d hd) rfl hy q)
theorem g_lshl (X : St Z n0 p l e R s m args below meth c own nm bytes ml ret T locs cells slots h) {x : Int64} {y : Int32} (hd : decode bytes pc = .ok (.lshl, 1)) (hp : pc + 1 = pc') (k : Go p e below K (T.setTop (mkF m pc' L (.long (x <<< (y &&& 0x3f).toInt64) :: S)))) : Go p e below K (T.setTop (mkF m pc L (.int y :: .long x :: S))) := by
  subst hp; exact k.of (fun _ q => XS.lshl X.X.here X.hx rfl (X.d hd) rfl q)
theorem g_lshr (X : St Z n0 p l e R s m args below meth c own nm bytes ml ret T locs cells slots h) {x : Int64} {y : Int32} (hd : decode bytes pc = .ok (.lshr, 1)) (hp : pc + 1 = pc') (k : Go p e below K (T.setTop (mkF m pc' L (.long (x >>> (y &&& 0x3f).toInt64) :: S)))) : Go p e below K (T.setTop (mkF m pc L (.int y :: .long x :: S))) := by
  subst hp; exact k.of (fun _ q => XS.lshr X.X.here X.hx rfl (X.d hd) rfl q)
theorem g_lushr (X : St Z n0 p l e R s m args below meth c own nm bytes ml ret T locs cells slots h) {x : Int64} {y : Int32} (hd : decode bytes pc = .ok (.lushr, 1)) (hp : pc + 1 = pc') (k : Go p e below K (T.setTop (mkF m pc' L (.long ((x.toUInt64 >>> (y &&& 0x3f).toInt64.toUInt64).toInt64) :: S)))) : Go p e below K (T.setTop (mkF m pc L (.int y :: .long x :: S))) := by
  subst hp; exact k.of (fun _ q => XS.lushr X.X.here X.hx rfl (X.d hd) rfl q)
theorem g_i2b (X : St Z n0 p l e R s m args below meth c own nm bytes ml ret T locs cells slots h) {v : Int32} (hd : decode bytes pc = .ok (.i2b, 1)) (hp : pc + 1 = pc') (k : Go p e below K (T.setTop (mkF m pc' L (.int (v.toInt8.toInt32) :: S)))) : Go p e below K (T.setTop (mkF m pc L (.int v :: S))) := by
  subst hp; exact k.of (fun _ q => XS.i2b X.X.here X.hx rfl (X.d hd) rfl q)
theorem g_i2c (X : St Z n0 p l e R s m args below meth c own nm bytes ml ret T locs cells slots h) {v : Int32} (hd : decode bytes pc = .ok (.i2c, 1)) (hp : pc + 1 = pc') (k : Go p e below K (T.setTop (mkF m pc' L (.int (v.toUInt32.toUInt16.toUInt32.toInt32) :: S)))) : Go p e below K (T.setTop (mkF m pc L (.int v :: S))) := by
  subst hp; exact k.of (fun _ q => XS.i2c X.X.here X.hx rfl (X.d hd) rfl q)
theorem g_i2s (X : St Z n0 p l e R s m args below meth c own nm bytes ml ret T locs cells slots h) {v : Int32} (hd : decode bytes pc = .ok (.i2s, 1)) (hp : pc + 1 = pc') (k : Go p e below K (T.setTop (mkF m pc' L (.int (v.toInt16.toInt32) :: S)))) : Go p e below K (T.setTop (mkF m pc L (.int v :: S))) := by
  subst hp; exact k.of (fun _ q => XS.i2s X.X.here X.hx rfl (X.d hd) rfl q)
theorem g_ineg (X : St Z n0 p l e R s m args below meth c own nm bytes ml ret T locs cells slots h) {v : Int32} (hd : decode bytes pc = .ok (.ineg, 1)) (hp : pc + 1 = pc') (k : Go p e below K (T.setTop (mkF m pc' L (.int (-v) :: S)))) : Go p e below K (T.setTop (mkF m pc L (.int v :: S))) := by
  subst hp; exact k.of (fun _ q => XS.ineg X.X.here X.hx rfl (X.d hd) rfl q)
theorem g_i2l (X : St Z n0 p l e R s m args below meth c own nm bytes ml ret T locs cells slots h) {v : Int32} (hd : decode bytes pc = .ok (.i2l, 1)) (hp : pc + 1 = pc') (k : Go p e below K (T.setTop (mkF m pc' L (.long (v.toInt64) :: S)))) : Go p e below K (T.setTop (mkF m pc L (.int v :: S))) := by
  subst hp; exact k.of (fun _ q => XS.i2l X.X.here X.hx rfl (X.d hd) rfl q)
theorem g_l2i (X : St Z n0 p l e R s m args below meth c own nm bytes ml ret T locs cells slots h) {v : Int64} (hd : decode bytes pc = .ok (.l2i, 1)) (hp : pc + 1 = pc') (k : Go p e below K (T.setTop (mkF m pc' L (.int (v.toInt32) :: S)))) : Go p e below K (T.setTop (mkF m pc L (.long v :: S))) := by
  subst hp; exact k.of (fun _ q => XS.l2i X.X.here X.hx rfl (X.d hd) rfl q)
theorem g_lneg (X : St Z n0 p l e R s m args below meth c own nm bytes ml ret T locs cells slots h) {v : Int64} (hd : decode bytes pc = .ok (.lneg, 1)) (hp : pc + 1 = pc') (k : Go p e below K (T.setTop (mkF m pc' L (.long (-v) :: S)))) : Go p e below K (T.setTop (mkF m pc L (.long v :: S))) := by
  subst hp; exact k.of (fun _ q => XS.lneg X.X.here X.hx rfl (X.d hd) rfl q)
theorem g_lcmp (X : St Z n0 p l e R s m args below meth c own nm bytes ml ret T locs cells slots h) {x y : Int64} (hd : decode bytes pc = .ok (.lcmp, 1)) (hp : pc + 1 = pc') (k : Go p e below K (T.setTop (mkF m pc' L (.int (lcmpW x y) :: S)))) : Go p e below K (T.setTop (mkF m pc L (.long y :: .long x :: S))) := by
  subst hp; exact k.of (fun _ q => XS.lcmp X.X.here X.hx rfl (X.d hd) rfl q)
theorem g_dup (X : St Z n0 p l e R s m args below meth c own nm bytes ml ret T locs cells slots h) {v : Value} (hd : decode bytes pc = .ok (.dup, 1)) (hp : pc + 1 = pc') (hc : v.category = 1) (k : Go p e below K (T.setTop (mkF m pc' L (v :: v :: S)))) : Go p e below K (T.setTop (mkF m pc L (v :: S))) := by
  subst hp; exact k.of (fun _ q => XS.dup X.X.here X.hx rfl (X.d hd) rfl hc q)
theorem g_pop (X : St Z n0 p l e R s m args below meth c own nm bytes ml ret T locs cells slots h) {v : Value} (hd : decode bytes pc = .ok (.pop, 1)) (hp : pc + 1 = pc') (hc : v.category = 1) (k : Go p e below K (T.setTop (mkF m pc' L S))) : Go p e below K (T.setTop (mkF m pc L (v :: S))) := by
  subst hp; exact k.of (fun _ q => XS.pop X.X.here X.hx rfl (X.d hd) rfl hc q)
theorem g_dup_x1 (X : St Z n0 p l e R s m args below meth c own nm bytes ml ret T locs cells slots h) {v w : Value} (hd : decode bytes pc = .ok (.dup_x1, 1)) (hp : pc + 1 = pc') (hc : v.category = 1) (hc2 : w.category = 1) (k : Go p e below K (T.setTop (mkF m pc' L (v :: w :: v :: S)))) : Go p e below K (T.setTop (mkF m pc L (v :: w :: S))) := by
  subst hp; exact k.of (fun _ q => XS.dupX1 X.X.here X.hx rfl (X.d hd) rfl hc hc2 q)
theorem g_goto (X : St Z n0 p l e R s m args below meth c own nm bytes ml ret T locs cells slots h) {o : Int} (hd : decode bytes pc = .ok (.goto o, 3)) (ho : (pc : Int) + o = (pt : Int)) (k : Go p e below K (T.setTop (mkF m pt L S))) : Go p e below K (T.setTop (mkF m pc L S)) :=
  k.of (fun _ q => XS.goto X.X.here X.hx rfl rfl (X.d hd) (ho ▸ Int.natCast_nonneg _) (by rw [ho]; rfl) q)
theorem g_icmp_eq_t (X : St Z n0 p l e R s m args below meth c own nm bytes ml ret T locs cells slots h) {x y : Int32} {o : Int} (hd : decode bytes pc = .ok (.if_icmp .eq o, 3)) (ho : (pc : Int) + o = (pt : Int)) (hc : x = y) (k : Go p e below K (T.setTop (mkF m pt L S))) : Go p e below K (T.setTop (mkF m pc L (.int y :: .int x :: S))) :=
  k.of (fun _ q => XS.icmpYes X.X.here X.hx rfl rfl (X.d hd) rfl ((teq hc).1) (ho ▸ Int.natCast_nonneg _) (by rw [ho]; rfl) q)
theorem g_icmp_eq_f (X : St Z n0 p l e R s m args below meth c own nm bytes ml ret T locs cells slots h) {x y : Int32} {o : Int} (hd : decode bytes pc = .ok (.if_icmp .eq o, 3)) (hp : pc + 3 = pc') (hc : ¬ x = y) (k : Go p e below K (T.setTop (mkF m pc' L S))) : Go p e below K (T.setTop (mkF m pc L (.int y :: .int x :: S))) := by
  subst hp; exact k.of (fun _ q => XS.icmpNo X.X.here X.hx rfl (X.d hd) rfl ((feq hc).1) q)
theorem g_icmp_eq (X : St Z n0 p l e R s m args below meth c own nm bytes ml ret T locs cells slots h) {x y : Int32} {o : Int} (hd : decode bytes pc = .ok (.if_icmp .eq o, 3)) (ho : (pc : Int) + o = (pt : Int)) (hp : pc + 3 = pc') (yes : x = y → Go p e below K (T.setTop (mkF m pt L S))) (no : ¬ x = y → Go p e below K (T.setTop (mkF m pc' L S))) : Go p e below K (T.setTop (mkF m pc L (.int y :: .int x :: S))) := by
  by_cases hc : x = y
  · exact g_icmp_eq_t X hd ho hc (yes hc)
  · exact g_icmp_eq_f X hd hp hc (no hc)
theorem g_if_eq_t (X : St Z n0 p l e R s m args below meth c own nm bytes ml ret T locs cells slots h) {x : Int32} {o : Int} (hd : decode bytes pc = .ok (.ifCond .eq o, 3)) (ho : (pc : Int) + o = (pt : Int)) (hc : x = 0) (k : Go p e below K (T.setTop (mkF m pt L S))) : Go p e below K (T.setTop (mkF m pc L (.int x :: S))) :=
  k.of (fun _ q => XS.ifYes X.X.here X.hx rfl rfl (X.d hd) rfl ((if0 _ _).trans ((teq hc).1)) (ho ▸ Int.natCast_nonneg _) (by rw [ho]; rfl) q)
theorem g_if_eq_f (X : St Z n0 p l e R s m args below meth c own nm bytes ml ret T locs cells slots h) {x : Int32} {o : Int} (hd : decode bytes pc = .ok (.ifCond .eq o, 3)) (hp : pc + 3 = pc') (hc : ¬ x = 0) (k : Go p e below K (T.setTop (mkF m pc' L S))) : Go p e below K (T.setTop (mkF m pc L (.int x :: S))) := by
  subst hp; exact k.of (fun _ q => XS.ifNo X.X.here X.hx rfl (X.d hd) rfl ((if0 _ _).trans ((feq hc).1)) q)
theorem g_if_eq (X : St Z n0 p l e R s m args below meth c own nm bytes ml ret T locs cells slots h) {x : Int32} {o : Int} (hd : decode bytes pc = .ok (.ifCond .eq o, 3)) (ho : (pc : Int) + o = (pt : Int)) (hp : pc + 3 = pc') (yes : x = 0 → Go p e below K (T.setTop (mkF m pt L S))) (no : ¬ x = 0 → Go p e below K (T.setTop (mkF m pc' L S))) : Go p e below K (T.setTop (mkF m pc L (.int x :: S))) := by
  by_cases hc : x = 0
  · exact g_if_eq_t X hd ho hc (yes hc)
  · exact g_if_eq_f X hd hp hc (no hc)
theorem g_icmp_ne_t (X : St Z n0 p l e R s m args below meth c own nm bytes ml ret T locs cells slots h) {x y : Int32} {o : Int} (hd : decode bytes pc = .ok (.if_icmp .ne o, 3)) (ho : (pc : Int) + o = (pt : Int)) (hc : ¬ x = y) (k : Go p e below K (T.setTop (mkF m pt L S))) : Go p e below K (T.setTop (mkF m pc L (.int y :: .int x :: S))) :=
  k.of (fun _ q => XS.icmpYes X.X.here X.hx rfl rfl (X.d hd) rfl ((feq hc).2) (ho ▸ Int.natCast_nonneg _) (by rw [ho]; rfl) q)
theorem g_icmp_ne_f (X : St Z n0 p l e R s m args below meth c own nm bytes ml ret T locs cells slots h) {x y : Int32} {o : Int} (hd : decode bytes pc = .ok (.if_icmp .ne o, 3)) (hp : pc + 3 = pc') (hc : x = y) (k : Go p e below K (T.setTop (mkF m pc' L S))) : Go p e below K (T.setTop (mkF m pc L (.int y :: .int x :: S))) := by
  subst hp; exact k.of (fun _ q => XS.icmpNo X.X.here X.hx rfl (X.d hd) rfl ((teq hc).2) q)
theorem g_icmp_ne (X : St Z n0 p l e R s m args below meth c own nm bytes ml ret T locs cells slots h) {x y : Int32} {o : Int} (hd : decode bytes pc = .ok (.if_icmp .ne o, 3)) (ho : (pc : Int) + o = (pt : Int)) (hp : pc + 3 = pc') (yes : ¬ x = y → Go p e below K (T.setTop (mkF m pt L S))) (no : x = y → Go p e below K (T.setTop (mkF m pc' L S))) : Go p e below K (T.setTop (mkF m pc L (.int y :: .int x :: S))) := by
  by_cases hc : x = y
  · exact g_icmp_ne_f X hd hp hc (no hc)
  · exact g_icmp_ne_t X hd ho hc (yes hc)
theorem g_if_ne_t (X : St Z n0 p l e R s m args below meth c own nm bytes ml ret T locs cells slots h) {x : Int32} {o : Int} (hd : decode bytes pc = .ok (.ifCond .ne o, 3)) (ho : (pc : Int) + o = (pt : Int)) (hc : ¬ x = 0) (k : Go p e below K (T.setTop (mkF m pt L S))) : Go p e below K (T.setTop (mkF m pc L (.int x :: S))) :=
  k.of (fun _ q => XS.ifYes X.X.here X.hx rfl rfl (X.d hd) rfl ((if0 _ _).trans ((feq hc).2)) (ho ▸ Int.natCast_nonneg _) (by rw [ho]; rfl) q)
theorem g_if_ne_f (X : St Z n0 p l e R s m args below meth c own nm bytes ml ret T locs cells slots h) {x : Int32} {o : Int} (hd : decode bytes pc = .ok (.ifCond .ne o, 3)) (hp : pc + 3 = pc') (hc : x = 0) (k : Go p e below K (T.setTop (mkF m pc' L S))) : Go p e below K (T.setTop (mkF m pc L (.int x :: S))) := by
  subst hp; exact k.of (fun _ q => XS.ifNo X.X.here X.hx rfl (X.d hd) rfl ((if0 _ _).trans ((teq hc).2)) q)
theorem g_if_ne (X : St Z n0 p l e R s m args below meth c own nm bytes ml ret T locs cells slots h) {x : Int32} {o : Int} (hd : decode bytes pc = .ok (.ifCond .ne o, 3)) (ho : (pc : Int) + o = (pt : Int)) (hp : pc + 3 = pc') (yes : ¬ x = 0 → Go p e below K (T.setTop (mkF m pt L S))) (no : x = 0 → Go p e below K (T.setTop (mkF m pc' L S))) : Go p e below K (T.setTop (mkF m pc L (.int x :: S))) := by
  by_cases hc : x = 0
  · exact g_if_ne_f X hd hp hc (no hc)
  · exact g_if_ne_t X hd ho hc (yes hc)
theorem g_icmp_lt_t (X : St Z n0 p l e R s m args below meth c own nm bytes ml ret T locs cells slots h) {x y : Int32} {o : Int} (hd : decode bytes pc = .ok (.if_icmp .lt o, 3)) (ho : (pc : Int) + o = (pt : Int)) (hc : x < y) (k : Go p e below K (T.setTop (mkF m pt L S))) : Go p e below K (T.setTop (mkF m pc L (.int y :: .int x :: S))) :=
  k.of (fun _ q => XS.icmpYes X.X.here X.hx rfl rfl (X.d hd) rfl ((tlt hc).1) (ho ▸ Int.natCast_nonneg _) (by rw [ho]; rfl) q)
theorem g_icmp_lt_f (X : St Z n0 p l e R s m args below meth c own nm bytes ml ret T locs cells slots h) {x y : Int32} {o : Int} (hd : decode bytes pc = .ok (.if_icmp .lt o, 3)) (hp : pc + 3 = pc') (hc : ¬ x < y) (k : Go p e below K (T.setTop (mkF m pc' L S))) : Go p e below K (T.setTop (mkF m pc L (.int y :: .int x :: S))) := by
  subst hp; exact k.of (fun _ q => XS.icmpNo X.X.here X.hx rfl (X.d hd) rfl ((flt hc).1) q)
theorem g_icmp_lt (X : St Z n0 p l e R s m args below meth c own nm bytes ml ret T locs cells slots h) {x y : Int32} {o : Int} (hd : decode bytes pc = .ok (.if_icmp .lt o, 3)) (ho : (pc : Int) + o = (pt : Int)) (hp : pc + 3 = pc') (yes : x < y → Go p e below K (T.setTop (mkF m pt L S))) (no : ¬ x < y → Go p e below K (T.setTop (mkF m pc' L S))) : Go p e below K (T.setTop (mkF m pc L (.int y :: .int x :: S))) := by
  by_cases hc : x < y
  · exact g_icmp_lt_t X hd ho hc (yes hc)
  · exact g_icmp_lt_f X hd hp hc (no hc)
theorem g_if_lt_t (X : St Z n0 p l e R s m args below meth c own nm bytes ml ret T locs cells slots h) {x : Int32} {o : Int} (hd : decode bytes pc = .ok (.ifCond .lt o, 3)) (ho : (pc : Int) + o = (pt : Int)) (hc : x < 0) (k : Go p e below K (T.setTop (mkF m pt L S))) : Go p e below K (T.setTop (mkF m pc L (.int x :: S))) :=
  k.of (fun _ q => XS.ifYes X.X.here X.hx rfl rfl (X.d hd) rfl ((if0 _ _).trans ((tlt hc).1)) (ho ▸ Int.natCast_nonneg _) (by rw [ho]; rfl) q)
theorem g_if_lt_f (X : St Z n0 p l e R s m args below meth c own nm bytes ml ret T locs cells slots h) {x : Int32} {o : Int} (hd : decode bytes pc = .ok (.ifCond .lt o, 3)) (hp : pc + 3 = pc') (hc : ¬ x < 0) (k : Go p e below K (T.setTop (mkF m pc' L S))) : Go p e below K (T.setTop (mkF m pc L (.int x :: S))) := by
  subst hp; exact k.of (fun _ q => XS.ifNo X.X.here X.hx rfl (X.d hd) rfl ((if0 _ _).trans ((flt hc).1)) q)
theorem g_if_lt (X : St Z n0 p l e R s m args below meth c own nm bytes ml ret T locs cells slots h) {x : Int32} {o : Int} (hd : decode bytes pc = .ok (.ifCond .lt o, 3)) (ho : (pc : Int) + o = (pt : Int)) (hp : pc + 3 = pc') (yes : x < 0 → Go p e below K (T.setTop (mkF m pt L S))) (no : ¬ x < 0 → Go p e below K (T.setTop (mkF m pc' L S))) : Go p e below K (T.setTop (mkF m pc L (.int x :: S))) := by
  by_cases hc : x < 0
  · exact g_if_lt_t X hd ho hc (yes hc)
  · exact g_if_lt_f X hd hp hc (no hc)
theorem g_icmp_ge_t (X : St Z n0 p l e R s m args below meth c own nm bytes ml ret T locs cells slots h) {x y : Int32} {o : Int} (hd : decode bytes pc = .ok (.if_icmp .ge o, 3)) (ho : (pc : Int) + o = (pt : Int)) (hc : ¬ x < y) (k : Go p e below K (T.setTop (mkF m pt L S))) : Go p e below K (T.setTop (mkF m pc L (.int y :: .int x :: S))) :=
  k.of (fun _ q => XS.icmpYes X.X.here X.hx rfl rfl (X.d hd) rfl ((flt hc).2.1) (ho ▸ Int.natCast_nonneg _) (by rw [ho]; rfl) q)
theorem g_icmp_ge_f (X : St Z n0 p l e R s m args below meth c own nm bytes ml ret T locs cells slots h) {x y : Int32} {o : Int} (hd : decode bytes pc = .ok (.if_icmp .ge o, 3)) (hp : pc + 3 = pc') (hc : x < y) (k : Go p e below K (T.setTop (mkF m pc' L S))) : Go p e below K (T.setTop (mkF m pc L (.int y :: .int x :: S))) := by
  subst hp; exact k.of (fun _ q => XS.icmpNo X.X.here X.hx rfl (X.d hd) rfl ((tlt hc).2.1) q)
theorem g_icmp_ge (X : St Z n0 p l e R s m args below meth c own nm bytes ml ret T locs cells slots h) {x y : Int32} {o : Int} (hd : decode bytes pc = .ok (.if_icmp .ge o, 3)) (ho : (pc : Int) + o = (pt : Int)) (hp : pc + 3 = pc') (yes : ¬ x < y → Go p e below K (T.setTop (mkF m pt L S))) (no : x < y → Go p e below K (T.setTop (mkF m pc' L S))) : Go p e below K (T.setTop (mkF m pc L (.int y :: .int x :: S))) := by
  by_cases hc : x < y
  · exact g_icmp_ge_f X hd hp hc (no hc)
  · exact g_icmp_ge_t X hd ho hc (yes hc)
theorem g_if_ge_t (X : St Z n0 p l e R s m args below meth c own nm bytes ml ret T locs cells slots h) {x : Int32} {o : Int} (hd : decode bytes pc = .ok (.ifCond .ge o, 3)) (ho : (pc : Int) + o = (pt : Int)) (hc : ¬ x < 0) (k : Go p e below K (T.setTop (mkF m pt L S))) : Go p e below K (T.setTop (mkF m pc L (.int x :: S))) :=
  k.of (fun _ q => XS.ifYes X.X.here X.hx rfl rfl (X.d hd) rfl ((if0 _ _).trans ((flt hc).2.1)) (ho ▸ Int.natCast_nonneg _) (by rw [ho]; rfl) q)
theorem g_if_ge_f (X : St Z n0 p l e R s m args below meth c own nm bytes ml ret T locs cells slots h) {x : Int32} {o : Int} (hd : decode bytes pc = .ok (.ifCond .ge o, 3)) (hp : pc + 3 = pc') (hc : x < 0) (k : Go p e below K (T.setTop (mkF m pc' L S))) : Go p e below K (T.setTop (mkF m pc L (.int x :: S))) := by
  subst hp; exact k.of (fun _ q => XS.ifNo X.X.here X.hx rfl (X.d hd) rfl ((if0 _ _).trans ((tlt hc).2.1)) q)
theorem g_if_ge (X : St Z n0 p l e R s m args below meth c own nm bytes ml ret T locs cells slots h) {x : Int32} {o : Int} (hd : decode bytes pc = .ok (.ifCond .ge o, 3)) (ho : (pc : Int) + o = (pt : Int)) (hp : pc + 3 = pc') (yes : ¬ x < 0 → Go p e below K (T.setTop (mkF m pt L S))) (no : x < 0 → Go p e below K (T.setTop (mkF m pc' L S))) : Go p e below K (T.setTop (mkF m pc L (.int x :: S))) := by
  by_cases hc : x < 0
  · exact g_if_ge_f X hd hp hc (no hc)
  · exact g_if_ge_t X hd ho hc (yes hc)
theorem g_icmp_gt_t (X : St Z n0 p l e R s m args below meth c own nm bytes ml ret T locs cells slots h) {x y : Int32} {o : Int} (hd : decode bytes pc = .ok (.if_icmp .gt o, 3)) (ho : (pc : Int) + o = (pt : Int)) (hc : y < x) (k : Go p e below K (T.setTop (mkF m pt L S))) : Go p e below K (T.setTop (mkF m pc L (.int y :: .int x :: S))) :=
  k.of (fun _ q => XS.icmpYes X.X.here X.hx rfl rfl (X.d hd) rfl ((tlt hc).2.2.1) (ho ▸ Int.natCast_nonneg _) (by rw [ho]; rfl) q)
theorem g_icmp_gt_f (X : St Z n0 p l e R s m args below meth c own nm bytes ml ret T locs cells slots h) {x y : Int32} {o : Int} (hd : decode bytes pc = .ok (.if_icmp .gt o, 3)) (hp : pc + 3 = pc') (hc : ¬ y < x) (k : Go p e below K (T.setTop (mkF m pc' L S))) : Go p e below K (T.setTop (mkF m pc L (.int y :: .int x :: S))) := by
  subst hp; exact k.of (fun _ q => XS.icmpNo X.X.here X.hx rfl (X.d hd) rfl ((flt hc).2.2.1) q)
theorem g_icmp_gt (X : St Z n0 p l e R s m args below meth c own nm bytes ml ret T locs cells slots h) {x y : Int32} {o : Int} (hd : decode bytes pc = .ok (.if_icmp .gt o, 3)) (ho : (pc : Int) + o = (pt : Int)) (hp : pc + 3 = pc') (yes : y < x → Go p e below K (T.setTop (mkF m pt L S))) (no : ¬ y < x → Go p e below K (T.setTop (mkF m pc' L S))) : Go p e below K (T.setTop (mkF m pc L (.int y :: .int x :: S))) := by
  by_cases hc : y < x
  · exact g_icmp_gt_t X hd ho hc (yes hc)
  · exact g_icmp_gt_f X hd hp hc (no hc)
theorem g_if_gt_t (X : St Z n0 p l e R s m args below meth c own nm bytes ml ret T locs cells slots h) {x : Int32} {o : Int} (hd : decode bytes pc = .ok (.ifCond .gt o, 3)) (ho : (pc : Int) + o = (pt : Int)) (hc : 0 < x) (k : Go p e below K (T.setTop (mkF m pt L S))) : Go p e below K (T.setTop (mkF m pc L (.int x :: S))) :=
  k.of (fun _ q => XS.ifYes X.X.here X.hx rfl rfl (X.d hd) rfl ((if0 _ _).trans ((tlt hc).2.2.1)) (ho ▸ Int.natCast_nonneg _) (by rw [ho]; rfl) q)
theorem g_if_gt_f (X : St Z n0 p l e R s m args below meth c own nm bytes ml ret T locs cells slots h) {x : Int32} {o : Int} (hd : decode bytes pc = .ok (.ifCond .gt o, 3)) (hp : pc + 3 = pc') (hc : ¬ 0 < x) (k : Go p e below K (T.setTop (mkF m pc' L S))) : Go p e below K (T.setTop (mkF m pc L (.int x :: S))) := by
  subst hp; exact k.of (fun _ q => XS.ifNo X.X.here X.hx rfl (X.d hd) rfl ((if0 _ _).trans ((flt hc).2.2.1)) q)
theorem g_if_gt (X : St Z n0 p l e R s m args below meth c own nm bytes ml ret T locs cells slots h) {x : Int32} {o : Int} (hd : decode bytes pc = .ok (.ifCond .gt o, 3)) (ho : (pc : Int) + o = (pt : Int)) (hp : pc + 3 = pc') (yes : 0 < x → Go p e below K (T.setTop (mkF m pt L S))) (no : ¬ 0 < x → Go p e below K (T.setTop (mkF m pc' L S))) : Go p e below K (T.setTop (mkF m pc L (.int x :: S))) := by
  by_cases hc : 0 < x
  · exact g_if_gt_t X hd ho hc (yes hc)
  · exact g_if_gt_f X hd hp hc (no hc)
theorem g_icmp_le_t (X : St Z n0 p l e R s m args below meth c own nm bytes ml ret T locs cells slots h) {x y : Int32} {o : Int} (hd : decode bytes pc = .ok (.if_icmp .le o, 3)) (ho : (pc : Int) + o = (pt : Int)) (hc : ¬ y < x) (k : Go p e below K (T.setTop (mkF m pt L S))) : Go p e below K (T.setTop (mkF m pc L (.int y :: .int x :: S))) :=
  k.of (fun _ q => XS.icmpYes X.X.here X.hx rfl rfl (X.d hd) rfl ((flt hc).2.2.2) (ho ▸ Int.natCast_nonneg _) (by rw [ho]; rfl) q)
theorem g_icmp_le_f (X : St Z n0 p l e R s m args below meth c own nm bytes ml ret T locs cells slots h) {x y : Int32} {o : Int} (hd : decode bytes pc = .ok (.if_icmp .le o, 3)) (hp : pc + 3 = pc') (hc : y < x) (k : Go p e below K (T.setTop (mkF m pc' L S))) : Go p e below K (T.setTop (mkF m pc L (.int y :: .int x :: S))) := by
  subst hp; exact k.of (fun _ q => XS.icmpNo X.X.here X.hx rfl (X.d hd) rfl ((tlt hc).2.2.2) q)
theorem g_icmp_le (X : St Z n0 p l e R s m args below meth c own nm bytes ml ret T locs cells slots h) {x y : Int32} {o : Int} (hd : decode bytes pc = .ok (.if_icmp .le o, 3)) (ho : (pc : Int) + o = (pt : Int)) (hp : pc + 3 = pc') (yes : ¬ y < x → Go p e below K (T.setTop (mkF m pt L S))) (no : y < x → Go p e below K (T.setTop (mkF m pc' L S))) : Go p e below K (T.setTop (mkF m pc L (.int y :: .int x :: S))) := by
  by_cases hc : y < x
  · exact g_icmp_le_f X hd hp hc (no hc)
  · exact g_icmp_le_t X hd ho hc (yes hc)
theorem g_if_le_t (X : St Z n0 p l e R s m args below meth c own nm bytes ml ret T locs cells slots h) {x : Int32} {o : Int} (hd : decode bytes pc = .ok (.ifCond .le o, 3)) (ho : (pc : Int) + o = (pt : Int)) (hc : ¬ 0 < x) (k : Go p e below K (T.setTop (mkF m pt L S))) : Go p e below K (T.setTop (mkF m pc L (.int x :: S))) :=
  k.of (fun _ q => XS.ifYes X.X.here X.hx rfl rfl (X.d hd) rfl ((if0 _ _).trans ((flt hc).2.2.2)) (ho ▸ Int.natCast_nonneg _) (by rw [ho]; rfl) q)
theorem g_if_le_f (X : St Z n0 p l e R s m args below meth c own nm bytes ml ret T locs cells slots h) {x : Int32} {o : Int} (hd : decode bytes pc = .ok (.ifCond .le o, 3)) (hp : pc + 3 = pc') (hc : 0 < x) (k : Go p e below K (T.setTop (mkF m pc' L S))) : Go p e below K (T.setTop (mkF m pc L (.int x :: S))) := by
  subst hp; exact k.of (fun _ q => XS.ifNo X.X.here X.hx rfl (X.d hd) rfl ((if0 _ _).trans ((tlt hc).2.2.2)) q)
theorem g_if_le (X : St Z n0 p l e R s m args below meth c own nm bytes ml ret T locs cells slots h) {x : Int32} {o : Int} (hd : decode bytes pc = .ok (.ifCond .le o, 3)) (ho : (pc : Int) + o = (pt : Int)) (hp : pc + 3 = pc') (yes : ¬ 0 < x → Go p e below K (T.setTop (mkF m pt L S))) (no : 0 < x → Go p e below K (T.setTop (mkF m pc' L S))) : Go p e below K (T.setTop (mkF m pc L (.int x :: S))) := by
  by_cases hc : 0 < x
  · exact g_if_le_f X hd hp hc (no hc)
  · exact g_if_le_t X hd ho hc (yes hc)
theorem g_lcmp_eq (X : St Z n0 p l e R s m args below meth c own nm bytes ml ret T locs cells slots h) {x y : Int64} {o : Int} (hd : decode bytes pc = .ok (.lcmp, 1)) (hd' : decode bytes (pc + 1) = .ok (.ifCond .eq o, 3)) (ho : ((pc + 1 : Nat) : Int) + o = (pt : Int)) (hp : pc + 1 + 3 = pc') (yes : x = y → Go p e below K (T.setTop (mkF m pt L S))) (no : ¬ x = y → Go p e below K (T.setTop (mkF m pc' L S))) : Go p e below K (T.setTop (mkF m pc L (.long y :: .long x :: S))) := by
  refine g_lcmp X hd rfl ?_
  refine g_if_eq X hd' ho hp (fun q => yes ?_) (fun q => no ?_)
  · rwa [lw_eq] at q
  · rwa [lw_eq] at q
theorem g_lcmp_ne (X : St Z n0 p l e R s m args below meth c own nm bytes ml ret T locs cells slots h) {x y : Int64} {o : Int} (hd : decode bytes pc = .ok (.lcmp, 1)) (hd' : decode bytes (pc + 1) = .ok (.ifCond .ne o, 3)) (ho : ((pc + 1 : Nat) : Int) + o = (pt : Int)) (hp : pc + 1 + 3 = pc') (yes : ¬ x = y → Go p e below K (T.setTop (mkF m pt L S))) (no : x = y → Go p e below K (T.setTop (mkF m pc' L S))) : Go p e below K (T.setTop (mkF m pc L (.long y :: .long x :: S))) := by
  refine g_lcmp X hd rfl ?_
  refine g_if_ne X hd' ho hp (fun q => yes ?_) (fun q => no ?_)
  · rwa [lw_eq] at q
  · rwa [lw_eq] at q
theorem g_lcmp_lt (X : St Z n0 p l e R s m args below meth c own nm bytes ml ret T locs cells slots h) {x y : Int64} {o : Int} (hd : decode bytes pc = .ok (.lcmp, 1)) (hd' : decode bytes (pc + 1) = .ok (.ifCond .lt o, 3)) (ho : ((pc + 1 : Nat) : Int) + o = (pt : Int)) (hp : pc + 1 + 3 = pc') (yes : x < y → Go p e below K (T.setTop (mkF m pt L S))) (no : ¬ x < y → Go p e below K (T.setTop (mkF m pc' L S))) : Go p e below K (T.setTop (mkF m pc L (.long y :: .long x :: S))) := by
  refine g_lcmp X hd rfl ?_
  refine g_if_lt X hd' ho hp (fun q => yes ?_) (fun q => no ?_)
  · rwa [lw_lt] at q
  · rwa [lw_lt] at q
theorem g_lcmp_ge (X : St Z n0 p l e R s m args below meth c own nm bytes ml ret T locs cells slots h) {x y : Int64} {o : Int} (hd : decode bytes pc = .ok (.lcmp, 1)) (hd' : decode bytes (pc + 1) = .ok (.ifCond .ge o, 3)) (ho : ((pc + 1 : Nat) : Int) + o = (pt : Int)) (hp : pc + 1 + 3 = pc') (yes : ¬ x < y → Go p e below K (T.setTop (mkF m pt L S))) (no : x < y → Go p e below K (T.setTop (mkF m pc' L S))) : Go p e below K (T.setTop (mkF m pc L (.long y :: .long x :: S))) := by
  refine g_lcmp X hd rfl ?_
  refine g_if_ge X hd' ho hp (fun q => yes ?_) (fun q => no ?_)
  · rwa [lw_lt] at q
  · rwa [lw_lt] at q
theorem g_lcmp_gt (X : St Z n0 p l e R s m args below meth c own nm bytes ml ret T locs cells slots h) {x y : Int64} {o : Int} (hd : decode bytes pc = .ok (.lcmp, 1)) (hd' : decode bytes (pc + 1) = .ok (.ifCond .gt o, 3)) (ho : ((pc + 1 : Nat) : Int) + o = (pt : Int)) (hp : pc + 1 + 3 = pc') (yes : y < x → Go p e below K (T.setTop (mkF m pt L S))) (no : ¬ y < x → Go p e below K (T.setTop (mkF m pc' L S))) : Go p e below K (T.setTop (mkF m pc L (.long y :: .long x :: S))) := by
  refine g_lcmp X hd rfl ?_
  refine g_if_gt X hd' ho hp (fun q => yes ?_) (fun q => no ?_)
  · rwa [lw_gt] at q
  · rwa [lw_gt] at q
theorem g_lcmp_le (X : St Z n0 p l e R s m args below meth c own nm bytes ml ret T locs cells slots h) {x y : Int64} {o : Int} (hd : decode bytes pc = .ok (.lcmp, 1)) (hd' : decode bytes (pc + 1) = .ok (.ifCond .le o, 3)) (ho : ((pc + 1 : Nat) : Int) + o = (pt : Int)) (hp : pc + 1 + 3 = pc') (yes : ¬ y < x → Go p e below K (T.setTop (mkF m pt L S))) (no : y < x → Go p e below K (T.setTop (mkF m pc' L S))) : Go p e below K (T.setTop (mkF m pc L (.long y :: .long x :: S))) := by
  refine g_lcmp X hd rfl ?_
  refine g_if_le X hd' ho hp (fun q => yes ?_) (fun q => no ?_)
  · rwa [lw_gt] at q
  · rwa [lw_gt] at q
theorem g_ifnull_t (X : St Z n0 p l e R s m args below meth c own nm bytes ml ret T locs cells slots h) {o : Int} (hd : decode bytes pc = .ok (.ifnull o, 3)) (ho : (pc : Int) + o = (pt : Int)) (k : Go p e below K (T.setTop (mkF m pt L S))) : Go p e below K (T.setTop (mkF m pc L (.null :: S))) :=
  k.of (fun _ q => XS.ifnullYes X.X.here X.hx rfl rfl (X.d hd) rfl (ho ▸ Int.natCast_nonneg _) (by rw [ho]; rfl) q)
theorem g_ifnull_f (X : St Z n0 p l e R s m args below meth c own nm bytes ml ret T locs cells slots h) {o : Int} {a : Addr} (hd : decode bytes pc = .ok (.ifnull o, 3)) (hp : pc + 3 = pc') (k : Go p e below K (T.setTop (mkF m pc' L S))) : Go p e below K (T.setTop (mkF m pc L (.ref a :: S))) := by
  subst hp; exact k.of (fun _ q => XS.ifnullNo X.X.here X.hx rfl (X.d hd) rfl q)
theorem g_ifnonnull_t (X : St Z n0 p l e R s m args below meth c own nm bytes ml ret T locs cells slots h) {o : Int} {a : Addr} (hd : decode bytes pc = .ok (.ifnonnull o, 3)) (ho : (pc : Int) + o = (pt : Int)) (k : Go p e below K (T.setTop (mkF m pt L S))) : Go p e below K (T.setTop (mkF m pc L (.ref a :: S))) :=
  k.of (fun _ q => XS.ifnonnullYes X.X.here X.hx rfl rfl (X.d hd) rfl (ho ▸ Int.natCast_nonneg _) (by rw [ho]; rfl) q)
theorem g_ifnonnull_f (X : St Z n0 p l e R s m args below meth c own nm bytes ml ret T locs cells slots h) {o : Int} (hd : decode bytes pc = .ok (.ifnonnull o, 3)) (hp : pc + 3 = pc') (k : Go p e below K (T.setTop (mkF m pc' L S))) : Go p e below K (T.setTop (mkF m pc L (.null :: S))) := by
  subst hp; exact k.of (fun _ q => XS.ifnonnullNo X.X.here X.hx rfl (X.d hd) rfl q)
theorem g_acmp (X : St Z n0 p l e R s m args below meth c own nm bytes ml ret T locs cells slots h) {cd : ACond} {x y : Value} {o : Int} {same : Bool} (h1 : x.isRef = true) (h2 : y.isRef = true) (hd : decode bytes pc = .ok (.if_acmp cd o, 3)) (ho : (pc : Int) + o = (pt : Int)) (hq : decide (x = y) = same) (hp : pc' = if acV cd same = true then pt else pc + 3) (k : Go p e below K (T.setTop (mkF m pc' L S))) : Go p e below K (T.setTop (mkF m pc L (y :: x :: S))) :=
  k.of (fun _ q => Jvm.RoadKit.acmp X.X X.hx rfl h1 h2 rfl (X.d hd) rfl hq (ho ▸ Int.natCast_nonneg _) (by rw [hp, ho]; rfl) q)
theorem g_acmp_eq (X : St Z n0 p l e R s m args below meth c own nm bytes ml ret T locs cells slots h) {a b : Addr} {o : Int} (hd : decode bytes pc = .ok (.if_acmp .eq o, 3)) (ho : (pc : Int) + o = (pt : Int)) (hp : pc + 3 = pc') (yes : a = b → Go p e below K (T.setTop (mkF m pt L S))) (no : ¬ a = b → Go p e below K (T.setTop (mkF m pc' L S))) : Go p e below K (T.setTop (mkF m pc L (.ref b :: .ref a :: S))) := by
  subst hp
  by_cases hc : a = b
  · exact g_acmp X (same := true) rfl rfl hd ho (decide_eq_true (congrArg Value.ref hc)) rfl (yes hc)
  · exact g_acmp X (same := false) rfl rfl hd ho (decide_eq_false fun q => hc (Value.ref.inj q)) rfl (no hc)
theorem g_acmp_ne (X : St Z n0 p l e R s m args below meth c own nm bytes ml ret T locs cells slots h) {a b : Addr} {o : Int} (hd : decode bytes pc = .ok (.if_acmp .ne o, 3)) (ho : (pc : Int) + o = (pt : Int)) (hp : pc + 3 = pc') (yes : ¬ a = b → Go p e below K (T.setTop (mkF m pt L S))) (no : a = b → Go p e below K (T.setTop (mkF m pc' L S))) : Go p e below K (T.setTop (mkF m pc L (.ref b :: .ref a :: S))) := by
  subst hp
  by_cases hc : a = b
  · exact g_acmp X (same := true) rfl rfl hd ho (decide_eq_true (congrArg Value.ref hc)) rfl (no hc)
  · exact g_acmp X (same := false) rfl rfl hd ho (decide_eq_false fun q => hc (Value.ref.inj q)) rfl (yes hc)
theorem g_ldc (X : St Z n0 p l e R s m args below meth c own nm bytes ml ret T locs cells slots h) {i : Nat} {v : Int32} (w : (Jvm.Cond.constant own i v).before a0 Z = true) (hd : decode bytes pc = .ok (.ldc i, 2)) (hp : pc + 2 = pc') (k : Go p e below K (T.setTop (mkF m pc' L (.int v :: S)))) : Go p e below K (T.setTop (mkF m pc L S)) := by
  subst hp; exact k.of (X.X.ldcInt X.hx X.own_ (mvT X.hZ w) (g := mkF m pc L S) rfl (X.d hd))
theorem g_ldc2 (X : St Z n0 p l e R s m args below meth c own nm bytes ml ret T locs cells slots h) {i : Nat} {v : Int64} (w : (Jvm.Cond.constantLong own i v).before a0 Z = true) (hd : decode bytes pc = .ok (.ldc2_w i, 3)) (hp : pc + 3 = pc') (k : Go p e below K (T.setTop (mkF m pc' L (.long v :: S)))) : Go p e below K (T.setTop (mkF m pc L S)) := by
  subst hp; exact k.of (X.X.ldc2Long X.hx X.own_ (mvT X.hZ w) (g := mkF m pc L S) rfl (X.d hd))
theorem g_getF (X : St Z n0 p l e R s m args below meth c own nm bytes ml ret T locs cells slots h) {R0 O n d host : String} {i : Nat} {a : Addr} {v : Value} (w : (Jvm.Cond.fieldLink own i R0 n d).before a0 Z = true ∨ (Jvm.Cond.fieldLinkNest own i R0 n d host).before a0 Z = true) (via : Via Z R0 O n d) (F : Fld Z h a O n d v) (hd : decode bytes pc = .ok (.getfield i, 3)) (hp : pc + 3 = pc') (k : ∀ T', St Z n0 p l e R s m args below meth c own nm bytes ml ret T' locs cells slots h → Go p e below K (T'.setTop (mkF m pc' L (v :: S)))) : Go p e below K (T.setTop (mkF m pc L (.ref a :: S))) := by
  obtain ⟨T', X', e', st'⟩ := getF X.X X.hx X.hZ X.own_ w via X.eT F (g := mkF m pc L (.ref a :: S)) rfl rfl (X.d hd)
  subst hp; exact (k T' (X.to X' e' X.fr X.old)).of st'
theorem g_getS (X : St Z n0 p l e R s m args below meth c own nm bytes ml ret T locs cells slots h) {O n d : String} {i : Nat} {v : Value} (w : (Jvm.Cond.fieldLink own i O n d).before a0 Z = true) (F : Sta Z h O n d v) (hd : decode bytes pc = .ok (.getstatic i, 3)) (hp : pc + 3 = pc') (k : ∀ T', St Z n0 p l e R s m args below meth c own nm bytes ml ret T' locs cells slots h → Go p e below K (T'.setTop (mkF m pc' L (v :: S)))) : Go p e below K (T.setTop (mkF m pc L S)) := by
  obtain ⟨T', X', e', st'⟩ := getS X.X X.hx X.hZ (host := "") X.own_ w Via.refl X.eT F (g := mkF m pc L S) rfl (X.d hd)
  subst hp; exact (k T' (X.to X' e' X.fr X.old)).of st'
theorem g_putF (X : St Z n0 p l e R s m args below meth c own nm bytes ml ret T locs cells slots h) {R0 O n d host C : String} {i kk : Nat} {ty : FieldType} {a : Addr} {v old : Value} (w : (Jvm.Cond.fieldLink own i R0 n d).before a0 Z = true ∨ (Jvm.Cond.fieldLinkNest own i R0 n d host).before a0 Z = true) (via : Via Z R0 O n d) (F : Fld Z h a O n d old) (E : Exa Z h a C)
    (La : (Jvm.Cond.lays C O n d).before a0 Z = true ∨ ((Jvm.Cond.laysFinal C O n d).before a0 Z = true ∧ own = O ∧ nm = "<init>")) (wi : (Jvm.Cond.instantiable C kk).before a0 Z = true) (hty : parseFieldDescriptor d = some ty) (hn : narrow ty v = v) (hf : fits ty v = true) (ga : n0 ≤ a) (hd : decode bytes pc = .ok (.putfield i, 3)) (hp : pc + 3 = pc') (k : ∀ T' h', St Z n0 p l e R s m args below meth c own nm bytes ml ret T' (locs ++ [⟨a, Jvm.RoadKit.slotOf Z O n d⟩]) cells slots h' → Wr h h' a (Jvm.RoadKit.slotOf Z O n d) v → Go p e below K (T'.setTop (mkF m pc' L S))) : Go p e below K (T.setTop (mkF m pc L (v :: .ref a :: S))) := by
  obtain ⟨T', h', X', e', W, st'⟩ := putF X.X X.hx X.hZ X.own_ w via X.eT F E (La.imp id fun q => ⟨q.1, q.2.1, X.nm_.trans q.2.2⟩) wi hty hn hf (g := mkF m pc L (v :: .ref a :: S)) rfl rfl (X.d hd)
  subst hp; exact (k T' h' (X.to X' e' (Fr.snoc X' X.fr ga) (X.old.wr W ga)) W).of st'
theorem g_putFN (X : St Z n0 p l e R s m args below meth c own nm bytes ml ret T locs cells slots h) {R0 O n d C : String} {i kk : Nat} {ty : FieldType} {a : Addr} {v v' old : Value} (w : (Jvm.Cond.fieldLink own i R0 n d).before a0 Z = true) (via : Via Z R0 O n d) (F : Fld Z h a O n d old) (E : Exa Z h a C)
    (La : (Jvm.Cond.lays C O n d).before a0 Z = true ∨ ((Jvm.Cond.laysFinal C O n d).before a0 Z = true ∧ own = O ∧ nm = "<init>")) (wi : (Jvm.Cond.instantiable C kk).before a0 Z = true) (hty : parseFieldDescriptor d = some ty) (hn : narrow ty v = v') (hf : fits ty v' = true) (ga : n0 ≤ a) (hd : decode bytes pc = .ok (.putfield i, 3)) (hp : pc + 3 = pc') (k : ∀ T' h', St Z n0 p l e R s m args below meth c own nm bytes ml ret T' (locs ++ [⟨a, Jvm.RoadKit.slotOf Z O n d⟩]) cells slots h' → Wr h h' a (Jvm.RoadKit.slotOf Z O n d) v' → Go p e below K (T'.setTop (mkF m pc' L S))) : Go p e below K (T.setTop (mkF m pc L (v :: .ref a :: S))) := by
  obtain ⟨T', h', X', e', W, st'⟩ := putFN X.X X.hx X.hZ X.own_ w via X.eT F E (La.imp id fun q => ⟨q.1, q.2.1, X.nm_.trans q.2.2⟩) wi hty hn hf (g := mkF m pc L (v :: .ref a :: S)) rfl rfl (X.d hd)
  subst hp; exact (k T' h' (X.to X' e' (Fr.snoc X' X.fr ga) (X.old.wr W ga)) W).of st'
theorem g_new (X : St Z n0 p l e R s m args below meth c own nm bytes ml ret T locs cells slots h) {C : String} {i n : Nat} (w : (Jvm.Cond.classLink own i C).before a0 Z = true) (wi : (Jvm.Cond.instantiable C n).before a0 Z = true) (wz : (Jvm.Cond.initialized C).before a0 Z = true) (hd : decode bytes pc = .ok (.new i, 3)) (hp : pc + 3 = pc') (hc : cells + 1 ≤ R.cells) (hl : slots + n ≤ R.slots)
    (k : ∀ T' h' a, St Z n0 p l e R s m args below meth c own nm bytes ml ret T' locs (cells + 1) (slots + n) h' → a = h.size → Ext h h' → Exa Z h' a C → (∀ {O nm d : String} {ty : FieldType}, Laid Z a0 C O nm d → parseFieldDescriptor d = some ty → Fld Z h' a O nm d (defaultValue ty)) → n0 ≤ a → Go p e below K (T'.setTop (mkF m pc' L (.ref a :: S)))) : Go p e below K (T.setTop (mkF m pc L S)) := by
  obtain ⟨T', h', X', e', E, A, D, -, st'⟩ := newO X.X X.hx X.hZ X.own_ w wi wz X.eT (g := mkF m pc L S) rfl (X.d hd) hc hl
  subst hp; exact (k T' h' _ (X.to X' e' X.fr (X.old.ext E)) rfl E A D X.sz).of st'
theorem g_initO (X : St Z n0 p l e R s m args below meth c own nm bytes ml ret T locs cells slots h) {i : Nat} {a : Addr} (w1 : (Jvm.Cond.methodLink own i Lib.objectInit).before a0 Z = true) (w2 : (Jvm.Cond.instanceMethod Lib.objectInit).before a0 Z = true) (w3 : (Jvm.Cond.code Lib.objectInit ⟨#[0xb1]⟩ 1 none).before a0 Z = true) (hL : L.size = ml) (hd : decode bytes pc = .ok (.invokespecial i, 3)) (hp : pc + 3 = pc') (hf : 1 ≤ R.frames) {W : Nat} (hW : (S.map fun v => v.category).sum = W) (hl : W + 12 ≤ R.locals) (k : ∀ T', St Z n0 p l e R s m args below meth c own nm bytes ml ret T' locs cells slots h → Go p e below K (T'.setTop (mkF m pc' L S))) : Go p e below K (T.setTop (mkF m pc L (.ref a :: S))) := by
  obtain ⟨T', X', e', st'⟩ := initO X.X X.hx X.hZ X.own_ w1 w2 w3 X.eT (g := mkF m pc L (.ref a :: S)) rfl (by rw [X.ml_]; exact hL) rfl (X.d hd) hf (W := W) (by show 2 * 0 + _ ≤ _; rw [hW, Nat.mul_zero, Nat.zero_add]; exact Nat.le_refl _) hl
  subst hp; exact (k T' (X.to X' e' X.fr X.old)).of st'
theorem g_castNull (X : St Z n0 p l e R s m args below meth c own nm bytes ml ret T locs cells slots h) {i : Nat} (hd : decode bytes pc = .ok (.checkcast i, 3)) (hp : pc + 3 = pc') (k : Go p e below K (T.setTop (mkF m pc' L (.null :: S)))) : Go p e below K (T.setTop (mkF m pc L (.null :: S))) := by
  subst hp; exact k.of (fun _ q => X.X.checkcastNull X.hx (g := mkF m pc L (.null :: S)) rfl rfl (X.d hd) _ q)
theorem g_instNull (X : St Z n0 p l e R s m args below meth c own nm bytes ml ret T locs cells slots h) {i : Nat} (hd : decode bytes pc = .ok (.instanceof i, 3)) (hp : pc + 3 = pc') (k : Go p e below K (T.setTop (mkF m pc' L (.int 0 :: S)))) : Go p e below K (T.setTop (mkF m pc L (.null :: S))) := by
  subst hp; exact k.of (fun _ q => X.X.instanceofNull X.hx (g := mkF m pc L (.null :: S)) rfl rfl (X.d hd) _ q)
theorem g_cast (X : St Z n0 p l e R s m args below meth c own nm bytes ml ret T locs cells slots h) {k0 : String} {i : Nat} {a : Addr} (w : (Jvm.Cond.classLink own i k0).before a0 Z = true) (F : Ins Z h a k0 true) (hd : decode bytes pc = .ok (.checkcast i, 3)) (hp : pc + 3 = pc') (k : ∀ T', St Z n0 p l e R s m args below meth c own nm bytes ml ret T' locs cells slots h → Go p e below K (T'.setTop (mkF m pc' L (.ref a :: S)))) : Go p e below K (T.setTop (mkF m pc L (.ref a :: S))) := by
  obtain ⟨T', X', e', st'⟩ := castY X.X X.hx X.hZ X.own_ w X.eT F (g := mkF m pc L (.ref a :: S)) rfl rfl (X.d hd)
  subst hp; exact (k T' (X.to X' e' X.fr X.old)).of st'
theorem g_inst (X : St Z n0 p l e R s m args below meth c own nm bytes ml ret T locs cells slots h) {k0 : String} {i : Nat} {a : Addr} (w : (Jvm.Cond.classLink own i k0).before a0 Z = true) (F : Ins Z h a k0 true) (hd : decode bytes pc = .ok (.instanceof i, 3)) (hp : pc + 3 = pc') (k : ∀ T', St Z n0 p l e R s m args below meth c own nm bytes ml ret T' locs cells slots h → Go p e below K (T'.setTop (mkF m pc' L (.int 1 :: S)))) : Go p e below K (T.setTop (mkF m pc L (.ref a :: S))) := by
  obtain ⟨T', X', e', st'⟩ := instY X.X X.hx X.hZ X.own_ w X.eT F (g := mkF m pc L (.ref a :: S)) rfl rfl (X.d hd)
  subst hp; exact (k T' (X.to X' e' X.fr X.old)).of st'
theorem g_instN (X : St Z n0 p l e R s m args below meth c own nm bytes ml ret T locs cells slots h) {k0 c0 : String} {i : Nat} {a : Addr} (w : (Jvm.Cond.classLink own i k0).before a0 Z = true) (F : Ins Z s.heap a k0 false) (E : Exa Z s.heap a c0) (hd : decode bytes pc = .ok (.instanceof i, 3)) (hp : pc + 3 = pc') (k : ∀ T', St Z n0 p l e R s m args below meth c own nm bytes ml ret T' locs cells slots h → Go p e below K (T'.setTop (mkF m pc' L (.int 0 :: S)))) : Go p e below K (T.setTop (mkF m pc L (.ref a :: S))) := by
  obtain ⟨T', X', e', st'⟩ := instN X.X X.hx X.hZ X.own_ w X.eT F E (g := mkF m pc L (.ref a :: S)) rfl rfl (X.d hd)
  subst hp; exact (k T' (X.to X' e' X.fr X.old)).of st'
/-- an array, by the list of what it holds -/
def Arx (Z : State) (h : Heap) (a : Addr) (ty : FieldType) (vs : List Value) : Prop := ∃ c : Cell, Arr Z h a c ty ∧ c.slots.toList = vs ∧ vs.length < 2 ^ 31
theorem Arx.keep {h' : Heap} {ws : List Addr} {a : Addr} {ty : FieldType} {vs : List Value} (A : Arx Z h a ty vs) (K : Keep h h' ws) (q : a ∉ ws) : Arx Z h' a ty vs := by obtain ⟨c, A, r⟩ := A; exact ⟨c, ⟨K.2.1 a c A.1 q, A.2⟩, r⟩
theorem Arx.ext {h' : Heap} {a : Addr} {ty : FieldType} {vs : List Value} (A : Arx Z h a ty vs) (E : Ext h h') : Arx Z h' a ty vs := by obtain ⟨c, A, r⟩ := A; exact ⟨c, A.ext E, r⟩
theorem Arx.other {h' : Heap} {a b : Addr} {sl : Nat} {v : Value} {ty : FieldType} {vs : List Value} (A : Arx Z h b ty vs) (W : Wr h h' a sl v) (q : b ≠ a) : Arx Z h' b ty vs := by obtain ⟨c, A, r⟩ := A; exact ⟨c, A.other W q, r⟩
theorem Arx.lt {a : Addr} {ty : FieldType} {vs : List Value} (A : Arx Z h a ty vs) : a < h.size := by obtain ⟨c, A, r⟩ := A; exact A.lt
theorem Arx.le {a : Addr} {ty : FieldType} {vs : List Value} (A : Arx Z h a ty vs) : vs.length < 2 ^ 31 := by obtain ⟨c, A, r, q⟩ := A; exact q
theorem arx_in {cl : Cell} {vs : List Value} (q : cl.slots.toList = vs) {j : Int32} {i : Nat} (hj : j.toInt = (i : Int)) (hi : i < vs.length) : ¬ (j < 0 ∨ cl.slots.size ≤ j.toNatClampNeg) ∧ j.toNatClampNeg = i := by
  have e1 : j.toNatClampNeg = i := by simp only [Int32.toNatClampNeg, hj]; omega
  have e2 : cl.slots.size = vs.length := by rw [← q]; simp
  refine ⟨?_, e1⟩
  rw [e1, e2, Int32.lt_iff_toInt_lt, hj]
  have : (0 : Int32).toInt = 0 := rfl
  omega
theorem arx_at {cl : Cell} {vs : List Value} (q : cl.slots.toList = vs) {i : Nat} {v : Value} (hv : vs[i]? = some v) : cl.slots[i]? = some v := by rw [← q] at hv; simpa using hv
theorem arx_new (k : ClassId) (ty : FieldType) (n : Int32) : (newA k ty n).slots.toList = List.replicate n.toNatClampNeg (defaultValue ty) := by simp [newA]
theorem g_iaload (X : St Z n0 p l e R s m args below meth c own nm bytes ml ret T locs cells slots h) {a : Addr} {j : Int32} {i : Nat} {v : Value} {vs : List Value} (A : Arx Z h a .int vs) (hj : j.toInt = (i : Int)) (hv : vs[i]? = some v) (hd : decode bytes pc = .ok (.iaload, 1)) (hp : pc + 1 = pc') (k : Go p e below K (T.setTop (mkF m pc' L (v :: S)))) : Go p e below K (T.setTop (mkF m pc L (.int j :: .ref a :: S))) := by
  obtain ⟨cl, A, q, -⟩ := A
  obtain ⟨hin, hi⟩ := arx_in q hj (List.getElem?_eq_some_iff.mp hv).1
  subst hp; exact k.of (fun _ z => X.X.iaload X.hx (by rw [X.eT]; exact A.1) (State.isArrayOf_alike X.hZ.alike A.2.1) A.2.2 hin (by rw [hi]; exact arx_at q hv) (g := mkF m pc L (.int j :: .ref a :: S)) rfl rfl (X.d hd) _ z)
theorem g_laload (X : St Z n0 p l e R s m args below meth c own nm bytes ml ret T locs cells slots h) {a : Addr} {j : Int32} {i : Nat} {v : Value} {vs : List Value} (A : Arx Z h a .long vs) (hj : j.toInt = (i : Int)) (hv : vs[i]? = some v) (hd : decode bytes pc = .ok (.laload, 1)) (hp : pc + 1 = pc') (k : Go p e below K (T.setTop (mkF m pc' L (v :: S)))) : Go p e below K (T.setTop (mkF m pc L (.int j :: .ref a :: S))) := by
  obtain ⟨cl, A, q, -⟩ := A
  obtain ⟨hin, hi⟩ := arx_in q hj (List.getElem?_eq_some_iff.mp hv).1
  subst hp; exact k.of (fun _ z => X.X.laload X.hx (by rw [X.eT]; exact A.1) (State.isArrayOf_alike X.hZ.alike A.2.1) A.2.2 hin (by rw [hi]; exact arx_at q hv) (g := mkF m pc L (.int j :: .ref a :: S)) rfl rfl (X.d hd) _ z)
theorem g_caload (X : St Z n0 p l e R s m args below meth c own nm bytes ml ret T locs cells slots h) {a : Addr} {j : Int32} {i : Nat} {v : Value} {vs : List Value} (A : Arx Z h a .char vs) (hj : j.toInt = (i : Int)) (hv : vs[i]? = some v) (hd : decode bytes pc = .ok (.caload, 1)) (hp : pc + 1 = pc') (k : Go p e below K (T.setTop (mkF m pc' L (v :: S)))) : Go p e below K (T.setTop (mkF m pc L (.int j :: .ref a :: S))) := by
  obtain ⟨cl, A, q, -⟩ := A
  obtain ⟨hin, hi⟩ := arx_in q hj (List.getElem?_eq_some_iff.mp hv).1
  subst hp; exact k.of (fun _ z => X.X.caload X.hx (by rw [X.eT]; exact A.1) (State.isArrayOf_alike X.hZ.alike A.2.1) A.2.2 hin (by rw [hi]; exact arx_at q hv) (g := mkF m pc L (.int j :: .ref a :: S)) rfl rfl (X.d hd) _ z)
theorem g_baload (X : St Z n0 p l e R s m args below meth c own nm bytes ml ret T locs cells slots h) {a : Addr} {j : Int32} {i : Nat} {v : Value} {vs : List Value} (A : Arx Z h a .byte vs) (hj : j.toInt = (i : Int)) (hv : vs[i]? = some v) (hd : decode bytes pc = .ok (.baload, 1)) (hp : pc + 1 = pc') (k : Go p e below K (T.setTop (mkF m pc' L (v :: S)))) : Go p e below K (T.setTop (mkF m pc L (.int j :: .ref a :: S))) := by
  obtain ⟨cl, A, q, -⟩ := A
  obtain ⟨hin, hi⟩ := arx_in q hj (List.getElem?_eq_some_iff.mp hv).1
  subst hp; exact k.of (fun _ z => X.X.baloadBytes X.hx (by rw [X.eT]; exact A.1) (State.isArrayOf_alike X.hZ.alike A.2.1) A.2.2 hin (by rw [hi]; exact arx_at q hv) (g := mkF m pc L (.int j :: .ref a :: S)) rfl rfl (X.d hd) _ z)
theorem g_aaload (X : St Z n0 p l e R s m args below meth c own nm bytes ml ret T locs cells slots h) {a : Addr} {j : Int32} {i : Nat} {v : Value} {ty : FieldType} {vs : List Value} (A : Arx Z h a ty vs) (hty : ty.isReference = true) (hj : j.toInt = (i : Int)) (hv : vs[i]? = some v) (hd : decode bytes pc = .ok (.aaload, 1)) (hp : pc + 1 = pc') (k : Go p e below K (T.setTop (mkF m pc' L (v :: S)))) : Go p e below K (T.setTop (mkF m pc L (.int j :: .ref a :: S))) := by
  obtain ⟨cl, A, q, -⟩ := A
  obtain ⟨hin, hi⟩ := arx_in q hj (List.getElem?_eq_some_iff.mp hv).1
  subst hp; exact k.of (fun _ z => X.X.aaload X.hx (by rw [X.eT]; exact A.1) (State.isArrayOf_alike X.hZ.alike A.2.1) hty A.2.2 hin (by rw [hi]; exact arx_at q hv) (g := mkF m pc L (.int j :: .ref a :: S)) rfl rfl (X.d hd) _ z)
theorem g_arraylength (X : St Z n0 p l e R s m args below meth c own nm bytes ml ret T locs cells slots h) {a : Addr} {ty : FieldType} {vs : List Value} {n : Int32} (A : Arx Z h a ty vs) (hn : vs.length.toInt32 = n) (hd : decode bytes pc = .ok (.arraylength, 1)) (hp : pc + 1 = pc') (k : Go p e below K (T.setTop (mkF m pc' L (.int n :: S)))) : Go p e below K (T.setTop (mkF m pc L (.ref a :: S))) := by
  obtain ⟨cl, A, q, -⟩ := A
  have e2 : cl.slots.size.toInt32 = n := by rw [← hn, ← q]; simp
  subst hp; exact k.of (fun _ z => X.X.arraylength X.hx (by rw [X.eT]; exact A.1) (State.isArrayOf_alike X.hZ.alike A.2.1) (g := mkF m pc L (.ref a :: S)) rfl rfl (X.d hd) _ (by rw [e2]; exact z))
theorem g_iastore (X : St Z n0 p l e R s m args below meth c own nm bytes ml ret T locs cells slots h) {a : Addr} {j : Int32} {i : Nat} {x : Int32} {vs : List Value} (A : Arx Z h a .int vs) (hj : j.toInt = (i : Int)) (hi : i < vs.length) (ga : n0 ≤ a) (hd : decode bytes pc = .ok (.iastore, 1)) (hp : pc + 1 = pc') (k : ∀ T' h', St Z n0 p l e R s m args below meth c own nm bytes ml ret T' (locs ++ [⟨a, i⟩]) cells slots h' → Wr h h' a i (.int x) → Arx Z h' a .int (vs.set i (.int x)) → Go p e below K (T'.setTop (mkF m pc' L S))) : Go p e below K (T.setTop (mkF m pc L (.int x :: .int j :: .ref a :: S))) := by
  obtain ⟨cl, A, q, hl⟩ := A
  obtain ⟨hin, hn⟩ := arx_in q hj hi
  obtain ⟨T', h', X', e', W, st'⟩ := stI X.X X.hx X.hZ X.eT A hin (g := mkF m pc L (.int x :: .int j :: .ref a :: S)) rfl rfl (X.d hd)
  rw [hn] at W X'
  subst hp; exact (k T' h' (X.to X' e' (Fr.snoc X' X.fr ga) (X.old.wr W ga)) W ⟨_, A.same W, by rw [← q]; simp [Cell.setSlot], by simpa using hl⟩).of st'
theorem g_lastore (X : St Z n0 p l e R s m args below meth c own nm bytes ml ret T locs cells slots h) {a : Addr} {j : Int32} {i : Nat} {x : Int64} {vs : List Value} (A : Arx Z h a .long vs) (hj : j.toInt = (i : Int)) (hi : i < vs.length) (ga : n0 ≤ a) (hd : decode bytes pc = .ok (.lastore, 1)) (hp : pc + 1 = pc') (k : ∀ T' h', St Z n0 p l e R s m args below meth c own nm bytes ml ret T' (locs ++ [⟨a, i⟩]) cells slots h' → Wr h h' a i (.long x) → Arx Z h' a .long (vs.set i (.long x)) → Go p e below K (T'.setTop (mkF m pc' L S))) : Go p e below K (T.setTop (mkF m pc L (.long x :: .int j :: .ref a :: S))) := by
  obtain ⟨cl, A, q, hl⟩ := A
  obtain ⟨hin, hn⟩ := arx_in q hj hi
  obtain ⟨T', h', X', e', W, st'⟩ := stJ X.X X.hx X.hZ X.eT A hin (g := mkF m pc L (.long x :: .int j :: .ref a :: S)) rfl rfl (X.d hd)
  rw [hn] at W X'
  subst hp; exact (k T' h' (X.to X' e' (Fr.snoc X' X.fr ga) (X.old.wr W ga)) W ⟨_, A.same W, by rw [← q]; simp [Cell.setSlot], by simpa using hl⟩).of st'
theorem g_castore (X : St Z n0 p l e R s m args below meth c own nm bytes ml ret T locs cells slots h) {a : Addr} {j : Int32} {i : Nat} {x : Int32} {vs : List Value} (A : Arx Z h a .char vs) (hj : j.toInt = (i : Int)) (hi : i < vs.length) (ga : n0 ≤ a) (hd : decode bytes pc = .ok (.castore, 1)) (hp : pc + 1 = pc') (k : ∀ T' h', St Z n0 p l e R s m args below meth c own nm bytes ml ret T' (locs ++ [⟨a, i⟩]) cells slots h' → Wr h h' a i (.int (nar .char x)) → Arx Z h' a .char (vs.set i (.int (nar .char x))) → Go p e below K (T'.setTop (mkF m pc' L S))) : Go p e below K (T.setTop (mkF m pc L (.int x :: .int j :: .ref a :: S))) := by
  obtain ⟨cl, A, q, hl⟩ := A
  obtain ⟨hin, hn⟩ := arx_in q hj hi
  obtain ⟨T', h', X', e', W, st'⟩ := stC X.X X.hx X.hZ X.eT A hin (g := mkF m pc L (.int x :: .int j :: .ref a :: S)) rfl rfl (X.d hd)
  rw [hn] at W X'
  subst hp; exact (k T' h' (X.to X' e' (Fr.snoc X' X.fr ga) (X.old.wr W ga)) W ⟨_, A.same W, by rw [← q]; simp [Cell.setSlot], by simpa using hl⟩).of st'
theorem g_bastore (X : St Z n0 p l e R s m args below meth c own nm bytes ml ret T locs cells slots h) {a : Addr} {j : Int32} {i : Nat} {x : Int32} {vs : List Value} (A : Arx Z h a .byte vs) (hj : j.toInt = (i : Int)) (hi : i < vs.length) (ga : n0 ≤ a) (hd : decode bytes pc = .ok (.bastore, 1)) (hp : pc + 1 = pc') (k : ∀ T' h', St Z n0 p l e R s m args below meth c own nm bytes ml ret T' (locs ++ [⟨a, i⟩]) cells slots h' → Wr h h' a i (.int (nar .byte x)) → Arx Z h' a .byte (vs.set i (.int (nar .byte x))) → Go p e below K (T'.setTop (mkF m pc' L S))) : Go p e below K (T.setTop (mkF m pc L (.int x :: .int j :: .ref a :: S))) := by
  obtain ⟨cl, A, q, hl⟩ := A
  obtain ⟨hin, hn⟩ := arx_in q hj hi
  obtain ⟨T', h', X', e', W, st'⟩ := stB X.X X.hx X.hZ X.eT A hin (g := mkF m pc L (.int x :: .int j :: .ref a :: S)) rfl rfl (X.d hd)
  rw [hn] at W X'
  subst hp; exact (k T' h' (X.to X' e' (Fr.snoc X' X.fr ga) (X.old.wr W ga)) W ⟨_, A.same W, by rw [← q]; simp [Cell.setSlot], by simpa using hl⟩).of st'
theorem g_newarray (X : St Z n0 p l e R s m args below meth c own nm bytes ml ret T locs cells slots h) {aty : ArrayType} {n : Int32} {cap : Nat} {vs : List Value} (w : (Jvm.Cond.arrayClass (newarray.typeOf aty)).before a0 Z = true) (hn : ¬ n < 0) (hcap : n.toNatClampNeg ≤ cap) (hvs : List.replicate n.toNatClampNeg (defaultValue (newarray.typeOf aty)) = vs) (hb : cap * 8 ≤ 536870912) (hd : decode bytes pc = .ok (.newarray aty, 2)) (hp : pc + 2 = pc') (hc : cells + 1 ≤ R.cells) (hl : slots + cap ≤ R.slots)
    (k : ∀ T' h' a, St Z n0 p l e R s m args below meth c own nm bytes ml ret T' locs (cells + 1) (slots + cap) h' → a = h.size → Ext h h' → Arx Z h' a (newarray.typeOf aty) vs → n0 ≤ a → Go p e below K (T'.setTop (mkF m pc' L (.ref a :: S)))) : Go p e below K (T.setTop (mkF m pc L (.int n :: S))) := by
  obtain ⟨T', h', cA, X', e', E, A, st'⟩ := newP X.X X.hx X.hZ w X.eT (g := mkF m pc L (.int n :: S)) rfl (X.d hd) rfl hn hcap hb hc hl
  subst hp; exact (k T' h' _ (X.to X' e' X.fr (X.old.ext E)) rfl E ⟨_, A, (arx_new _ _ _).trans hvs, by rw [← hvs, List.length_replicate]; omega⟩ X.sz).of st'
theorem g_callSB (X : St Z n0 p l e R s m args below meth c own nm bytes ml ret T locs cells slots h) {i : Nat} {y : MethodName} {b' : ByteArray} {ml' : Nat} {ret' : Option FieldType} {cc ss : Nat} {Q : Option Value → Heap → List Loc → Prop} {ps : List FieldType} {r : Option FieldType} {W : Nat} {S0 rest : List Value} (argsL : List Value) (w1 : (Jvm.Cond.methodLink own i y).before a0 Z = true) (w2 : (Jvm.Cond.static y).before a0 Z = true) (w0 : (Jvm.Cond.initialized y.cls).before a0 Z = true) (w4 : (Jvm.Cond.code y b' ml' ret').before a0 Z = true) (Bk : Back l R p e below s args y 3 W (fun A a' => a' = argsL.toArray ∧ A.U.heap = h ∧ A.cells + cc ≤ R.cells ∧ A.slots + ss ≤ R.slots) (fun A _ v B => ∃ L, Q v B.U.heap L ∧ B.locs = A.locs ++ L ∧ B.cells = A.cells + cc ∧ B.slots = A.slots + ss)) (hy : y.cls ≠ "java/lang/invoke/MethodHandle" ∧ y.cls ≠ "java/lang/invoke/VarHandle") (hc : cells + cc ≤ R.cells) (hs : slots + ss ≤ R.slots) (hL : L.size = ml) (hps : parseMethodDescriptor y.desc = some ⟨ps, r⟩) (hlen : argsL.length = ps.length) (hS : S0 = argsL.reverse ++ rest) (hW : (rest.map fun v => v.category).sum = W) (hd : decode bytes pc = .ok (.invokestatic i, 3)) (hp : pc + 3 = pc') (k : ∀ v T' h' L'', (Old Z n0 h' → Fr n0 L'' → St Z n0 p l e R s m args below meth c own nm bytes ml ret T' (locs ++ L'') (cells + cc) (slots + ss) h') → Q v h' L'' → Go p e below K (T'.setTop (mkF m pc' L (v.toList ++ rest)))) : Go p e below K (T.setTop (mkF m pc L S0)) := by
  subst hS hp
  obtain ⟨v, _, ⟨T', L'', k', n'⟩, -, X', ⟨Lc, hQ, l', y', z'⟩, st'⟩ := Jvm.LawKit.callS X.X X.hx (y := y) X.own_ (mvT X.hZ w1) (mvT X.hZ w2) (mvT X.hZ w0) (mvT X.hZ w4) hy Bk (g := mkF m pc L (argsL.reverse ++ rest)) rfl (by rw [X.ml_]; exact hL) (argsL := argsL) (rest := rest) (lenOf hps hlen) rfl (by show 2 * 0 + _ ≤ _; rw [hW, Nat.mul_zero, Nat.zero_add]; exact Nat.le_refl _) (X.d hd) (fun _ _ => ⟨rfl, X.eT, hc, hs⟩)
  dsimp only [Pt.U, Pt.locs, Pt.cells, Pt.slots] at X' l' y' z' st' hQ
  subst l' y' z'
  exact (k v T' T'.heap Lc (fun hz hF => ⟨X', X.2.1, rfl, X.fr.app hF, hz⟩) hQ).of st'
theorem g_callS (X : St Z n0 p l e R s m args below meth c own nm bytes ml ret T locs cells slots h) {i : Nat} {y : MethodName} {b' : ByteArray} {ml' : Nat} {ret' : Option FieldType} {rm : Room} {Q : Option Value → Heap → List Loc → Prop} {ps : List FieldType} {r : Option FieldType} {W : Nat} {S0 rest : List Value} (argsL : List Value) (w1 : (Jvm.Cond.methodLink own i y).before a0 Z = true) (w2 : (Jvm.Cond.static y).before a0 Z = true) (w0 : (Jvm.Cond.initialized y.cls).before a0 Z = true) (w4 : (Jvm.Cond.code y b' ml' ret').before a0 Z = true) (w3 : (Jvm.Cond.initialized y.cls).before a0 Z = true) (C : Con l Z y b' ml' ret' [] rm rm.cells rm.slots argsL.toArray h Q) (hy : y.cls ≠ "java/lang/invoke/MethodHandle" ∧ y.cls ≠ "java/lang/invoke/VarHandle") (hf : rm.frames + 1 ≤ R.frames) (hl : W + (ml' + 11) + rm.locals ≤ R.locals) (hc : cells + rm.cells ≤ R.cells) (hs : slots + rm.slots ≤ R.slots) (hL : L.size = ml) (hps : parseMethodDescriptor y.desc = some ⟨ps, r⟩) (hlen : argsL.length = ps.length) (hS : S0 = argsL.reverse ++ rest) (hW : (rest.map fun v => v.category).sum = W) (hd : decode bytes pc = .ok (.invokestatic i, 3)) (hp : pc + 3 = pc') (k : ∀ v T' h' L'', (Old Z n0 h' → Fr n0 L'' → St Z n0 p l e R s m args below meth c own nm bytes ml ret T' (locs ++ L'') (cells + rm.cells) (slots + rm.slots) h') → Q v h' L'' → Go p e below K (T'.setTop (mkF m pc' L (v.toList ++ rest)))) : Go p e below K (T.setTop (mkF m pc L S0)) :=
  g_callSB X argsL w1 w2 w0 w4 (backOf (W := W) C X.hZ w4 w3 hf hl) hy hc hs hL hps hlen hS hW hd hp k
theorem g_callIB (X : St Z n0 p l e R s m args below meth c own nm bytes ml ret T locs cells slots h) {i : Nat} {y : MethodName} {b' : ByteArray} {ml' : Nat} {ret' : Option FieldType} {cc ss : Nat} {Q : Option Value → Heap → List Loc → Prop} {ps : List FieldType} {r : Option FieldType} {W : Nat} {S0 rest : List Value} (argsL : List Value) {a : Addr} (hinit : y.name = "<init>") (w1 : (Jvm.Cond.methodLink own i y).before a0 Z = true) (w2 : (Jvm.Cond.instanceMethod y).before a0 Z = true) (hr : ret' = none) (w4 : (Jvm.Cond.code y b' ml' ret').before a0 Z = true) (Bk : Back l R p e below s args y 3 W (fun A a' => a' = (.ref a :: argsL).toArray ∧ A.U.heap = h ∧ A.cells + cc ≤ R.cells ∧ A.slots + ss ≤ R.slots) (fun A _ v B => ∃ L, Q v B.U.heap L ∧ B.locs = A.locs ++ L ∧ B.cells = A.cells + cc ∧ B.slots = A.slots + ss)) (hy : y.cls ≠ "java/lang/invoke/MethodHandle" ∧ y.cls ≠ "java/lang/invoke/VarHandle") (hc : cells + cc ≤ R.cells) (hs : slots + ss ≤ R.slots) (hL : L.size = ml) (hps : parseMethodDescriptor y.desc = some ⟨ps, r⟩) (hlen : argsL.length = ps.length) (hS : S0 = argsL.reverse ++ .ref a :: rest) (hW : (rest.map fun v => v.category).sum = W) (hd : decode bytes pc = .ok (.invokespecial i, 3)) (hp : pc + 3 = pc') (k : ∀ v T' h' L'', (Old Z n0 h' → Fr n0 L'' → St Z n0 p l e R s m args below meth c own nm bytes ml ret T' (locs ++ L'') (cells + cc) (slots + ss) h') → Q v h' L'' → Go p e below K (T'.setTop (mkF m pc' L (v.toList ++ rest)))) : Go p e below K (T.setTop (mkF m pc L S0)) := by
  subst hS hp
  subst hr
  obtain ⟨v, _, ⟨T', L'', k', n'⟩, -, X', ⟨Lc, hQ, l', y', z'⟩, st'⟩ := X.X.specialBack X.hx (y := y) hinit X.own_ (mvT X.hZ w1) (mvT X.hZ w2) (mvT X.hZ w4) hy Bk (g := mkF m pc L (argsL.reverse ++ .ref a :: rest)) rfl (by rw [X.ml_]; exact hL) (Steps.refl _) (a := a) (argsL := argsL) (rest := rest) (lenOf hps hlen) rfl (by show 2 * 0 + _ ≤ _; rw [hW, Nat.mul_zero, Nat.zero_add]; exact Nat.le_refl _) (X.d hd) (fun _ _ => ⟨rfl, X.eT, hc, hs⟩)
  dsimp only [Pt.U, Pt.locs, Pt.cells, Pt.slots] at X' l' y' z' st' hQ
  subst l' y' z'
  exact (k v T' T'.heap Lc (fun hz hF => ⟨X', X.2.1, rfl, X.fr.app hF, hz⟩) hQ).of (fun _ q => st'.trans q)
theorem g_callI (X : St Z n0 p l e R s m args below meth c own nm bytes ml ret T locs cells slots h) {i : Nat} {y : MethodName} {b' : ByteArray} {ml' : Nat} {ret' : Option FieldType} {rm : Room} {Q : Option Value → Heap → List Loc → Prop} {ps : List FieldType} {r : Option FieldType} {W : Nat} {S0 rest : List Value} (argsL : List Value) {a : Addr} (hinit : y.name = "<init>") (w1 : (Jvm.Cond.methodLink own i y).before a0 Z = true) (w2 : (Jvm.Cond.instanceMethod y).before a0 Z = true) (hr : ret' = none) (w4 : (Jvm.Cond.code y b' ml' ret').before a0 Z = true) (w3 : (Jvm.Cond.initialized y.cls).before a0 Z = true) (C : Con l Z y b' ml' ret' [] rm rm.cells rm.slots (.ref a :: argsL).toArray h Q) (hy : y.cls ≠ "java/lang/invoke/MethodHandle" ∧ y.cls ≠ "java/lang/invoke/VarHandle") (hf : rm.frames + 1 ≤ R.frames) (hl : W + (ml' + 11) + rm.locals ≤ R.locals) (hc : cells + rm.cells ≤ R.cells) (hs : slots + rm.slots ≤ R.slots) (hL : L.size = ml) (hps : parseMethodDescriptor y.desc = some ⟨ps, r⟩) (hlen : argsL.length = ps.length) (hS : S0 = argsL.reverse ++ .ref a :: rest) (hW : (rest.map fun v => v.category).sum = W) (hd : decode bytes pc = .ok (.invokespecial i, 3)) (hp : pc + 3 = pc') (k : ∀ v T' h' L'', (Old Z n0 h' → Fr n0 L'' → St Z n0 p l e R s m args below meth c own nm bytes ml ret T' (locs ++ L'') (cells + rm.cells) (slots + rm.slots) h') → Q v h' L'' → Go p e below K (T'.setTop (mkF m pc' L (v.toList ++ rest)))) : Go p e below K (T.setTop (mkF m pc L S0)) :=
  g_callIB X argsL hinit w1 w2 hr w4 (backOf (W := W) C X.hZ w4 w3 hf hl) hy hc hs hL hps hlen hS hW hd hp k
theorem g_callVB (X : St Z n0 p l e R s m args below meth c own nm bytes ml ret T locs cells slots h) {i : Nat} {y : MethodName} {b' : ByteArray} {ml' : Nat} {ret' : Option FieldType} {cc ss : Nat} {Q : Option Value → Heap → List Loc → Prop} {ps : List FieldType} {r : Option FieldType} {W : Nat} {S0 rest : List Value} (argsL : List Value) {C0 : String} {z : MethodName} {a : Addr} (w1 : (Jvm.Cond.methodLink own i y).before a0 Z = true) (w2 : (Jvm.Cond.declares y).before a0 Z = true) (nf : NotFace s y) (w5 : (Jvm.Cond.selects C0 y z).before a0 Z = true) (w6 : (Jvm.Cond.instanceMethod z).before a0 Z = true) (E : Exa Z h a C0) (w4 : (Jvm.Cond.code z b' ml' ret').before a0 Z = true) (Bk : Back l R p e below s args z 3 W (fun A a' => a' = (.ref a :: argsL).toArray ∧ A.U.heap = h ∧ A.cells + cc ≤ R.cells ∧ A.slots + ss ≤ R.slots) (fun A _ v B => ∃ L, Q v B.U.heap L ∧ B.locs = A.locs ++ L ∧ B.cells = A.cells + cc ∧ B.slots = A.slots + ss)) (hy : y.cls ≠ "java/lang/invoke/MethodHandle" ∧ y.cls ≠ "java/lang/invoke/VarHandle") (hc : cells + cc ≤ R.cells) (hs : slots + ss ≤ R.slots) (hL : L.size = ml) (hps : parseMethodDescriptor y.desc = some ⟨ps, r⟩) (hlen : argsL.length = ps.length) (hS : S0 = argsL.reverse ++ .ref a :: rest) (hW : (rest.map fun v => v.category).sum = W) (hd : decode bytes pc = .ok (.invokevirtual i, 3)) (hp : pc + 3 = pc') (k : ∀ v T' h' L'', (Old Z n0 h' → Fr n0 L'' → St Z n0 p l e R s m args below meth c own nm bytes ml ret T' (locs ++ L'') (cells + cc) (slots + ss) h') → Q v h' L'' → Go p e below K (T'.setTop (mkF m pc' L (v.toList ++ rest)))) : Go p e below K (T.setTop (mkF m pc L S0)) := by
  subst hS hp
  obtain ⟨cq, kq, q1, q2, q3⟩ := isOf X.hZ X.eT E
  obtain ⟨v, _, ⟨T', L'', k', n'⟩, -, X', ⟨Lc, hQ, l', y', z'⟩, st'⟩ := X.X.virtualBack X.hx (y := y) (z := z) X.own_ (mvT X.hZ w1) (mvT X.hZ w2) nf (mvT X.hZ w5) (mvT X.hZ w6) hy Bk q1 q3 (g := mkF m pc L (argsL.reverse ++ .ref a :: rest)) rfl (by rw [X.ml_]; exact hL) (Steps.refl _) (argsL := argsL) (rest := rest) (lenOf hps hlen) rfl (by show 2 * 0 + _ ≤ _; rw [hW, Nat.mul_zero, Nat.zero_add]; exact Nat.le_refl _) (X.d hd) (fun _ _ => ⟨rfl, X.eT, hc, hs⟩)
  dsimp only [Pt.U, Pt.locs, Pt.cells, Pt.slots] at X' l' y' z' st' hQ
  subst l' y' z'
  exact (k v T' T'.heap Lc (fun hz hF => ⟨X', X.2.1, rfl, X.fr.app hF, hz⟩) hQ).of (fun _ q => st'.trans q)
theorem g_callV (X : St Z n0 p l e R s m args below meth c own nm bytes ml ret T locs cells slots h) {i : Nat} {y : MethodName} {b' : ByteArray} {ml' : Nat} {ret' : Option FieldType} {rm : Room} {Q : Option Value → Heap → List Loc → Prop} {ps : List FieldType} {r : Option FieldType} {W : Nat} {S0 rest : List Value} (argsL : List Value) {C0 : String} {z : MethodName} {a : Addr} (w1 : (Jvm.Cond.methodLink own i y).before a0 Z = true) (w2 : (Jvm.Cond.declares y).before a0 Z = true) (nf : NotFace s y) (w5 : (Jvm.Cond.selects C0 y z).before a0 Z = true) (w6 : (Jvm.Cond.instanceMethod z).before a0 Z = true) (E : Exa Z h a C0) (w4 : (Jvm.Cond.code z b' ml' ret').before a0 Z = true) (w3 : (Jvm.Cond.initialized z.cls).before a0 Z = true) (C : Con l Z z b' ml' ret' [] rm rm.cells rm.slots (.ref a :: argsL).toArray h Q) (hy : y.cls ≠ "java/lang/invoke/MethodHandle" ∧ y.cls ≠ "java/lang/invoke/VarHandle") (hf : rm.frames + 1 ≤ R.frames) (hl : W + (ml' + 11) + rm.locals ≤ R.locals) (hc : cells + rm.cells ≤ R.cells) (hs : slots + rm.slots ≤ R.slots) (hL : L.size = ml) (hps : parseMethodDescriptor y.desc = some ⟨ps, r⟩) (hlen : argsL.length = ps.length) (hS : S0 = argsL.reverse ++ .ref a :: rest) (hW : (rest.map fun v => v.category).sum = W) (hd : decode bytes pc = .ok (.invokevirtual i, 3)) (hp : pc + 3 = pc') (k : ∀ v T' h' L'', (Old Z n0 h' → Fr n0 L'' → St Z n0 p l e R s m args below meth c own nm bytes ml ret T' (locs ++ L'') (cells + rm.cells) (slots + rm.slots) h') → Q v h' L'' → Go p e below K (T'.setTop (mkF m pc' L (v.toList ++ rest)))) : Go p e below K (T.setTop (mkF m pc L S0)) :=
  g_callVB X argsL w1 w2 nf w5 w6 E w4 (backOf (W := W) C X.hZ w4 w3 hf hl) hy hc hs hL hps hlen hS hW hd hp k
theorem g_retI (X : St Z n0 p l e R s m args below meth c own nm bytes ml ret T locs cells slots h) {C N : Nat} {Q : Option Value → Heap → List Loc → Prop} {z : Int32} (hr : ret = some .int) (hd : decode bytes pc = .ok (.ireturn, 1)) (hc : cells ≤ C) (hs : slots ≤ N) (q : Q (some (.int z)) h locs) : Go p e below (Kq s C N Q) (T.setTop (mkF m pc L (.int z :: S))) := by
  obtain ⟨fs, hl, hrun, hended, hW, hsame⟩ := X.X.leave (v := (some (.int z))) (fun h => by rw [X.ret_, hr] at h; cases h) X.lk
  exact ⟨_, _, retOut X.X X.hx (t := .int) (X.ret_.trans hr) rfl (Or.inl ⟨rfl, Or.inl rfl, _, rfl⟩) (X.d hd) hl, hrun, hended, _, _, rfl, (show Q _ T.heap _ by rw [X.eT]; exact q), ⟨_, rfl⟩, hW, hsame.mono hc hs⟩
theorem g_retL (X : St Z n0 p l e R s m args below meth c own nm bytes ml ret T locs cells slots h) {C N : Nat} {Q : Option Value → Heap → List Loc → Prop} {z : Int64} (hr : ret = some .long) (hd : decode bytes pc = .ok (.lreturn, 1)) (hc : cells ≤ C) (hs : slots ≤ N) (q : Q (some (.long z)) h locs) : Go p e below (Kq s C N Q) (T.setTop (mkF m pc L (.long z :: S))) := by
  obtain ⟨fs, hl, hrun, hended, hW, hsame⟩ := X.X.leave (v := (some (.long z))) (fun h => by rw [X.ret_, hr] at h; cases h) X.lk
  exact ⟨_, _, retOut X.X X.hx (t := .long) (X.ret_.trans hr) rfl (Or.inr (Or.inl ⟨rfl, rfl, _, rfl⟩)) (X.d hd) hl, hrun, hended, _, _, rfl, (show Q _ T.heap _ by rw [X.eT]; exact q), ⟨_, rfl⟩, hW, hsame.mono hc hs⟩
theorem g_retA (X : St Z n0 p l e R s m args below meth c own nm bytes ml ret T locs cells slots h) {C N : Nat} {Q : Option Value → Heap → List Loc → Prop} {z : Value} {t : FieldType} (hz : z.isRef = true) (ht : t.isReference = true) (hr : ret = some t) (hd : decode bytes pc = .ok (.areturn, 1)) (hc : cells ≤ C) (hs : slots ≤ N) (q : Q (some z) h locs) : Go p e below (Kq s C N Q) (T.setTop (mkF m pc L (z :: S))) := by
  obtain ⟨fs, hl, hrun, hended, hW, hsame⟩ := X.X.leave (v := (some z)) (fun h => by rw [X.ret_, hr] at h; cases h) X.lk
  exact ⟨_, _, retOut X.X X.hx (t := t) (X.ret_.trans hr) (by cases z <;> cases t <;> simp [Value.isRef, FieldType.isReference, narrow] at hz ht ⊢) (Or.inr (Or.inr (Or.inr (Or.inr ⟨rfl, ht, hz⟩)))) (X.d hd) hl, hrun, hended, _, _, rfl, (show Q _ T.heap _ by rw [X.eT]; exact q), ⟨_, rfl⟩, hW, hsame.mono hc hs⟩
theorem g_retN (X : St Z n0 p l e R s m args below meth c own nm bytes ml ret T locs cells slots h) {C N : Nat} {Q : Option Value → Heap → List Loc → Prop} {z : Int32} {t : FieldType} (ht : t = .boolean ∨ t = .byte ∨ t = .char ∨ t = .short) (hr : ret = some t) (hd : decode bytes pc = .ok (.ireturn, 1)) (hc : cells ≤ C) (hs : slots ≤ N) (q : Q (some (.int (nar t z))) h locs) : Go p e below (Kq s C N Q) (T.setTop (mkF m pc L (.int z :: S))) := by
  obtain ⟨fs, hl, hrun, hended, hW, hsame⟩ := X.X.leave (v := (some (.int (nar t z)))) (fun h => by rw [X.ret_, hr] at h; cases h) X.lk
  exact ⟨_, _, retN X.X X.hx (t := t) (X.ret_.trans hr) ht (X.d hd) hl, hrun, hended, _, _, rfl, (show Q _ T.heap _ by rw [X.eT]; exact q), ⟨_, rfl⟩, hW, hsame.mono hc hs⟩
theorem g_ret (X : St Z n0 p l e R s m args below meth c own nm bytes ml ret T locs cells slots h) {C N : Nat} {Q : Option Value → Heap → List Loc → Prop} (hr : ret = none) (hd : decode bytes pc = .ok (.return_, 1)) (hc : cells ≤ C) (hs : slots ≤ N) (q : Q none h locs) : Go p e below (Kq s C N Q) (T.setTop (mkF m pc L [])) := by
  obtain ⟨fs, hl, hrun, hended, hW, hsame⟩ := X.X.leave (v := none) (fun _ => rfl) X.lk
  exact ⟨_, _, X.X.returnOut X.hx (X.ret_.trans hr) (X.d hd) hl, hrun, hended, _, _, rfl, (show Q _ T.heap _ by rw [X.eT]; exact q), ⟨_, rfl⟩, hW, hsame.mono hc hs⟩
theorem nm0 {a : Addr} : a ∉ ([] : List Addr) := List.not_mem_nil
theorem nm1 {a b : Addr} (h : a ≠ b) : a ∉ [b] := by simpa using h
theorem nm2 {a b d : Addr} (h : a ≠ b) (h' : a ≠ d) : a ∉ [b, d] := by simp [h, h']
theorem keep_ext {h' : Heap} (E : Ext h h') (ws : List Addr) : Keep h h' ws := (Keep.refl h ws).ext E
theorem ne_new {a b k : Nat} (h1 : a < k) (h2 : b = k) : a ≠ b := by omega
theorem ne_new' {a b k : Nat} (h1 : a < k) (h2 : b = k) : b ≠ a := by omega
end Own

theorem m0 : (Jvm.Cond.classLink "com/example/lease/lease/model/EnqueuedEqualsPinLaw" (7 : Nat) "com/example/lease/lease/model/Enqueued") ∈ tables_1 := List.mem_of_getElem? (i := 0) rfl
theorem m1 : (Jvm.Cond.instantiable "com/example/lease/lease/model/Enqueued" (2 : Nat)) ∈ tables_1 := List.mem_of_getElem? (i := 1) rfl
theorem m2 : (Jvm.Cond.initialized "com/example/lease/lease/model/Enqueued") ∈ tables_1 := List.mem_of_getElem? (i := 2) rfl
theorem m3 : (Jvm.Cond.methodLink "com/example/lease/lease/model/EnqueuedEqualsPinLaw" (9 : Nat) ({ cls := "com/example/lease/lease/model/Enqueued", name := "<init>", desc := "(JZ)V" } : Jvm.MethodName)) ∈ tables_1 := List.mem_of_getElem? (i := 3) rfl
theorem m4 : (Jvm.Cond.instanceMethod ({ cls := "com/example/lease/lease/model/Enqueued", name := "<init>", desc := "(JZ)V" } : Jvm.MethodName)) ∈ tables_1 := List.mem_of_getElem? (i := 4) rfl
theorem m5 : (Jvm.Cond.code ({ cls := "com/example/lease/lease/model/Enqueued", name := "<init>", desc := "(JZ)V" } : Jvm.MethodName) prog_30_method_1_code (4 : Nat) (Option.none : Option Jvm.ClassFile.FieldType)) ∈ tables_1 := List.mem_of_getElem? (i := 5) rfl
theorem m6 : (Jvm.Cond.methodLink "com/example/lease/lease/model/Enqueued" (1 : Nat) ({ cls := "java/lang/Object", name := "<init>", desc := "()V" } : Jvm.MethodName)) ∈ tables_1 := List.mem_of_getElem? (i := 6) rfl
theorem m7 : (Jvm.Cond.instanceMethod ({ cls := "java/lang/Object", name := "<init>", desc := "()V" } : Jvm.MethodName)) ∈ tables_1 := List.mem_of_getElem? (i := 7) rfl
theorem m8 : (Jvm.Cond.code ({ cls := "java/lang/Object", name := "<init>", desc := "()V" } : Jvm.MethodName) object_method_1_code (1 : Nat) (Option.none : Option Jvm.ClassFile.FieldType)) ∈ tables_1 := List.mem_of_getElem? (i := 8) rfl
theorem m9 : (Jvm.Cond.fieldLink "com/example/lease/lease/model/Enqueued" (7 : Nat) "com/example/lease/lease/model/Enqueued" "id" "J") ∈ tables_1 := List.mem_of_getElem? (i := 9) rfl
theorem m10 : (Jvm.Cond.laysFinal "com/example/lease/lease/model/Enqueued" "com/example/lease/lease/model/Enqueued" "id" "J") ∈ tables_1 := List.mem_of_getElem? (i := 10) rfl
theorem m11 : (Jvm.Cond.fieldLink "com/example/lease/lease/model/Enqueued" (13 : Nat) "com/example/lease/lease/model/Enqueued" "duplicate" "Z") ∈ tables_1 := List.mem_of_getElem? (i := 11) rfl
theorem m12 : (Jvm.Cond.laysFinal "com/example/lease/lease/model/Enqueued" "com/example/lease/lease/model/Enqueued" "duplicate" "Z") ∈ tables_1 := List.mem_of_getElem? (i := 12) rfl
theorem m13 : (Jvm.Cond.methodLink "com/example/lease/lease/model/EnqueuedEqualsPinLaw" (12 : Nat) ({ cls := "com/example/lease/lease/model/Enqueued", name := "equals", desc := "(Ljava/lang/Object;)Z" } : Jvm.MethodName)) ∈ tables_1 := List.mem_of_getElem? (i := 13) rfl
theorem m14 : (Jvm.Cond.declares ({ cls := "com/example/lease/lease/model/Enqueued", name := "equals", desc := "(Ljava/lang/Object;)Z" } : Jvm.MethodName)) ∈ tables_1 := List.mem_of_getElem? (i := 14) rfl
theorem m15 : (Jvm.Cond.instanceMethod ({ cls := "com/example/lease/lease/model/Enqueued", name := "equals", desc := "(Ljava/lang/Object;)Z" } : Jvm.MethodName)) ∈ tables_1 := List.mem_of_getElem? (i := 15) rfl
theorem m16 : (Jvm.Cond.selects "com/example/lease/lease/model/Enqueued" ({ cls := "com/example/lease/lease/model/Enqueued", name := "equals", desc := "(Ljava/lang/Object;)Z" } : Jvm.MethodName) ({ cls := "com/example/lease/lease/model/Enqueued", name := "equals", desc := "(Ljava/lang/Object;)Z" } : Jvm.MethodName)) ∈ tables_1 := List.mem_of_getElem? (i := 16) rfl
theorem m17 : (Jvm.Cond.code ({ cls := "com/example/lease/lease/model/Enqueued", name := "equals", desc := "(Ljava/lang/Object;)Z" } : Jvm.MethodName) prog_30_method_4_code (3 : Nat) (Option.some Jvm.ClassFile.FieldType.boolean)) ∈ tables_1 := List.mem_of_getElem? (i := 17) rfl
theorem m18 : (Jvm.Cond.classLink "com/example/lease/lease/model/Enqueued" (8 : Nat) "com/example/lease/lease/model/Enqueued") ∈ tables_1 := List.mem_of_getElem? (i := 18) rfl
theorem m20 : (Jvm.Cond.methodLink "com/example/lease/lease/model/EnqueuedEqualsPinLaw" (16 : Nat) ({ cls := "java/lang/Long", name := "valueOf", desc := "(J)Ljava/lang/Long;" } : Jvm.MethodName)) ∈ tables_1 := List.mem_of_getElem? (i := 20) rfl
theorem m21 : (Jvm.Cond.static ({ cls := "java/lang/Long", name := "valueOf", desc := "(J)Ljava/lang/Long;" } : Jvm.MethodName)) ∈ tables_1 := List.mem_of_getElem? (i := 21) rfl
theorem m22 : (Jvm.Cond.initialized "java/lang/Long") ∈ tables_1 := List.mem_of_getElem? (i := 22) rfl
theorem m23 : (Jvm.Cond.code ({ cls := "java/lang/Long", name := "valueOf", desc := "(J)Ljava/lang/Long;" } : Jvm.MethodName) jdk_35_method_24_code (3 : Nat) (Option.some (Jvm.ClassFile.FieldType.object "java/lang/Long"))) ∈ tables_1 := List.mem_of_getElem? (i := 23) rfl
theorem m24 : (Jvm.Cond.constantLong "java/lang/Long" (230 : Nat) (-128 : Int64)) ∈ tables_1 := List.mem_of_getElem? (i := 24) rfl
theorem m25 : (Jvm.Cond.constantLong "java/lang/Long" (232 : Nat) (127 : Int64)) ∈ tables_1 := List.mem_of_getElem? (i := 25) rfl
theorem m26 : (Jvm.Cond.fieldLink "java/lang/Long" (234 : Nat) "java/lang/Long$LongCache" "cache" "[Ljava/lang/Long;") ∈ tables_1 := List.mem_of_getElem? (i := 26) rfl
theorem m28 : (Jvm.Cond.superclass "java/lang/Long" "java/lang/Number") ∈ tables_1 := List.mem_of_getElem? (i := 28) rfl
theorem m29 : (Jvm.Cond.superclass "java/lang/Number" "java/lang/Object") ∈ tables_1 := List.mem_of_getElem? (i := 29) rfl
theorem m30 : (Jvm.Cond.noSuperclass "java/lang/Object") ∈ tables_1 := List.mem_of_getElem? (i := 30) rfl
theorem m31 : (Jvm.Cond.classLink "java/lang/Long" (1 : Nat) "java/lang/Long") ∈ tables_1 := List.mem_of_getElem? (i := 31) rfl
theorem m32 : (Jvm.Cond.instantiable "java/lang/Long" (1 : Nat)) ∈ tables_1 := List.mem_of_getElem? (i := 32) rfl
theorem m33 : (Jvm.Cond.methodLink "java/lang/Long" (240 : Nat) ({ cls := "java/lang/Long", name := "<init>", desc := "(J)V" } : Jvm.MethodName)) ∈ tables_1 := List.mem_of_getElem? (i := 33) rfl
theorem m34 : (Jvm.Cond.instanceMethod ({ cls := "java/lang/Long", name := "<init>", desc := "(J)V" } : Jvm.MethodName)) ∈ tables_1 := List.mem_of_getElem? (i := 34) rfl
theorem m36 : (Jvm.Cond.code ({ cls := "java/lang/Long", name := "<init>", desc := "(J)V" } : Jvm.MethodName) jdk_35_method_26_code (3 : Nat) (Option.none : Option Jvm.ClassFile.FieldType)) ∈ tables_1 := List.mem_of_getElem? (i := 36) rfl
theorem m37 : (Jvm.Cond.methodLink "java/lang/Long" (270 : Nat) ({ cls := "java/lang/Number", name := "<init>", desc := "()V" } : Jvm.MethodName)) ∈ tables_1 := List.mem_of_getElem? (i := 37) rfl
theorem m38 : (Jvm.Cond.instanceMethod ({ cls := "java/lang/Number", name := "<init>", desc := "()V" } : Jvm.MethodName)) ∈ tables_1 := List.mem_of_getElem? (i := 38) rfl
theorem m41 : (Jvm.Cond.initialized "java/lang/Number") ∈ tables_1 := List.mem_of_getElem? (i := 41) rfl
theorem m42 : (Jvm.Cond.code ({ cls := "java/lang/Number", name := "<init>", desc := "()V" } : Jvm.MethodName) jdk_18_method_1_code (1 : Nat) (Option.none : Option Jvm.ClassFile.FieldType)) ∈ tables_1 := List.mem_of_getElem? (i := 42) rfl
theorem m43 : (Jvm.Cond.methodLink "java/lang/Number" (1 : Nat) ({ cls := "java/lang/Object", name := "<init>", desc := "()V" } : Jvm.MethodName)) ∈ tables_1 := List.mem_of_getElem? (i := 43) rfl
theorem m44 : (Jvm.Cond.fieldLink "java/lang/Long" (273 : Nat) "java/lang/Long" "value" "J") ∈ tables_1 := List.mem_of_getElem? (i := 44) rfl
theorem m45 : (Jvm.Cond.laysFinal "java/lang/Long" "java/lang/Long" "value" "J") ∈ tables_1 := List.mem_of_getElem? (i := 45) rfl
theorem pd_0 : parseMethodDescriptor "()V" = some ⟨[], none⟩ := by decide +kernel
theorem pd_1 : parseMethodDescriptor "(J)V" = some ⟨[.long], none⟩ := by decide +kernel
theorem pd_2 : parseMethodDescriptor "(JZ)V" = some ⟨[.long, .boolean], none⟩ := by decide +kernel
theorem pd_3 : parseMethodDescriptor "(Ljava/lang/Object;)Z" = some ⟨[(.object "java/lang/Object")], some .boolean⟩ := by decide +kernel
theorem pd_4 : parseMethodDescriptor "(J)Ljava/lang/Long;" = some ⟨[.long], some (.object "java/lang/Long")⟩ := by decide +kernel
theorem pn_0 : plainName "com/example/lease/lease/model/Enqueued" = true := by first | (simp [plainName, overriddenIn]; done) | decide +kernel
theorem pn_1 : plainName "java/lang/Number" = true := by first | (simp [plainName, overriddenIn]; done) | decide +kernel
theorem pn_2 : plainName "java/lang/Long" = true := by first | (simp [plainName, overriddenIn]; done) | decide +kernel
theorem pn_3 : plainName "com/example/lease/lease/model/EnqueuedEqualsPinLaw" = true := by first | (simp [plainName, overriddenIn]; done) | decide +kernel
theorem d1_0 : decode prog_30_method_1_code 0 = .ok (.aload_n 0, 1) := by decide +kernel
theorem d1_1 : decode prog_30_method_1_code 1 = .ok (.invokespecial 1, 3) := by decide +kernel
theorem d1_4 : decode prog_30_method_1_code 4 = .ok (.aload_n 0, 1) := by decide +kernel
theorem d1_5 : decode prog_30_method_1_code 5 = .ok (.lload_n 1, 1) := by decide +kernel
theorem d1_6 : decode prog_30_method_1_code 6 = .ok (.putfield 7, 3) := by decide +kernel
theorem d1_9 : decode prog_30_method_1_code 9 = .ok (.aload_n 0, 1) := by decide +kernel
theorem d1_10 : decode prog_30_method_1_code 10 = .ok (.iload_n 3, 1) := by decide +kernel
theorem d1_11 : decode prog_30_method_1_code 11 = .ok (.putfield 13, 3) := by decide +kernel
theorem d1_14 : decode prog_30_method_1_code 14 = .ok (.return_, 1) := by decide +kernel
theorem ef_1 (m : MethodId) (a : Addr) (q : Int64) (d : Int32) : entryFrame m #[(.ref a), (.long q), (.int d)] 4 = mkF m 0 #[.val (.ref a), .val (.long q), .second, .val (.int d)] [] := by first | (simp [entryFrame, mkF, argsToLocals, Value.category]; done) | rfl
def R1 : Room := ({ frames := 1, cells := 0, slots := 0, locals := 12 } : Room)
set_option maxRecDepth 65536 in
set_option maxHeartbeats 40000000 in
theorem rm1 (l : Launch) (Z : State) (a0 : Array Value) (hw : ∀ d ∈ tables_1, d.before a0 Z = true) (a : Addr) (q : Int64) (d : Int32) (h0 : Heap) (n0 : Nat) (hO : Old Z n0 h0)  (E_a : Exa Z h0 a "com/example/lease/lease/model/Enqueued") (ga : n0 ≤ a) (F_id : Fld Z h0 a "com/example/lease/lease/model/Enqueued" "id" "J" (.long (0 : Int64))) (F_duplicate : Fld Z h0 a "com/example/lease/lease/model/Enqueued" "duplicate" "Z" (.int (0 : Int32))) :
    Con l Z (⟨"com/example/lease/lease/model/Enqueued", "<init>", "(JZ)V"⟩ : MethodName) prog_30_method_1_code 4 none [] R1 R1.cells R1.slots #[(.ref a), (.long q), (.int d)] h0 (fun v h L => v = none ∧ Fr n0 L ∧ Keep h0 h [a] ∧ Fld Z h a "com/example/lease/lease/model/Enqueued" "id" "J" (.long q) ∧ Fld Z h a "com/example/lease/lease/model/Enqueued" "duplicate" "Z" (.int (nar .boolean d))) := by
  refine Con.intro (n0 := n0) (plainFor_of_name pn_0) (fun m => ef_1 m a q d) hO ?_
  intro p e s m below meth c T hs0 X0
  refine g_aloadN X0 d1_0 (pc' := 1) rfl rfl rfl ?_
  refine g_initO X0 (hw _ m6) (hw _ m7) (hw _ m8) rfl d1_1 (pc' := 4) rfl (by decide) (W := 0) rfl (by decide) (fun T1 X1 => ?_)
  refine g_aloadN X1 d1_4 (pc' := 5) rfl rfl rfl ?_
  refine g_lloadN X1 d1_5 (pc' := 6) rfl rfl ?_
  refine g_putF X1 (host := "") (Or.inl (hw _ m9)) Via.refl F_id E_a (Or.inr ⟨(hw _ m10), rfl, rfl⟩) (hw _ m1) (ty := .long) (by decide) rfl rfl ga d1_6 (pc' := 9) rfl (fun T2 h2 X2 W2 => ?_)
  have F2 := F_id.same W2
  refine g_aloadN X2 d1_9 (pc' := 10) rfl rfl rfl ?_
  refine g_iloadN X2 d1_10 (pc' := 11) rfl rfl ?_
  have f3 := (F_duplicate.other W2 (Or.inr (slot_ne (Or.inr (hw _ m12)) (Or.inr (hw _ m10)) (by decide) (t := .boolean) (t' := .long) (by decide) (by decide))))
  have f4 := (E_a.wr W2)
  refine g_putFN X2 (hw _ m11) Via.refl f3 f4 (Or.inr ⟨(hw _ m12), rfl, rfl⟩) (hw _ m1) (ty := .boolean) (v' := (.int (nar .boolean d))) (by decide) rfl (fits_nar_bool _) ga d1_11 (pc' := 14) rfl (fun T5 h5 X5 W5 => ?_)
  have F5 := f3.same W5
  have k6 := (Keep.refl h0 [a]).wr W2 (Or.inl (by simp))
  have k7 := k6.wr W5 (Or.inl (by simp))
  have f8 := (F2.other W5 (Or.inr (slot_ne (Or.inr (hw _ m10)) (Or.inr (hw _ m12)) (by decide) (t := .long) (t' := .boolean) (by decide) (by decide))))
  exact g_ret X5 rfl d1_14 (by decide) (by decide) ⟨rfl, X5.fr, k7, f8, F5⟩

theorem d3_0 : decode prog_30_method_4_code 0 = .ok (.aload_n 1, 1) := by decide +kernel
theorem d3_1 : decode prog_30_method_4_code 1 = .ok (.instanceof 8, 3) := by decide +kernel
theorem d3_4 : decode prog_30_method_4_code 4 = .ok (.ifCond .eq 35, 3) := by decide +kernel
theorem d3_7 : decode prog_30_method_4_code 7 = .ok (.aload_n 1, 1) := by decide +kernel
theorem d3_8 : decode prog_30_method_4_code 8 = .ok (.checkcast 8, 3) := by decide +kernel
theorem d3_11 : decode prog_30_method_4_code 11 = .ok (.astore_n 2, 1) := by decide +kernel
theorem d3_12 : decode prog_30_method_4_code 12 = .ok (.aload_n 0, 1) := by decide +kernel
theorem d3_13 : decode prog_30_method_4_code 13 = .ok (.getfield 7, 3) := by decide +kernel
theorem d3_16 : decode prog_30_method_4_code 16 = .ok (.aload_n 2, 1) := by decide +kernel
theorem d3_17 : decode prog_30_method_4_code 17 = .ok (.getfield 7, 3) := by decide +kernel
theorem d3_20 : decode prog_30_method_4_code 20 = .ok (.lcmp, 1) := by decide +kernel
theorem d3_21 : decode prog_30_method_4_code 21 = .ok (.ifCond .ne 18, 3) := by decide +kernel
theorem d3_24 : decode prog_30_method_4_code 24 = .ok (.aload_n 0, 1) := by decide +kernel
theorem d3_25 : decode prog_30_method_4_code 25 = .ok (.getfield 13, 3) := by decide +kernel
theorem d3_28 : decode prog_30_method_4_code 28 = .ok (.aload_n 2, 1) := by decide +kernel
theorem d3_29 : decode prog_30_method_4_code 29 = .ok (.getfield 13, 3) := by decide +kernel
theorem d3_32 : decode prog_30_method_4_code 32 = .ok (.if_icmp .ne 7, 3) := by decide +kernel
theorem d3_35 : decode prog_30_method_4_code 35 = .ok (.iconst 1, 1) := by decide +kernel
theorem d3_36 : decode prog_30_method_4_code 36 = .ok (.goto 4, 3) := by decide +kernel
theorem d3_39 : decode prog_30_method_4_code 39 = .ok (.iconst 0, 1) := by decide +kernel
theorem d3_40 : decode prog_30_method_4_code 40 = .ok (.ireturn, 1) := by decide +kernel
theorem ef_3 (m : MethodId) (a : Addr) (b : Addr) : entryFrame m #[(.ref a), (.ref b)] 3 = mkF m 0 #[.val (.ref a), .val (.ref b), .unset] [] := by first | (simp [entryFrame, mkF, argsToLocals, Value.category]; done) | rfl
def R3 : Room := ({ frames := 0, cells := 0, slots := 0, locals := 0 } : Room)
set_option maxRecDepth 65536 in
set_option maxHeartbeats 40000000 in
theorem rm3 (l : Launch) (Z : State) (a0 : Array Value) (hw : ∀ d ∈ tables_1, d.before a0 Z = true) (a : Addr) (b : Addr) (h0 : Heap) (n0 : Nat) (hO : Old Z n0 h0) (q q' : Int64) (d d' : Int32) (F_a : Fld Z h0 a "com/example/lease/lease/model/Enqueued" "id" "J" (.long q)) (G_a : Fld Z h0 a "com/example/lease/lease/model/Enqueued" "duplicate" "Z" (.int d)) (F_b : Fld Z h0 b "com/example/lease/lease/model/Enqueued" "id" "J" (.long q')) (G_b : Fld Z h0 b "com/example/lease/lease/model/Enqueued" "duplicate" "Z" (.int d')) (E_b : Exa Z h0 b "com/example/lease/lease/model/Enqueued") :
    Con l Z (⟨"com/example/lease/lease/model/Enqueued", "equals", "(Ljava/lang/Object;)Z"⟩ : MethodName) prog_30_method_4_code 3 (some .boolean) [] R3 R3.cells R3.slots #[(.ref a), (.ref b)] h0 (fun v h L => ∃ z : Int32, v = some (.int z) ∧ (((q = q' ∧ d = d') ∧ z = 1) ∨ (¬ (q = q' ∧ d = d') ∧ z = 0)) ∧ h0 = h ∧ L = []) := by
  refine Con.intro (n0 := n0) (plainFor_of_name pn_0) (fun m => ef_3 m a b) hO ?_
  intro p e s m below meth c T hs0 X0
  refine g_aloadN X0 d3_0 (pc' := 1) rfl rfl rfl ?_
  refine g_inst X0 (hw _ m18) (Ins.self E_b) d3_1 (pc' := 4) rfl (fun T9 X9 => ?_)
  refine g_if_eq_f X9 d3_4 (pc' := 7) rfl (by decide) ?_
  refine g_aloadN X9 d3_7 (pc' := 8) rfl rfl rfl ?_
  refine g_cast X9 (hw _ m18) (Ins.self E_b) d3_8 (pc' := 11) rfl (fun T10 X10 => ?_)
  refine g_astoreN X10 d3_11 (pc' := 12) rfl rfl (L' := #[.val (.ref a), .val (.ref b), .val (.ref b)]) rfl ?_
  refine g_aloadN X10 d3_12 (pc' := 13) rfl rfl rfl ?_
  refine g_getF X10 (host := "") (Or.inl (hw _ m9)) Via.refl F_a d3_13 (pc' := 16) rfl (fun T11 X11 => ?_)
  refine g_aloadN X11 d3_16 (pc' := 17) rfl rfl rfl ?_
  refine g_getF X11 (host := "") (Or.inl (hw _ m9)) Via.refl F_b d3_17 (pc' := 20) rfl (fun T12 X12 => ?_)
  refine g_lcmp_ne X12 d3_20 d3_21 (pt := 39) (by decide) (pc' := 24) rfl (fun hc21 => ?_) (fun hc21 => ?_)
  · refine g_iconst X12 d3_39 (pc' := 40) rfl (v := (0 : Int32)) rfl ?_
    exact g_retN X12 (Or.inl rfl) rfl d3_40 (by decide) (by decide) ⟨_, rfl, Or.inr ⟨fun z => by first | exact absurd z.1 hc21 | exact absurd z.2 hc32, rfl⟩, rfl, rfl⟩
  · refine g_aloadN X12 d3_24 (pc' := 25) rfl rfl rfl ?_
    refine g_getF X12 (host := "") (Or.inl (hw _ m11)) Via.refl G_a d3_25 (pc' := 28) rfl (fun T13 X13 => ?_)
    refine g_aloadN X13 d3_28 (pc' := 29) rfl rfl rfl ?_
    refine g_getF X13 (host := "") (Or.inl (hw _ m11)) Via.refl G_b d3_29 (pc' := 32) rfl (fun T14 X14 => ?_)
    refine g_icmp_ne X14 d3_32 (pt := 39) (by decide) (pc' := 35) rfl (fun hc32 => ?_) (fun hc32 => ?_)
    · refine g_iconst X14 d3_39 (pc' := 40) rfl (v := (0 : Int32)) rfl ?_
      exact g_retN X14 (Or.inl rfl) rfl d3_40 (by decide) (by decide) ⟨_, rfl, Or.inr ⟨fun z => by first | exact absurd z.1 hc21 | exact absurd z.2 hc32, rfl⟩, rfl, rfl⟩
    · refine g_iconst X14 d3_35 (pc' := 36) rfl (v := (1 : Int32)) rfl ?_
      refine g_goto X14 d3_36 (pt := 40) (by decide) ?_
      exact g_retN X14 (Or.inl rfl) rfl d3_40 (by decide) (by decide) ⟨_, rfl, Or.inl ⟨⟨hc21, hc32⟩, rfl⟩, rfl, rfl⟩


theorem ef_3n (m : MethodId) (a : Addr) : entryFrame m #[(.ref a), .null] 3 = mkF m 0 #[.val (.ref a), .val .null, .unset] [] := by first | (simp [entryFrame, mkF, argsToLocals, Value.category]; done) | rfl
def R3n : Room := ({ frames := 0, cells := 0, slots := 0, locals := 0 } : Room)
set_option maxRecDepth 65536 in
set_option maxHeartbeats 40000000 in
theorem rm3n (l : Launch) (Z : State) (a0 : Array Value) (hw : ∀ d ∈ tables_1, d.before a0 Z = true) (a : Addr) (h0 : Heap) (n0 : Nat) (hO : Old Z n0 h0)  :
    Con l Z (⟨"com/example/lease/lease/model/Enqueued", "equals", "(Ljava/lang/Object;)Z"⟩ : MethodName) prog_30_method_4_code 3 (some .boolean) [] R3n R3n.cells R3n.slots #[(.ref a), .null] h0 (fun v h L => v = some (.int 0) ∧ h0 = h ∧ L = []) := by
  refine Con.intro (n0 := n0) (plainFor_of_name pn_0) (fun m => ef_3n m a) hO ?_
  intro p e s m below meth c T hs0 X0
  refine g_aloadN X0 d3_0 (pc' := 1) rfl rfl rfl ?_
  refine g_instNull X0 d3_1 (pc' := 4) rfl ?_
  refine g_if_eq_t X0 d3_4 (pt := 39) (by decide) (by decide) ?_
  refine g_iconst X0 d3_39 (pc' := 40) rfl (v := (0 : Int32)) rfl ?_
  exact g_retN X0 (Or.inl rfl) rfl d3_40 (by decide) (by decide) ⟨rfl, rfl, rfl⟩

/-- a Long is no Enqueued: its superclasses are Number and Object -/
theorem own_notEnq {Z : State} {a0 : Array Value} {h : Heap} {b : Addr} (hw : ∀ d ∈ tables_1, d.before a0 Z = true) (E : Exa Z h b "java/lang/Long") : Ins Z h b "com/example/lease/lease/model/Enqueued" false := by
  obtain ⟨cell, k, h1, h2, h3, h4, -⟩ := E
  obtain ⟨cE, kE, e1, e2, e3, e4, -, -⟩ := Cond.instantiable_spec (show (Jvm.Cond.instantiable "com/example/lease/lease/model/Enqueued" (2 : Nat)).holds a0 Z none Z [] = true from (hw _ m1))
  obtain ⟨cN, kL, kN, n1, n2, n3, n4, n5, n6, n7⟩ := Cond.superclass_spec h2 (show (Jvm.Cond.superclass "java/lang/Long" "java/lang/Number").holds a0 Z none Z [] = true from (hw _ m28))
  obtain ⟨cO, kN', kO, o1, o2, o3, o4, o5, o6, o7⟩ := Cond.superclass_spec n1 (show (Jvm.Cond.superclass "java/lang/Number" "java/lang/Object").holds a0 Z none Z [] = true from (hw _ m29))
  have o8 := Cond.noSuperclass_root (show (Jvm.Cond.noSuperclass "java/lang/Object").holds a0 Z none Z [] = true from (hw _ m30)) cO kO o1 o3
  have ne : ∀ {n : String} {c : ClassId}, Z.vm.findClass n = some c → n ≠ "com/example/lease/lease/model/Enqueued" → (c == cE) = false := by
    intro n c hc hn
    rw [beq_eq_false_iff_ne]
    intro q
    subst q
    obtain ⟨k1, a1, a2⟩ := Vm.findClass_spec hc
    obtain ⟨k2, b1, b2⟩ := Vm.findClass_spec e1
    cases a1.symm.trans b1
    exact hn (a2.symm.trans b2)
  have q1 := ne h2 (by decide)
  have q2 := ne n1 (by decide)
  have q3 := ne o1 (by decide)
  cases o2.symm.trans n3
  have kEi : kE.isInterface = false := by
    cases hq : kE.isInterface with
    | false => rfl
    | true => rw [hq] at e4; simp at e4
  have sub : Z.vm.isSubclass cell.cls cE = false := by
    have s0 : ∀ f, Z.vm.isSubclassAux f cO cE = false := by
      intro f
      cases f with
      | zero => rfl
      | succ f => simp [Vm.isSubclassAux, q3, o3, o8]
    have s1 : ∀ f, Z.vm.isSubclassAux f cN cE = false := by
      intro f
      cases f with
      | zero => rfl
      | succ f => simp [Vm.isSubclassAux, q2, n3, o4, s0]
    have s2 : ∀ f, Z.vm.isSubclassAux f cell.cls cE = false := by
      intro f
      cases f with
      | zero => rfl
      | succ f => simp [Vm.isSubclassAux, q1, n2, n4, s1]
    exact s2 _
  refine ⟨cell, cE, h1, e1, ?_⟩
  have : Z.vm.assignable cell.cls cE = false := by
    simp [Vm.assignable, Vm.assignableAux, q1, n2, e2, n5, e3, kEi, sub]
  rw [this]; simp

theorem ef_3l (m : MethodId) (a : Addr) (b : Addr) : entryFrame m #[(.ref a), (.ref b)] 3 = mkF m 0 #[.val (.ref a), .val (.ref b), .unset] [] := by first | (simp [entryFrame, mkF, argsToLocals, Value.category]; done) | rfl
def R3l : Room := ({ frames := 0, cells := 0, slots := 0, locals := 0 } : Room)
set_option maxRecDepth 65536 in
set_option maxHeartbeats 40000000 in
theorem rm3l (l : Launch) (Z : State) (a0 : Array Value) (hw : ∀ d ∈ tables_1, d.before a0 Z = true) (a : Addr) (b : Addr) (h0 : Heap) (n0 : Nat) (hO : Old Z n0 h0) (E_b : Exa Z h0 b "java/lang/Long") :
    Con l Z (⟨"com/example/lease/lease/model/Enqueued", "equals", "(Ljava/lang/Object;)Z"⟩ : MethodName) prog_30_method_4_code 3 (some .boolean) [] R3l R3l.cells R3l.slots #[(.ref a), (.ref b)] h0 (fun v h L => v = some (.int 0) ∧ h0 = h ∧ L = []) := by
  refine Con.intro (n0 := n0) (plainFor_of_name pn_0) (fun m => ef_3l m a b) hO ?_
  intro p e s m below meth c T hs0 X0
  refine g_aloadN X0 d3_0 (pc' := 1) rfl rfl rfl ?_
  refine g_instN X0 (hw _ m18) (hs0 ▸ own_notEnq hw E_b) (hs0 ▸ E_b) d3_1 (pc' := 4) rfl (fun T15 X15 => ?_)
  refine g_if_eq_t X15 d3_4 (pt := 39) (by decide) (by decide) ?_
  refine g_iconst X15 d3_39 (pc' := 40) rfl (v := (0 : Int32)) rfl ?_
  exact g_retN X15 (Or.inl rfl) rfl d3_40 (by decide) (by decide) ⟨rfl, rfl, rfl⟩

theorem d6_0 : decode jdk_18_method_1_code 0 = .ok (.aload_n 0, 1) := by decide +kernel
theorem d6_1 : decode jdk_18_method_1_code 1 = .ok (.invokespecial 1, 3) := by decide +kernel
theorem d6_4 : decode jdk_18_method_1_code 4 = .ok (.return_, 1) := by decide +kernel
theorem ef_6 (m : MethodId) (a : Addr) : entryFrame m #[(.ref a)] 1 = mkF m 0 #[.val (.ref a)] [] := by first | (simp [entryFrame, mkF, argsToLocals, Value.category]; done) | rfl
def R6 : Room := ({ frames := 1, cells := 0, slots := 0, locals := 12 } : Room)
set_option maxRecDepth 65536 in
set_option maxHeartbeats 40000000 in
theorem rm6 (l : Launch) (Z : State) (a0 : Array Value) (hw : ∀ d ∈ tables_1, d.before a0 Z = true) (a : Addr) (h0 : Heap) (n0 : Nat) (hO : Old Z n0 h0)  :
    Con l Z (⟨"java/lang/Number", "<init>", "()V"⟩ : MethodName) jdk_18_method_1_code 1 none [] R6 R6.cells R6.slots #[(.ref a)] h0 (fun v h L => v = none ∧ h0 = h ∧ L = []) := by
  refine Con.intro (n0 := n0) (plainFor_of_name pn_1) (fun m => ef_6 m a) hO ?_
  intro p e s m below meth c T hs0 X0
  refine g_aloadN X0 d6_0 (pc' := 1) rfl rfl rfl ?_
  refine g_initO X0 (hw _ m43) (hw _ m7) (hw _ m8) rfl d6_1 (pc' := 4) rfl (by decide) (W := 0) rfl (by decide) (fun T16 X16 => ?_)
  exact g_ret X16 rfl d6_4 (by decide) (by decide) ⟨rfl, rfl, rfl⟩

theorem d5_0 : decode jdk_35_method_26_code 0 = .ok (.aload_n 0, 1) := by decide +kernel
theorem d5_1 : decode jdk_35_method_26_code 1 = .ok (.invokespecial 270, 3) := by decide +kernel
theorem d5_4 : decode jdk_35_method_26_code 4 = .ok (.aload_n 0, 1) := by decide +kernel
theorem d5_5 : decode jdk_35_method_26_code 5 = .ok (.lload_n 1, 1) := by decide +kernel
theorem d5_6 : decode jdk_35_method_26_code 6 = .ok (.putfield 273, 3) := by decide +kernel
theorem d5_9 : decode jdk_35_method_26_code 9 = .ok (.return_, 1) := by decide +kernel
theorem ef_5 (m : MethodId) (a : Addr) (q : Int64) : entryFrame m #[(.ref a), (.long q)] 3 = mkF m 0 #[.val (.ref a), .val (.long q), .second] [] := by first | (simp [entryFrame, mkF, argsToLocals, Value.category]; done) | rfl
def R5 : Room := ({ frames := 2, cells := 0, slots := 0, locals := 24 } : Room)
set_option maxRecDepth 65536 in
set_option maxHeartbeats 40000000 in
theorem rm5 (l : Launch) (Z : State) (a0 : Array Value) (hw : ∀ d ∈ tables_1, d.before a0 Z = true) (a : Addr) (q : Int64) (h0 : Heap) (n0 : Nat) (hO : Old Z n0 h0)  (E_a : Exa Z h0 a "java/lang/Long") (ga : n0 ≤ a) (F_value : Fld Z h0 a "java/lang/Long" "value" "J" (.long (0 : Int64))) :
    Con l Z (⟨"java/lang/Long", "<init>", "(J)V"⟩ : MethodName) jdk_35_method_26_code 3 none [] R5 R5.cells R5.slots #[(.ref a), (.long q)] h0 (fun v h L => v = none ∧ Fr n0 L ∧ Keep h0 h [a] ∧ Fld Z h a "java/lang/Long" "value" "J" (.long q)) := by
  refine Con.intro (n0 := n0) (plainFor_of_name pn_2) (fun m => ef_5 m a q) hO ?_
  intro p e s m below meth c T hs0 X0
  refine g_aloadN X0 d5_0 (pc' := 1) rfl rfl rfl ?_
  refine g_callI X0 (y := (⟨"java/lang/Number", "<init>", "()V"⟩ : MethodName)) (a := a) [] rfl (hw _ m37) (hw _ m38) rfl (hw _ m42) (hw _ m41) (rm6 l Z a0 hw a h0 n0 X0.old) (by decide) (by decide) (by decide) (by decide) (by decide) rfl pd_0 rfl (rest := []) rfl (W := 0) rfl d5_1 (pc' := 4) rfl ?_
  rintro _ T17 _ _ Y17 ⟨rfl, rfl, rfl⟩
  have X17 := Y17 X0.old (Fr.nil _)
  show Go p e below _ (State.setTop _ (mkF m 4 #[.val (.ref a), .val (.long q), .second] []))
  refine g_aloadN X17 d5_4 (pc' := 5) rfl rfl rfl ?_
  refine g_lloadN X17 d5_5 (pc' := 6) rfl rfl ?_
  refine g_putF X17 (host := "") (Or.inl (hw _ m44)) Via.refl F_value E_a (Or.inr ⟨(hw _ m45), rfl, rfl⟩) (hw _ m32) (ty := .long) (by decide) rfl rfl ga d5_6 (pc' := 9) rfl (fun T18 h18 X18 W18 => ?_)
  have F18 := F_value.same W18
  have k19 := (Keep.refl h0 [a]).wr W18 (Or.inl (by simp))
  exact g_ret X18 rfl d5_9 (by decide) (by decide) ⟨rfl, X18.fr, k19, F18⟩

theorem own_idx {q : Int64} (h1 : ¬ q < (-128 : Int64)) (h2 : ¬ (127 : Int64) < q) : (q.toInt32 + (128 : Int32)).toInt = ((q.toInt + 128).toNat : Int) ∧ (q.toInt + 128).toNat < 256 := by
  rw [Int64.lt_iff_toInt_lt] at h1 h2
  have e1 : (-128 : Int64).toInt = -128 := rfl
  have e2 : (127 : Int64).toInt = 127 := rfl
  have e3 : q.toInt32.toInt = q.toInt := Jvm.Kit.i32_of_i64 (by omega) (by omega)
  have e4 : (128 : Int32).toInt = 128 := rfl
  rw [Jvm.Kit.i32_add (by omega) (by omega), e3, e4]
  omega
theorem d4_0 : decode jdk_35_method_24_code 0 = .ok (.sipush 128, 3) := by decide +kernel
theorem d4_3 : decode jdk_35_method_24_code 3 = .ok (.istore_n 2, 1) := by decide +kernel
theorem d4_4 : decode jdk_35_method_24_code 4 = .ok (.lload_n 0, 1) := by decide +kernel
theorem d4_5 : decode jdk_35_method_24_code 5 = .ok (.ldc2_w 230, 3) := by decide +kernel
theorem d4_8 : decode jdk_35_method_24_code 8 = .ok (.lcmp, 1) := by decide +kernel
theorem d4_9 : decode jdk_35_method_24_code 9 = .ok (.ifCond .lt 22, 3) := by decide +kernel
theorem d4_12 : decode jdk_35_method_24_code 12 = .ok (.lload_n 0, 1) := by decide +kernel
theorem d4_13 : decode jdk_35_method_24_code 13 = .ok (.ldc2_w 232, 3) := by decide +kernel
theorem d4_16 : decode jdk_35_method_24_code 16 = .ok (.lcmp, 1) := by decide +kernel
theorem d4_17 : decode jdk_35_method_24_code 17 = .ok (.ifCond .gt 14, 3) := by decide +kernel
theorem d4_20 : decode jdk_35_method_24_code 20 = .ok (.getstatic 234, 3) := by decide +kernel
theorem d4_23 : decode jdk_35_method_24_code 23 = .ok (.lload_n 0, 1) := by decide +kernel
theorem d4_24 : decode jdk_35_method_24_code 24 = .ok (.l2i, 1) := by decide +kernel
theorem d4_25 : decode jdk_35_method_24_code 25 = .ok (.sipush 128, 3) := by decide +kernel
theorem d4_28 : decode jdk_35_method_24_code 28 = .ok (.iadd, 1) := by decide +kernel
theorem d4_29 : decode jdk_35_method_24_code 29 = .ok (.aaload, 1) := by decide +kernel
theorem d4_30 : decode jdk_35_method_24_code 30 = .ok (.areturn, 1) := by decide +kernel
theorem d4_31 : decode jdk_35_method_24_code 31 = .ok (.new 1, 3) := by decide +kernel
theorem d4_34 : decode jdk_35_method_24_code 34 = .ok (.dup, 1) := by decide +kernel
theorem d4_35 : decode jdk_35_method_24_code 35 = .ok (.lload_n 0, 1) := by decide +kernel
theorem d4_36 : decode jdk_35_method_24_code 36 = .ok (.invokespecial 240, 3) := by decide +kernel
theorem d4_39 : decode jdk_35_method_24_code 39 = .ok (.areturn, 1) := by decide +kernel
theorem ef_4 (m : MethodId) (q : Int64) : entryFrame m #[(.long q)] 3 = mkF m 0 #[.val (.long q), .second, .unset] [] := by first | (simp [entryFrame, mkF, argsToLocals, Value.category]; done) | rfl
def R4 : Room := ({ frames := 3, cells := 1, slots := 1, locals := 39 } : Room)
set_option maxRecDepth 65536 in
set_option maxHeartbeats 40000000 in
theorem rm4 (l : Launch) (Z : State) (a0 : Array Value) (hw : ∀ d ∈ tables_1, d.before a0 Z = true) (q : Int64) (h0 : Heap) (n0 : Nat) (hO : Old Z n0 h0) (ca : Addr) (vs : List Value) (Sq : Sta Z Z.heap "java/lang/Long$LongCache" "cache" "[Ljava/lang/Long;" (.ref ca)) (Aq : Arx Z Z.heap ca (.object "java/lang/Long") vs) (hel : ∀ i, i < 256 → ∃ r, vs[i]? = some (.ref r) ∧ Exa Z Z.heap r "java/lang/Long") :
    Con l Z (⟨"java/lang/Long", "valueOf", "(J)Ljava/lang/Long;"⟩ : MethodName) jdk_35_method_24_code 3 (some (.object "java/lang/Long")) [] R4 R4.cells R4.slots #[(.long q)] h0 (fun v h L => ∃ r : Addr, v = some (.ref r) ∧ Fr n0 L ∧ Keep h0 h [] ∧ Exa Z h r "java/lang/Long") := by
  refine Con.intro (n0 := n0) (plainFor_of_name pn_2) (fun m => ef_4 m q) hO ?_
  intro p e s m below meth c T hs0 X0
  refine g_sipush X0 d4_0 (pc' := 3) rfl (v := (128 : Int32)) rfl ?_
  refine g_istoreN X0 d4_3 (pc' := 4) rfl (L' := #[.val (.long q), .second, .val (.int (128 : Int32))]) rfl ?_
  refine g_lloadN X0 d4_4 (pc' := 5) rfl rfl ?_
  refine g_ldc2 X0 (hw _ m24) d4_5 (pc' := 8) rfl ?_
  refine g_lcmp_lt X0 d4_8 d4_9 (pt := 31) (by decide) (pc' := 12) rfl (fun hc9 => ?_) (fun hc9 => ?_)
  · refine g_new X0 (hw _ m31) (hw _ m32) (hw _ m22) d4_31 (pc' := 34) rfl (by decide) (by decide) (fun T20 h20 b20 X20 g20 E20 A20 D20 l20 => ?_)
    have F20_value : Fld Z h20 b20 "java/lang/Long" "value" "J" (.long (0 : Int64)) := D20 (Or.inr (hw _ m45)) (ty := .long) (by decide)
    refine g_dup X20 d4_34 (pc' := 35) rfl rfl ?_
    refine g_lloadN X20 d4_35 (pc' := 36) rfl rfl ?_
    refine g_callI X20 (y := (⟨"java/lang/Long", "<init>", "(J)V"⟩ : MethodName)) (a := b20) [(.long q)] rfl (hw _ m33) (hw _ m34) rfl (hw _ m36) (hw _ m22) (rm5 l Z a0 hw b20 q  h20 n0 X20.old A20 l20 F20_value) (by decide) (by decide) (by decide) (by decide) (by decide) rfl pd_1 rfl (rest := [(.ref b20)]) rfl (W := 1) rfl d4_36 (pc' := 39) rfl ?_
    rintro _ T21 h21 L21 Y21 ⟨rfl, N21, K21, F21_value⟩
    have X21 := Y21 (X20.old.keep K21 (allS l20 all0)) N21
    show Go p e below _ (State.setTop _ (mkF m 39 #[.val (.long q), .second, .val (.int (128 : Int32))] [(.ref b20)]))
    have f22 := (A20.keep K21)
    have k23 := (Keep.refl h0 []).ext E20
    have k24 := k23.trans K21 (allS (Or.inr (Nat.le_trans (Keep.refl h0 []).1 (Nat.le_of_eq g20.symm))) all0)
    exact g_retA X21 rfl rfl rfl d4_39 (by decide) (by decide) ⟨_, rfl, X21.fr, k24, f22⟩
  · refine g_lloadN X0 d4_12 (pc' := 13) rfl rfl ?_
    refine g_ldc2 X0 (hw _ m25) d4_13 (pc' := 16) rfl ?_
    refine g_lcmp_gt X0 d4_16 d4_17 (pt := 31) (by decide) (pc' := 20) rfl (fun hc17 => ?_) (fun hc17 => ?_)
    · refine g_new X0 (hw _ m31) (hw _ m32) (hw _ m22) d4_31 (pc' := 34) rfl (by decide) (by decide) (fun T25 h25 b25 X25 g25 E25 A25 D25 l25 => ?_)
      have F25_value : Fld Z h25 b25 "java/lang/Long" "value" "J" (.long (0 : Int64)) := D25 (Or.inr (hw _ m45)) (ty := .long) (by decide)
      refine g_dup X25 d4_34 (pc' := 35) rfl rfl ?_
      refine g_lloadN X25 d4_35 (pc' := 36) rfl rfl ?_
      refine g_callI X25 (y := (⟨"java/lang/Long", "<init>", "(J)V"⟩ : MethodName)) (a := b25) [(.long q)] rfl (hw _ m33) (hw _ m34) rfl (hw _ m36) (hw _ m22) (rm5 l Z a0 hw b25 q  h25 n0 X25.old A25 l25 F25_value) (by decide) (by decide) (by decide) (by decide) (by decide) rfl pd_1 rfl (rest := [(.ref b25)]) rfl (W := 1) rfl d4_36 (pc' := 39) rfl ?_
      rintro _ T26 h26 L26 Y26 ⟨rfl, N26, K26, F26_value⟩
      have X26 := Y26 (X25.old.keep K26 (allS l25 all0)) N26
      show Go p e below _ (State.setTop _ (mkF m 39 #[.val (.long q), .second, .val (.int (128 : Int32))] [(.ref b25)]))
      have f27 := (A25.keep K26)
      have k28 := (Keep.refl h0 []).ext E25
      have k29 := k28.trans K26 (allS (Or.inr (Nat.le_trans (Keep.refl h0 []).1 (Nat.le_of_eq g25.symm))) all0)
      exact g_retA X26 rfl rfl rfl d4_39 (by decide) (by decide) ⟨_, rfl, X26.fr, k29, f27⟩
    · refine g_getS X0 (hw _ m26) (Sq.ext X0.old.2) d4_20 (pc' := 23) rfl (fun T30 X30 => ?_)
      refine g_lloadN X30 d4_23 (pc' := 24) rfl rfl ?_
      refine g_l2i X30 d4_24 (pc' := 25) rfl ?_
      refine g_sipush X30 d4_25 (pc' := 28) rfl (v := (128 : Int32)) rfl ?_
      refine g_iadd X30 d4_28 (pc' := 29) rfl ?_
      obtain ⟨r, hr, Er⟩ := hel _ (own_idx hc9 hc17).2
      refine g_aaload X30 (i := (q.toInt + 128).toNat) (v := (.ref r)) (Aq.ext X30.old.2) rfl (own_idx hc9 hc17).1 hr d4_29 (pc' := 30) rfl ?_
      exact g_retA X30 rfl rfl rfl d4_30 (by decide) (by decide) ⟨_, rfl, X30.fr, (Keep.refl _ _), (Er.ext X30.old.2)⟩

theorem own_same {P P' : Prop} {z e : Int32} (h : (P ∧ z = 1) ∨ (¬ P ∧ z = 0)) (h' : (P' ∧ e = 1) ∨ (¬ P' ∧ e = 0)) (q : P ↔ P') : z = e := by
  rcases h with ⟨a, rfl⟩ | ⟨a, rfl⟩ <;> rcases h' with ⟨b, rfl⟩ | ⟨b, rfl⟩
  · rfl
  · exact absurd (q.mp a) b
  · exact absurd (q.mpr b) a
  · rfl
theorem ef_0 (m : MethodId) (a : Int64) (b : Int64) (f : Int32) : entryFrame m #[(.long a), (.long b), (.int f)] maxLocals = mkF m 0 #[.val (.long a), .second, .val (.long b), .second, .val (.int f), .unset, .unset, .unset, .unset, .unset, .unset, .unset, .unset, .unset, .unset, .unset, .unset] [] := by first | (simp [entryFrame, mkF, argsToLocals, Value.category, maxLocals]; done) | rfl
set_option maxRecDepth 65536 in
set_option maxHeartbeats 40000000 in
theorem rm0 (l : Launch) (Z : State) (a0 : Array Value) (hw : ∀ d ∈ tables_1, d.before a0 Z = true) (ws : List Jvm.Cond) (a : Int64) (b : Int64) (f : Int32) (h0 : Heap) (n0 : Nat) (hO : Old Z n0 h0) (ca : Addr) (vs : List Value) (Sq : Sta Z Z.heap "java/lang/Long$LongCache" "cache" "[Ljava/lang/Long;" (.ref ca)) (Aq : Arx Z Z.heap ca (.object "java/lang/Long") vs) (hel : ∀ i, i < 256 → ∃ r, vs[i]? = some (.ref r) ∧ Exa Z Z.heap r "java/lang/Long") :
    Con l Z x code maxLocals ret ws room_1 16 128 #[(.long a), (.long b), (.int f)] h0 (fun v h L => v = some (.int 1) ∧ Fr n0 L) := by
  refine Con.intro (n0 := n0) (plainFor_of_name pn_3) (fun m => ef_0 m a b f) hO ?_
  intro p e s m below meth c T hs0 X0
  have J40 : ∀ (d1 d2 : Int32) (w : Int64), nar .boolean d1 = d1 → nar .boolean d2 = d2 → Go p e below (Kq s 16 128 (fun v h L => v = some (.int 1) ∧ Fr n0 L)) (T.setTop (mkF m 40 #[.val (.long a), .second, .val (.long b), .second, .val (.int f), .val (.int d1), .val (.int d2), .unset, .unset, .unset, .unset, .unset, .unset, .unset, .unset, .unset, .unset] [.long w])) := by
    intro d1 d2 w hd1 hd2
    refine g_lstore X0 at_40 (pc' := 42) rfl (L' := #[.val (.long a), .second, .val (.long b), .second, .val (.int f), .val (.int d1), .val (.int d2), .val (.long w), .second, .unset, .unset, .unset, .unset, .unset, .unset, .unset, .unset]) rfl ?_
    refine g_new X0 (hw _ m0) (hw _ m1) (hw _ m2) at_42 (pc' := 45) rfl (by decide) (by decide) (fun T31 h31 b31 X31 g31 E31 A31 D31 l31 => ?_)
    have F31_id : Fld Z h31 b31 "com/example/lease/lease/model/Enqueued" "id" "J" (.long (0 : Int64)) := D31 (Or.inr (hw _ m10)) (ty := .long) (by decide)
    have F31_duplicate : Fld Z h31 b31 "com/example/lease/lease/model/Enqueued" "duplicate" "Z" (.int (0 : Int32)) := D31 (Or.inr (hw _ m12)) (ty := .boolean) (by decide)
    refine g_dup X31 at_45 (pc' := 46) rfl rfl ?_
    refine g_lloadN X31 at_46 (pc' := 47) rfl rfl ?_
    refine g_iload X31 at_47 (pc' := 49) rfl rfl ?_
    refine g_callI X31 (y := (⟨"com/example/lease/lease/model/Enqueued", "<init>", "(JZ)V"⟩ : MethodName)) (a := b31) [(.long a), (.int d1)] rfl (hw _ m3) (hw _ m4) rfl (hw _ m5) (hw _ m2) (rm1 l Z a0 hw b31 a d1  h31 n0 X31.old A31 l31 F31_id F31_duplicate) (by decide) (by decide) (by decide) (by decide) (by decide) rfl pd_2 rfl (rest := [(.ref b31)]) rfl (W := 1) rfl at_49 (pc' := 52) rfl ?_
    rintro _ T32 h32 L32 Y32 ⟨rfl, N32, K32, F32_id, F32_duplicate⟩
    have X32 := Y32 (X31.old.keep K32 (allS l31 all0)) N32
    show Go p e below _ (State.setTop _ (mkF m 52 #[.val (.long a), .second, .val (.long b), .second, .val (.int f), .val (.int d1), .val (.int d2), .val (.long w), .second, .unset, .unset, .unset, .unset, .unset, .unset, .unset, .unset] [(.ref b31)]))
    refine g_astore X32 at_52 (pc' := 54) rfl rfl (L' := #[.val (.long a), .second, .val (.long b), .second, .val (.int f), .val (.int d1), .val (.int d2), .val (.long w), .second, .val (.ref b31), .unset, .unset, .unset, .unset, .unset, .unset, .unset]) rfl ?_
    refine g_new X32 (hw _ m0) (hw _ m1) (hw _ m2) at_54 (pc' := 57) rfl (by decide) (by decide) (fun T33 h33 b33 X33 g33 E33 A33 D33 l33 => ?_)
    have f35 := (A31.keep K32)
    have ne34 : b31 ≠ b33 := ne_new f35.lt g33
    have F33_id : Fld Z h33 b33 "com/example/lease/lease/model/Enqueued" "id" "J" (.long (0 : Int64)) := D33 (Or.inr (hw _ m10)) (ty := .long) (by decide)
    have F33_duplicate : Fld Z h33 b33 "com/example/lease/lease/model/Enqueued" "duplicate" "Z" (.int (0 : Int32)) := D33 (Or.inr (hw _ m12)) (ty := .boolean) (by decide)
    refine g_dup X33 at_57 (pc' := 58) rfl rfl ?_
    refine g_lload X33 at_58 (pc' := 60) rfl rfl ?_
    refine g_iload X33 at_60 (pc' := 62) rfl rfl ?_
    refine g_callI X33 (y := (⟨"com/example/lease/lease/model/Enqueued", "<init>", "(JZ)V"⟩ : MethodName)) (a := b33) [(.long w), (.int d2)] rfl (hw _ m3) (hw _ m4) rfl (hw _ m5) (hw _ m2) (rm1 l Z a0 hw b33 w d2  h33 n0 X33.old A33 l33 F33_id F33_duplicate) (by decide) (by decide) (by decide) (by decide) (by decide) rfl pd_2 rfl (rest := [(.ref b33)]) rfl (W := 1) rfl at_62 (pc' := 65) rfl ?_
    rintro _ T36 h36 L36 Y36 ⟨rfl, N36, K36, F36_id, F36_duplicate⟩
    have X36 := Y36 (X33.old.keep K36 (allS l33 all0)) N36
    show Go p e below _ (State.setTop _ (mkF m 65 #[.val (.long a), .second, .val (.long b), .second, .val (.int f), .val (.int d1), .val (.int d2), .val (.long w), .second, .val (.ref b31), .unset, .unset, .unset, .unset, .unset, .unset, .unset] [(.ref b33)]))
    refine g_astore X36 at_65 (pc' := 67) rfl rfl (L' := #[.val (.long a), .second, .val (.long b), .second, .val (.int f), .val (.int d1), .val (.int d2), .val (.long w), .second, .val (.ref b31), .val (.ref b33), .unset, .unset, .unset, .unset, .unset, .unset]) rfl ?_
    have J86 : ∀ z : Int32, (((a = w ∧ d1 = d2) ∧ z = 1) ∨ (¬ (a = w ∧ d1 = d2) ∧ z = 0)) → Go p e below (Kq s 16 128 (fun v h L => v = some (.int 1) ∧ Fr n0 L)) (T36.setTop (mkF m 86 #[.val (.long a), .second, .val (.long b), .second, .val (.int f), .val (.int d1), .val (.int d2), .val (.long w), .second, .val (.ref b31), .val (.ref b33), .unset, .unset, .unset, .unset, .unset, .unset] [.int z])) := by
      intro z hz
      refine g_istore X36 at_86 (pc' := 88) rfl (L' := #[.val (.long a), .second, .val (.long b), .second, .val (.int f), .val (.int d1), .val (.int d2), .val (.long w), .second, .val (.ref b31), .val (.ref b33), .val (.int z), .unset, .unset, .unset, .unset, .unset]) rfl ?_
      refine g_aload X36 at_88 (pc' := 90) rfl rfl rfl ?_
      refine g_aload X36 at_90 (pc' := 92) rfl rfl rfl ?_
      have f37 := ((F32_id.ext E33).keep K36 (nm1 ne34))
      have f38 := ((F32_duplicate.ext E33).keep K36 (nm1 ne34))
      have f39 := (A33.keep K36)
      have f41 := ((f35.ext E33).keep K36)
      refine g_callV X36 (y := (⟨"com/example/lease/lease/model/Enqueued", "equals", "(Ljava/lang/Object;)Z"⟩ : MethodName)) (z := (⟨"com/example/lease/lease/model/Enqueued", "equals", "(Ljava/lang/Object;)Z"⟩ : MethodName)) (a := b31) [(.ref b33)] (hw _ m13) (hw _ m14) (notFace_of_selects (args := #[]) (mvT X36.hZ (hw _ m16))) (hw _ m16) (hw _ m15) f41 (hw _ m17) (hw _ m2) (rm3 l Z a0 hw b31 b33 h36 n0 X36.old a w (nar .boolean d1) (nar .boolean d2) f37 f38 F36_id F36_duplicate f39) (by decide) (by decide) (by decide) (by decide) (by decide) rfl pd_3 rfl (rest := []) rfl (W := 0) rfl at_92 (pc' := 95) rfl ?_
      rintro _ T40 _ _ Y40 ⟨z40, rfl, r40, rfl, rfl⟩
      have X40 := Y40 X36.old (Fr.nil _)
      rw [hd1, hd2] at r40
      obtain rfl : z40 = z := own_same r40 hz Iff.rfl
      show Go p e below _ (State.setTop _ (mkF m 95 #[.val (.long a), .second, .val (.long b), .second, .val (.int f), .val (.int d1), .val (.int d2), .val (.long w), .second, .val (.ref b31), .val (.ref b33), .val (.int z40), .unset, .unset, .unset, .unset, .unset] [(.int z40)]))
      refine g_istore X40 at_95 (pc' := 97) rfl (L' := #[.val (.long a), .second, .val (.long b), .second, .val (.int f), .val (.int d1), .val (.int d2), .val (.long w), .second, .val (.ref b31), .val (.ref b33), .val (.int z40), .val (.int z40), .unset, .unset, .unset, .unset]) rfl ?_
      refine g_aload X40 at_97 (pc' := 99) rfl rfl rfl ?_
      refine g_aload X40 at_99 (pc' := 101) rfl rfl rfl ?_
      refine g_callV X40 (y := (⟨"com/example/lease/lease/model/Enqueued", "equals", "(Ljava/lang/Object;)Z"⟩ : MethodName)) (z := (⟨"com/example/lease/lease/model/Enqueued", "equals", "(Ljava/lang/Object;)Z"⟩ : MethodName)) (a := b33) [(.ref b31)] (hw _ m13) (hw _ m14) (notFace_of_selects (args := #[]) (mvT X40.hZ (hw _ m16))) (hw _ m16) (hw _ m15) f39 (hw _ m17) (hw _ m2) (rm3 l Z a0 hw b33 b31 h36 n0 X40.old w a (nar .boolean d2) (nar .boolean d1) F36_id F36_duplicate f37 f38 f41) (by decide) (by decide) (by decide) (by decide) (by decide) rfl pd_3 rfl (rest := []) rfl (W := 0) rfl at_101 (pc' := 104) rfl ?_
      rintro _ T42 _ _ Y42 ⟨z42, rfl, r42, rfl, rfl⟩
      have X42 := Y42 X40.old (Fr.nil _)
      rw [hd1, hd2] at r42
      obtain rfl : z42 = z40 := own_same r42 hz ⟨fun q => ⟨q.1.symm, q.2.symm⟩, fun q => ⟨q.1.symm, q.2.symm⟩⟩
      show Go p e below _ (State.setTop _ (mkF m 104 #[.val (.long a), .second, .val (.long b), .second, .val (.int f), .val (.int d1), .val (.int d2), .val (.long w), .second, .val (.ref b31), .val (.ref b33), .val (.int z42), .val (.int z42), .unset, .unset, .unset, .unset] [(.int z42)]))
      refine g_istore X42 at_104 (pc' := 106) rfl (L' := #[.val (.long a), .second, .val (.long b), .second, .val (.int f), .val (.int d1), .val (.int d2), .val (.long w), .second, .val (.ref b31), .val (.ref b33), .val (.int z42), .val (.int z42), .val (.int z42), .unset, .unset, .unset]) rfl ?_
      refine g_aload X42 at_106 (pc' := 108) rfl rfl rfl ?_
      refine g_aload X42 at_108 (pc' := 110) rfl rfl rfl ?_
      refine g_callV X42 (y := (⟨"com/example/lease/lease/model/Enqueued", "equals", "(Ljava/lang/Object;)Z"⟩ : MethodName)) (z := (⟨"com/example/lease/lease/model/Enqueued", "equals", "(Ljava/lang/Object;)Z"⟩ : MethodName)) (a := b31) [(.ref b31)] (hw _ m13) (hw _ m14) (notFace_of_selects (args := #[]) (mvT X42.hZ (hw _ m16))) (hw _ m16) (hw _ m15) f41 (hw _ m17) (hw _ m2) (rm3 l Z a0 hw b31 b31 h36 n0 X42.old a a (nar .boolean d1) (nar .boolean d1) f37 f38 f37 f38 f41) (by decide) (by decide) (by decide) (by decide) (by decide) rfl pd_3 rfl (rest := []) rfl (W := 0) rfl at_110 (pc' := 113) rfl ?_
      rintro _ T43 _ _ Y43 ⟨z43, rfl, r43, rfl, rfl⟩
      have X43 := Y43 X42.old (Fr.nil _)
      obtain rfl : z43 = 1 := r43.elim And.right (fun q => absurd ⟨rfl, rfl⟩ q.1)
      show Go p e below _ (State.setTop _ (mkF m 113 #[.val (.long a), .second, .val (.long b), .second, .val (.int f), .val (.int d1), .val (.int d2), .val (.long w), .second, .val (.ref b31), .val (.ref b33), .val (.int z42), .val (.int z42), .val (.int z42), .unset, .unset, .unset] [(.int (1 : Int32))]))
      refine g_istore X43 at_113 (pc' := 115) rfl (L' := #[.val (.long a), .second, .val (.long b), .second, .val (.int f), .val (.int d1), .val (.int d2), .val (.long w), .second, .val (.ref b31), .val (.ref b33), .val (.int z42), .val (.int z42), .val (.int z42), .val (.int (1 : Int32)), .unset, .unset]) rfl ?_
      refine g_aload X43 at_115 (pc' := 117) rfl rfl rfl ?_
      refine g_aconst_null X43 at_117 (pc' := 118) rfl ?_
      refine g_callV X43 (y := (⟨"com/example/lease/lease/model/Enqueued", "equals", "(Ljava/lang/Object;)Z"⟩ : MethodName)) (z := (⟨"com/example/lease/lease/model/Enqueued", "equals", "(Ljava/lang/Object;)Z"⟩ : MethodName)) (a := b31) [.null] (hw _ m13) (hw _ m14) (notFace_of_selects (args := #[]) (mvT X43.hZ (hw _ m16))) (hw _ m16) (hw _ m15) f41 (hw _ m17) (hw _ m2) (rm3n l Z a0 hw b31 h36 n0 X43.old) (by decide) (by decide) (by decide) (by decide) (by decide) rfl pd_3 rfl (rest := []) rfl (W := 0) rfl at_118 (pc' := 121) rfl ?_
      rintro _ T44 _ _ Y44 ⟨rfl, rfl, rfl⟩
      have X44 := Y44 X43.old (Fr.nil _)
      show Go p e below _ (State.setTop _ (mkF m 121 #[.val (.long a), .second, .val (.long b), .second, .val (.int f), .val (.int d1), .val (.int d2), .val (.long w), .second, .val (.ref b31), .val (.ref b33), .val (.int z42), .val (.int z42), .val (.int z42), .val (.int (1 : Int32)), .unset, .unset] [(.int (0 : Int32))]))
      refine g_istore X44 at_121 (pc' := 123) rfl (L' := #[.val (.long a), .second, .val (.long b), .second, .val (.int f), .val (.int d1), .val (.int d2), .val (.long w), .second, .val (.ref b31), .val (.ref b33), .val (.int z42), .val (.int z42), .val (.int z42), .val (.int (1 : Int32)), .val (.int (0 : Int32)), .unset]) rfl ?_
      refine g_aload X44 at_123 (pc' := 125) rfl rfl rfl ?_
      refine g_lloadN X44 at_125 (pc' := 126) rfl rfl ?_
      refine g_callS X44 (y := (⟨"java/lang/Long", "valueOf", "(J)Ljava/lang/Long;"⟩ : MethodName)) [(.long a)] (hw _ m20) (hw _ m21) (hw _ m22) (hw _ m23) (hw _ m22) (rm4 l Z a0 hw a h36 n0 X44.old ca vs Sq Aq hel) (by decide) (by decide) (by decide) (by decide) (by decide) rfl pd_4 rfl (rest := [(.ref b31)]) rfl (W := 1) rfl at_126 (pc' := 129) rfl ?_
      rintro _ T45 h45 L45 Y45 ⟨r45, rfl, N45, K45, E45⟩
      have X45 := Y45 (X44.old.keep K45 all0) N45
      show Go p e below _ (State.setTop _ (mkF m 129 #[.val (.long a), .second, .val (.long b), .second, .val (.int f), .val (.int d1), .val (.int d2), .val (.long w), .second, .val (.ref b31), .val (.ref b33), .val (.int z42), .val (.int z42), .val (.int z42), .val (.int (1 : Int32)), .val (.int (0 : Int32)), .unset] [(.ref r45), (.ref b31)]))
      have f47 := (f41.keep K45)
      refine g_callV X45 (y := (⟨"com/example/lease/lease/model/Enqueued", "equals", "(Ljava/lang/Object;)Z"⟩ : MethodName)) (z := (⟨"com/example/lease/lease/model/Enqueued", "equals", "(Ljava/lang/Object;)Z"⟩ : MethodName)) (a := b31) [(.ref r45)] (hw _ m13) (hw _ m14) (notFace_of_selects (args := #[]) (mvT X45.hZ (hw _ m16))) (hw _ m16) (hw _ m15) f47 (hw _ m17) (hw _ m2) (rm3l l Z a0 hw b31 r45 h45 n0 X45.old E45) (by decide) (by decide) (by decide) (by decide) (by decide) rfl pd_3 rfl (rest := []) rfl (W := 0) rfl at_129 (pc' := 132) rfl ?_
      rintro _ T46 _ _ Y46 ⟨rfl, rfl, rfl⟩
      have X46 := Y46 X45.old (Fr.nil _)
      show Go p e below _ (State.setTop _ (mkF m 132 #[.val (.long a), .second, .val (.long b), .second, .val (.int f), .val (.int d1), .val (.int d2), .val (.long w), .second, .val (.ref b31), .val (.ref b33), .val (.int z42), .val (.int z42), .val (.int z42), .val (.int (1 : Int32)), .val (.int (0 : Int32)), .unset] [(.int (0 : Int32))]))
      refine g_istore X46 at_132 (pc' := 134) rfl (L' := #[.val (.long a), .second, .val (.long b), .second, .val (.int f), .val (.int d1), .val (.int d2), .val (.long w), .second, .val (.ref b31), .val (.ref b33), .val (.int z42), .val (.int z42), .val (.int z42), .val (.int (1 : Int32)), .val (.int (0 : Int32)), .val (.int (0 : Int32))]) rfl ?_
      refine g_iload X46 at_134 (pc' := 136) rfl rfl ?_
      refine g_iload X46 at_136 (pc' := 138) rfl rfl ?_
      refine g_icmp_ne_f X46 at_138 (pc' := 141) rfl rfl ?_
      refine g_iload X46 at_141 (pc' := 143) rfl rfl ?_
      refine g_iload X46 at_143 (pc' := 145) rfl rfl ?_
      refine g_icmp_ne_f X46 at_145 (pc' := 148) rfl rfl ?_
      refine g_iload X46 at_148 (pc' := 150) rfl rfl ?_
      refine g_if_eq_f X46 at_150 (pc' := 153) rfl (by decide) ?_
      refine g_iload X46 at_153 (pc' := 155) rfl rfl ?_
      refine g_if_ne_f X46 at_155 (pc' := 158) rfl (by decide) ?_
      refine g_iload X46 at_158 (pc' := 160) rfl rfl ?_
      refine g_if_ne_f X46 at_160 (pc' := 163) rfl (by decide) ?_
      refine g_iconst X46 at_163 (pc' := 164) rfl (v := (1 : Int32)) rfl ?_
      refine g_goto X46 at_164 (pt := 168) (by decide) ?_
      exact g_retN X46 (Or.inl rfl) rfl at_168 (by decide) (by decide) ⟨rfl, X46.fr⟩
    refine g_lloadN X36 at_67 (pc' := 68) rfl rfl ?_
    refine g_lload X36 at_68 (pc' := 70) rfl rfl ?_
    refine g_lcmp_ne X36 at_70 at_71 (pt := 85) (by decide) (pc' := 74) rfl (fun hc71 => ?_) (fun hc71 => ?_)
    · refine g_iconst X36 at_85 (pc' := 86) rfl (v := (0 : Int32)) rfl ?_
      exact J86 _ (Or.inr ⟨fun z => by first | exact absurd z.1 hc71 | exact absurd z.2 hc78, rfl⟩)
    · refine g_iload X36 at_74 (pc' := 76) rfl rfl ?_
      refine g_iload X36 at_76 (pc' := 78) rfl rfl ?_
      refine g_icmp_ne X36 at_78 (pt := 85) (by decide) (pc' := 81) rfl (fun hc78 => ?_) (fun hc78 => ?_)
      · refine g_iconst X36 at_85 (pc' := 86) rfl (v := (0 : Int32)) rfl ?_
        exact J86 _ (Or.inr ⟨fun z => by first | exact absurd z.1 hc71 | exact absurd z.2 hc78, rfl⟩)
      · refine g_iconst X36 at_81 (pc' := 82) rfl (v := (1 : Int32)) rfl ?_
        refine g_goto X36 at_82 (pt := 86) (by decide) ?_
        exact J86 _ (Or.inl ⟨⟨hc71, hc78⟩, rfl⟩)
  have J26 : ∀ (d1 d2 : Int32), nar .boolean d1 = d1 → nar .boolean d2 = d2 → Go p e below (Kq s 16 128 (fun v h L => v = some (.int 1) ∧ Fr n0 L)) (T.setTop (mkF m 26 #[.val (.long a), .second, .val (.long b), .second, .val (.int f), .val (.int d1), .unset, .unset, .unset, .unset, .unset, .unset, .unset, .unset, .unset, .unset, .unset] [.int d2])) := by
    intro d1 d2 hd1 hd2
    refine g_istore X0 at_26 (pc' := 28) rfl (L' := #[.val (.long a), .second, .val (.long b), .second, .val (.int f), .val (.int d1), .val (.int d2), .unset, .unset, .unset, .unset, .unset, .unset, .unset, .unset, .unset, .unset]) rfl ?_
    refine g_iload X0 at_28 (pc' := 30) rfl rfl ?_
    refine g_iconst X0 at_30 (pc' := 31) rfl (v := (4 : Int32)) rfl ?_
    refine g_iand X0 at_31 (pc' := 32) rfl ?_
    refine g_if_eq X0 at_32 (pt := 39) (by decide) (pc' := 35) rfl (fun hc32 => ?_) (fun hc32 => ?_)
    · refine g_lloadN X0 at_39 (pc' := 40) rfl rfl ?_
      exact J40 d1 d2 _ hd1 hd2
    · refine g_lloadN X0 at_35 (pc' := 36) rfl rfl ?_
      refine g_goto X0 at_36 (pt := 40) (by decide) ?_
      exact J40 d1 d2 _ hd1 hd2
  have J12 : ∀ (d1 : Int32), nar .boolean d1 = d1 → Go p e below (Kq s 16 128 (fun v h L => v = some (.int 1) ∧ Fr n0 L)) (T.setTop (mkF m 12 #[.val (.long a), .second, .val (.long b), .second, .val (.int f), .unset, .unset, .unset, .unset, .unset, .unset, .unset, .unset, .unset, .unset, .unset, .unset] [.int d1])) := by
    intro d1 hd1
    refine g_istore X0 at_12 (pc' := 14) rfl (L' := #[.val (.long a), .second, .val (.long b), .second, .val (.int f), .val (.int d1), .unset, .unset, .unset, .unset, .unset, .unset, .unset, .unset, .unset, .unset, .unset]) rfl ?_
    refine g_iload X0 at_14 (pc' := 16) rfl rfl ?_
    refine g_iconst X0 at_16 (pc' := 17) rfl (v := (2 : Int32)) rfl ?_
    refine g_iand X0 at_17 (pc' := 18) rfl ?_
    refine g_if_eq X0 at_18 (pt := 25) (by decide) (pc' := 21) rfl (fun hc18 => ?_) (fun hc18 => ?_)
    · refine g_iconst X0 at_25 (pc' := 26) rfl (v := (0 : Int32)) rfl ?_
      exact J26 d1 _ hd1 (by decide)
    · refine g_iconst X0 at_21 (pc' := 22) rfl (v := (1 : Int32)) rfl ?_
      refine g_goto X0 at_22 (pt := 26) (by decide) ?_
      exact J26 d1 _ hd1 (by decide)
  refine g_iload X0 at_0 (pc' := 2) rfl rfl ?_
  refine g_iconst X0 at_2 (pc' := 3) rfl (v := (1 : Int32)) rfl ?_
  refine g_iand X0 at_3 (pc' := 4) rfl ?_
  refine g_if_eq X0 at_4 (pt := 11) (by decide) (pc' := 7) rfl (fun hc4 => ?_) (fun hc4 => ?_)
  · refine g_iconst X0 at_11 (pc' := 12) rfl (v := (0 : Int32)) rfl ?_
    exact J12 _ (by decide)
  · refine g_iconst X0 at_7 (pc' := 8) rfl (v := (1 : Int32)) rfl ?_
    refine g_goto X0 at_8 (pt := 12) (by decide) ?_
    exact J12 _ (by decide)

set_option maxRecDepth 65536 in
set_option maxHeartbeats 40000000 in
theorem comes_1 {Post : Tables → Env → Array Value → State → Outcome → State → Prop} (hpost : ∀ tb e args s v u, (limb_1_1.after args s (.returned v) u = true ∧ limb_1_2.after args s (.returned v) u = true ∧ True) → FrameEnd s (.returned v) u (Jvm.fieldLocs frame_1_writes args s ++ Jvm.arrayLocs frame_1_arrays args s ++ Jvm.staticLocs frame_1_statics s) 16 128 → Post tb e args s (.returned v) u) :
    ArmFor flags0 classFile x code maxLocals ret World_1 tables_1 room_1 Calls_1 rest_1 Pre_1 Post := by
  intro l hfl _ _ p e ha hc hk s m args below hf hA hF happ hP
  obtain ⟨hcalls, hrest, hpre⟩ := hP
  obtain ⟨-, -, -, hnamed, -, -, -, hat⟩ := (Spec.applies_iff hf).mp happ
  obtain ⟨hg, hn⟩ := and_e (Cond.before_iff.mp (show (Jvm.Cond.and given_1 narrow_1).before args s = true from hpre))
  obtain ⟨hcount, hg⟩ := and_e hg
  obtain ⟨k0, hg⟩ := and_e hg
  obtain ⟨k1, hg⟩ := and_e hg
  have k2 := hg
  obtain ⟨w0, w1, w2, rfl⟩ : ∃ w0 w1 w2 : Value, args = #[w0, w1, w2] := by
    have hs : args.size = 3 := by simpa [Cond.value, given_1] using hcount
    obtain ⟨L⟩ := args
    match L, hs with
    | [w0, w1, w2], _ => exact ⟨w0, w1, w2, rfl⟩
  have hw := fun d (hd : d ∈ tables_1) => atoms_spec (ws := Jvm.Cond.code x code maxLocals ret :: tables_1) hat d (List.mem_cons_of_mem _ hd)
  obtain ⟨i0, e0⟩ := isL_v k0
  obtain rfl : w0 = (.long i0) := Option.some.inj e0
  obtain ⟨i1, e1⟩ := isL_v k1
  obtain rfl : w1 = (.long i1) := Option.some.inj e1
  obtain ⟨i2, e2⟩ := is_v k2
  obtain rfl : w2 = (.int i2) := Option.some.inj e2
  obtain ⟨hsets, hown0⟩ := atoms_of _ (rest_1_c_eq ▸ (show rest_1_c.before _ s = true from hrest))
  have xA := Cond.before_iff.mp (hsets _ (List.mem_of_getElem? (i := 2) rfl))
  have xL := Cond.before_iff.mp (hsets _ (List.mem_of_getElem? (i := 4) rfl))
  have xE := Cond.before_iff.mp (hsets _ (List.mem_of_getElem? (i := 5) rfl))
  obtain ⟨ca, ec⟩ := arr_v xA
  obtain ⟨cl, Ac⟩ := Arr.start ec xA
  have Sq := Sta.start ec (Or.inl (hsets _ (List.mem_of_getElem? (i := 1) rfl)))
  have hat : s.arrayAt? ca = some cl := Ac.fin (Vm.Alike.refl _)
  have xL' := eqv_i (Term.int_eval 256) xL
  obtain ⟨ca', cl', e1, e2, e3⟩ := Term.length_spec xL'
  obtain ⟨q2, q3, s1, s2, -, s3⟩ := Jvm.Free.SB.Term.length_small xL'
  cases e1.symm.trans ec
  cases e2.symm.trans hat
  cases s1.symm.trans ec
  cases s2.symm.trans hat
  have e4 : cl.slots.size.toInt32 = 256 := (Value.int.inj e3).symm
  have hsz : cl.slots.size = 256 := by
    have h1 := len_toInt s3
    rw [e4] at h1
    have h2 : (256 : Int32).toInt = 256 := rfl
    omega
  have B : Bxs s ca cl "java/lang/Long" "J" 256 (fun j => .long (j - 128).toInt64) := Bxs.start (fun _ => ec) Ac s3 e4 (by decide) xE (fun X j nn hv => eqv_l (i2l_at (Term.sub_int (idx_at nn) (Term.int_eval 128))) hv)
  have Aq : Arx s s.heap ca (.object "java/lang/Long") cl.slots.toList := ⟨cl, Ac, rfl, by simp [hsz]⟩
  have hel : ∀ i, i < 256 → ∃ r, cl.slots.toList[i]? = some (.ref r) ∧ Exa s s.heap r "java/lang/Long" := by
    intro i hi
    have e5 : (Int32.ofNat i).toInt = (i : Int) := Int32.toInt_ofNat_small (by omega)
    have e6 : (Int32.ofNat i).toNatClampNeg = i := by simp only [Int32.toNatClampNeg, e5]; omega
    obtain ⟨b, b1, b2, -⟩ := B.2.2.2 (Int32.ofNat i) (by
      rw [e6, hsz, Int32.lt_iff_toInt_lt, e5]; have : (0 : Int32).toInt = 0 := rfl
      omega)
    rw [e6] at b1
    exact ⟨b, by simpa using b1, b2⟩
  obtain ⟨n, o, h1, h2, h3, _, L, rfl, ⟨rfl, N⟩, hq⟩ := rm0 l s _ hw tables_1 i0 i1 i2 s.heap s.heap.size (Old.start s) ca cl.slots.toList Sq Aq hel p e ha hc hk s m _ below hf ((Spec.applies_iff_loose hf).mp happ).1 ⟨rfl, State.Warmed39.refl s, rfl⟩ trivial
  refine ⟨n, _, h1, h2, h3, hpost _ _ _ _ _ _ ⟨Cond.after_iff.mpr rfl, Cond.after_iff.mpr (eq_i res_at (Term.int_eval (1)) rfl), trivial⟩ ⟨hq.1, hq.2.1, (hq.2.2.sift fun y hy => Or.inr (N y hy)).mono (by decide) (by decide)⟩⟩
theorem main_1_1 : Claimed_1_1 := comes_1 fun _ _ _ _ _ _ h hF => ⟨h.1, hF⟩
theorem main_1_2 : Claimed_1_2 := comes_1 fun _ _ _ _ _ _ h hF => ⟨h.2.1, hF⟩
end Jvm.Pilot.@@N@@
namespace Jvm.Pilot.@@N@@
open Jvm Jvm.ClassFile Sem Op Lib Jvm.Free Jvm.Stand Jvm.Pilot.@@N@@.Jvm.D
/-! MADE BY PROGRAM (witnessworld.py) out of the Statement's table words and the real class files: 16 classes; the members and pool entries that the words name. The judged class is class 1, her method 1. -/
namespace start1
open Jvm.ClassFile
def u (s : String) : CpInfo := .utf8 (stringToUtf16 s)
/-- a pool by its gaps: so many unusable entries, then the entry; so many at the end -/
def gap : Nat → List CpInfo → List CpInfo
  | 0, r => r
  | n + 1, r => .unusable :: gap n r
def poolList (es : List (Nat × CpInfo)) (last : Nat) : List CpInfo := es.foldr (fun e r => gap e.1 (e.2 :: r)) (gap last [])
def pool (es : List (Nat × CpInfo)) (last : Nat) : Array CpInfo := ⟨poolList es last⟩
def fileOf (pool : Array CpInfo) (this : Nat) (attrs : Array Attribute := #[]) (ms : Array MethodInfo := #[]) (fl : Nat := 33) (sup : Nat := 0) (ifs : Array Nat := #[]) (fds : Array FieldInfo := #[]) : ClassFile where
  minorVersion := 0
  majorVersion := 65
  constantPool := pool
  accessFlags := fl
  thisClass := this
  superClass := sup
  interfaces := ifs
  fields := fds
  methods := ms
  attributes := attrs
def plain (name : String) (sup : Option ClassId) : Class where
  name := name
  kind := .ordinary
  loader := none
  accessFlags := 33
  super := sup
  interfaces := #[]
  cf := none
  fields := #[]
  methods := #[]
  instanceTypes := #[]
  staticTypes := #[]
  resolved := #[]
  callSites := []
  init := .initialized
  statics := none
  mirror := none

def pool0 : Array CpInfo := pool [(5, u "<init>"), (0, u "()V"), (1, .class_ 10), (1, u "java/lang/Object")] 113

def k0c0 : Code := { maxStack := 0, maxLocals := 1, code := object_method_1_code, exceptionTable := #[], attributes := #[] }
def k0m0 : Method := { name := "<init>", desc := "()V", sig := { parameters := [], returnType := none }, accessFlags := 1, code := some k0c0 }
/-- java/lang/Object -/
def k0 : Class := { plain "java/lang/Object" none with
  accessFlags := 33
  interfaces := #[]
  cf := some (fileOf pool0 8 #[] #[{ accessFlags := 1, nameIndex := 5, descriptorIndex := 6, attributes := #[] }] 33 0 #[] #[])
  fields := #[]
  methods := #[k0m0]
  instanceTypes := #[]
  staticTypes := #[]
  resolved := Array.replicate 124 none
  statics := none }

def pool1 : Array CpInfo := pool [(2, .class_ 4), (1, u "java/lang/Object"), (0, u "<init>"), (0, u "()V"), (0, .class_ 8), (0, u "com/example/lease/lease/model/Enqueued"), (0, .methodref 7 10), (0, .nameAndType 5 11), (0, u "(JZ)V"), (0, .methodref 7 13), (0, .nameAndType 14 15), (0, u "equals"), (0, u "(Ljava/lang/Object;)Z"), (0, .methodref 17 18), (0, .class_ 19), (0, .nameAndType 20 21), (0, u "java/lang/Long"), (0, u "valueOf"), (0, u "(J)Ljava/lang/Long;"), (0, .class_ 23), (0, u "com/example/lease/lease/model/EnqueuedEqualsPinLaw"), (2, u "law"), (0, u "(JJI)Z")] 3

def k1m0 : Method := { name := "<init>", desc := "()V", sig := { parameters := [], returnType := none }, accessFlags := 1, code := none }
def k1c1 : Code := { maxStack := 5, maxLocals := 17, code := code, exceptionTable := #[], attributes := #[] }
def k1m1 : Method := { name := "law", desc := "(JJI)Z", sig := { parameters := [.long, .long, .int], returnType := some .boolean }, accessFlags := 9, code := some k1c1 }
/-- com/example/lease/lease/model/EnqueuedEqualsPinLaw -/
def k1 : Class := { plain "com/example/lease/lease/model/EnqueuedEqualsPinLaw" (some 0) with
  accessFlags := 49
  interfaces := #[]
  cf := some (fileOf pool1 22 #[] #[{ accessFlags := 1, nameIndex := 5, descriptorIndex := 6, attributes := #[] }, { accessFlags := 9, nameIndex := 26, descriptorIndex := 27, attributes := #[] }] 49 2 #[] #[])
  fields := #[]
  methods := #[k1m0, k1m1]
  instanceTypes := #[]
  staticTypes := #[]
  resolved := Array.replicate 31 none
  statics := none }

def pool2 : Array CpInfo := pool [(1, .methodref 2 3), (0, .class_ 4), (0, .nameAndType 5 6), (0, u "java/lang/Object"), (0, u "<init>"), (0, u "()V"), (0, .fieldref 8 9), (0, .class_ 10), (0, .nameAndType 11 12), (0, u "com/example/lease/lease/model/Enqueued"), (0, u "id"), (0, u "J"), (0, .fieldref 8 14), (0, .nameAndType 15 16), (0, u "duplicate"), (0, u "Z"), (19, u "(JZ)V"), (5, u "equals"), (0, u "(Ljava/lang/Object;)Z")] 23

def k2c0 : Code := { maxStack := 3, maxLocals := 4, code := prog_30_method_1_code, exceptionTable := #[], attributes := #[] }
def k2m0 : Method := { name := "<init>", desc := "(JZ)V", sig := { parameters := [.long, .boolean], returnType := none }, accessFlags := 1, code := some k2c0 }
def k2c1 : Code := { maxStack := 4, maxLocals := 3, code := prog_30_method_4_code, exceptionTable := #[], attributes := #[] }
def k2m1 : Method := { name := "equals", desc := "(Ljava/lang/Object;)Z", sig := { parameters := [(.object "java/lang/Object")], returnType := some .boolean }, accessFlags := 1, code := some k2c1 }
/-- com/example/lease/lease/model/Enqueued -/
def k2 : Class := { plain "com/example/lease/lease/model/Enqueued" (some 0) with
  accessFlags := 33
  interfaces := #[]
  cf := some (fileOf pool2 8 #[] #[{ accessFlags := 1, nameIndex := 5, descriptorIndex := 36, attributes := #[] }, { accessFlags := 1, nameIndex := 42, descriptorIndex := 43, attributes := #[] }] 33 2 #[] #[{ accessFlags := 18, nameIndex := 11, descriptorIndex := 12, attributes := #[] }, { accessFlags := 18, nameIndex := 15, descriptorIndex := 16, attributes := #[] }])
  fields := #[{ name := "id", type := .long, accessFlags := 18, slot := 0, constantValue := 0 }, { name := "duplicate", type := .boolean, accessFlags := 18, slot := 1, constantValue := 0 }]
  methods := #[k2m0, k2m1]
  instanceTypes := #[.long, .boolean]
  staticTypes := #[]
  resolved := Array.replicate 67 none
  statics := none }

def pool3 : Array CpInfo := pool [(1, .class_ 2), (0, u "java/io/Serializable"), (0, .class_ 4), (0, u "java/lang/Object")] 2

/-- java/io/Serializable -/
def k3 : Class := { plain "java/io/Serializable" (some 0) with
  accessFlags := 1537
  interfaces := #[]
  cf := some (fileOf pool3 1 #[] #[] 1537 3 #[] #[])
  fields := #[]
  methods := #[]
  instanceTypes := #[]
  staticTypes := #[]
  resolved := Array.replicate 7 none
  statics := none }

def pool4 : Array CpInfo := pool [(1, .methodref 2 3), (0, .class_ 4), (0, .nameAndType 5 6), (0, u "java/lang/Object"), (0, u "<init>"), (0, u "()V"), (1, .class_ 10), (1, u "java/lang/Number"), (2, .class_ 14), (0, u "java/io/Serializable"), (0, u "serialVersionUID"), (0, u "J")] 20

def k4c0 : Code := { maxStack := 1, maxLocals := 1, code := jdk_18_method_1_code, exceptionTable := #[], attributes := #[] }
def k4m0 : Method := { name := "<init>", desc := "()V", sig := { parameters := [], returnType := none }, accessFlags := 1, code := some k4c0 }
/-- java/lang/Number -/
def k4 : Class := { plain "java/lang/Number" (some 0) with
  accessFlags := 1057
  interfaces := #[3]
  cf := some (fileOf pool4 8 #[] #[{ accessFlags := 1, nameIndex := 5, descriptorIndex := 6, attributes := #[] }] 1057 2 #[13] #[{ accessFlags := 26, nameIndex := 15, descriptorIndex := 16, attributes := #[] }])
  fields := #[{ name := "serialVersionUID", type := .long, accessFlags := 26, slot := 0, constantValue := 0 }]
  methods := #[k4m0]
  instanceTypes := #[]
  staticTypes := #[.long]
  resolved := Array.replicate 37 none
  statics := none }

def pool5 : Array CpInfo := pool [(1, .class_ 2), (0, u "java/lang/Comparable"), (0, .class_ 4), (0, u "java/lang/Object")] 7

/-- java/lang/Comparable -/
def k5 : Class := { plain "java/lang/Comparable" (some 0) with
  accessFlags := 1537
  interfaces := #[]
  cf := some (fileOf pool5 1 #[] #[] 1537 3 #[] #[])
  fields := #[]
  methods := #[]
  instanceTypes := #[]
  staticTypes := #[]
  resolved := Array.replicate 12 none
  statics := none }

def pool6 : Array CpInfo := pool [(1, .class_ 2), (0, u "java/lang/constant/Constable"), (0, .class_ 4), (0, u "java/lang/Object")] 6

/-- java/lang/constant/Constable -/
def k6 : Class := { plain "java/lang/constant/Constable" (some 0) with
  accessFlags := 1537
  interfaces := #[]
  cf := some (fileOf pool6 1 #[] #[] 1537 3 #[] #[])
  fields := #[]
  methods := #[]
  instanceTypes := #[]
  staticTypes := #[]
  resolved := Array.replicate 11 none
  statics := none }

def pool7 : Array CpInfo := pool [(1, .class_ 2), (0, u "java/lang/constant/ConstantDesc"), (0, .class_ 4), (0, u "java/lang/Object")] 32

/-- java/lang/constant/ConstantDesc -/
def k7 : Class := { plain "java/lang/constant/ConstantDesc" (some 0) with
  accessFlags := 1537
  interfaces := #[]
  cf := some (fileOf pool7 1 #[] #[] 1537 3 #[] #[])
  fields := #[]
  methods := #[]
  instanceTypes := #[]
  staticTypes := #[]
  resolved := Array.replicate 37 none
  statics := none }

def pool8 : Array CpInfo := pool [(1, .class_ 2), (0, u "java/lang/Long"), (55, .nameAndType 59 60), (0, u "<init>"), (0, u "()V"), (24, u "valueOf"), (143, u "(J)Ljava/lang/Long;"), (0, .long 18446744073709551488), (1, .long 127), (1, .fieldref 235 236), (0, .class_ 237), (0, .nameAndType 238 239), (0, u "java/lang/Long$LongCache"), (0, u "cache"), (0, u "[Ljava/lang/Long;"), (0, .methodref 1 241), (0, .nameAndType 59 242), (0, u "(J)V"), (27, .methodref 271 58), (0, .class_ 272), (0, u "java/lang/Number"), (0, .fieldref 1 274), (0, .nameAndType 275 276), (0, u "value"), (0, u "J"), (84, u "TYPE"), (0, u "Ljava/lang/Class;"), (0, .class_ 364), (0, u "java/lang/Comparable"), (0, .class_ 366), (0, u "java/lang/constant/Constable"), (0, .class_ 368), (0, u "java/lang/constant/ConstantDesc"), (0, u "MIN_VALUE"), (1, u "MAX_VALUE"), (4, u "SIZE"), (0, u "I"), (1, u "BYTES"), (1, u "serialVersionUID")] 142

def k8c0 : Code := { maxStack := 4, maxLocals := 3, code := jdk_35_method_24_code, exceptionTable := #[], attributes := #[] }
def k8m0 : Method := { name := "valueOf", desc := "(J)Ljava/lang/Long;", sig := { parameters := [.long], returnType := some (.object "java/lang/Long") }, accessFlags := 9, code := some k8c0 }
def k8c1 : Code := { maxStack := 3, maxLocals := 3, code := jdk_35_method_26_code, exceptionTable := #[], attributes := #[] }
def k8m1 : Method := { name := "<init>", desc := "(J)V", sig := { parameters := [.long], returnType := none }, accessFlags := 1, code := some k8c1 }
/-- java/lang/Long -/
def k8 : Class := { plain "java/lang/Long" (some 4) with
  accessFlags := 49
  interfaces := #[5, 6, 7]
  cf := some (fileOf pool8 1 #[.nestMembers #[235]] #[{ accessFlags := 9, nameIndex := 85, descriptorIndex := 229, attributes := #[] }, { accessFlags := 1, nameIndex := 59, descriptorIndex := 242, attributes := #[] }] 49 271 #[363, 365, 367] #[{ accessFlags := 25, nameIndex := 369, descriptorIndex := 276, attributes := #[] }, { accessFlags := 25, nameIndex := 371, descriptorIndex := 276, attributes := #[] }, { accessFlags := 25, nameIndex := 361, descriptorIndex := 362, attributes := #[] }, { accessFlags := 18, nameIndex := 275, descriptorIndex := 276, attributes := #[] }, { accessFlags := 25, nameIndex := 376, descriptorIndex := 377, attributes := #[] }, { accessFlags := 25, nameIndex := 379, descriptorIndex := 377, attributes := #[] }, { accessFlags := 26, nameIndex := 381, descriptorIndex := 276, attributes := #[] }])
  fields := #[{ name := "MIN_VALUE", type := .long, accessFlags := 25, slot := 0, constantValue := 0 }, { name := "MAX_VALUE", type := .long, accessFlags := 25, slot := 1, constantValue := 0 }, { name := "TYPE", type := (.object "java/lang/Class"), accessFlags := 25, slot := 2, constantValue := 0 }, { name := "value", type := .long, accessFlags := 18, slot := 0, constantValue := 0 }, { name := "SIZE", type := .int, accessFlags := 25, slot := 3, constantValue := 0 }, { name := "BYTES", type := .int, accessFlags := 25, slot := 4, constantValue := 0 }, { name := "serialVersionUID", type := .long, accessFlags := 26, slot := 5, constantValue := 0 }]
  methods := #[k8m0, k8m1]
  instanceTypes := #[.long]
  staticTypes := #[.long, .long, (.object "java/lang/Class"), .int, .int, .long]
  resolved := Array.replicate 524 none
  statics := none }

def pool9 : Array CpInfo := pool [(2, .class_ 4), (1, u "java/lang/Object"), (0, u "<init>"), (0, u "()V"), (0, .class_ 8), (0, u "java/lang/Long"), (7, .class_ 18), (1, u "java/lang/Long$LongCache"), (0, u "$assertionsDisabled"), (0, u "Z"), (8, u "archivedCache"), (0, u "[Ljava/lang/Long;"), (7, u "cache")] 24

def k9m0 : Method := { name := "<init>", desc := "()V", sig := { parameters := [], returnType := none }, accessFlags := 2, code := none }
/-- java/lang/Long$LongCache -/
def k9 : Class := { plain "java/lang/Long$LongCache" (some 0) with
  accessFlags := 48
  interfaces := #[]
  cf := some (fileOf pool9 16 #[.nestHost 7] #[{ accessFlags := 2, nameIndex := 5, descriptorIndex := 6, attributes := #[] }] 48 2 #[] #[{ accessFlags := 24, nameIndex := 38, descriptorIndex := 30, attributes := #[] }, { accessFlags := 8, nameIndex := 29, descriptorIndex := 30, attributes := #[] }, { accessFlags := 4120, nameIndex := 19, descriptorIndex := 20, attributes := #[] }])
  fields := #[{ name := "cache", type := (.array (.object "java/lang/Long")), accessFlags := 24, slot := 0, constantValue := 0 }, { name := "archivedCache", type := (.array (.object "java/lang/Long")), accessFlags := 8, slot := 1, constantValue := 0 }, { name := "$assertionsDisabled", type := .boolean, accessFlags := 4120, slot := 2, constantValue := 0 }]
  methods := #[k9m0]
  instanceTypes := #[]
  staticTypes := #[(.array (.object "java/lang/Long")), (.array (.object "java/lang/Long")), .boolean]
  resolved := Array.replicate 63 none
  statics := some 0 }

def pool10 : Array CpInfo := pool [(1, u "java/lang/Cloneable"), (0, .class_ 1), (0, u "java/lang/Object"), (0, .class_ 3)] 3

/-- java/lang/Cloneable -/
def k10 : Class := { plain "java/lang/Cloneable" (some 0) with
  accessFlags := 1537
  interfaces := #[]
  cf := some (fileOf pool10 2 #[] #[] 1537 4 #[] #[])
  fields := #[]
  methods := #[]
  instanceTypes := #[]
  staticTypes := #[]
  resolved := Array.replicate 8 none
  statics := none }

/-- the primitive byte -/
def k11 : Class := { plain "byte" none with kind := .primitive 'B', accessFlags := 0x411 }
/-- [B -/
def k12 : Class := { plain "[B" (some 0) with kind := .array 11 .byte, interfaces := #[10, 3], accessFlags := 1041 }

/-- the primitive int -/
def k13 : Class := { plain "int" none with kind := .primitive 'I', accessFlags := 0x411 }
/-- [I -/
def k14 : Class := { plain "[I" (some 0) with kind := .array 13 .int, interfaces := #[10, 3], accessFlags := 1041 }

/-- [Ljava/lang/Long; -/
def k15 : Class := { plain "[Ljava/lang/Long;" (some 0) with kind := .array 8 (.object "java/lang/Long"), interfaces := #[10, 3], accessFlags := 1041 }

def heap : Heap := #[{ cls := 9, slots := #[.ref 1, .null, .int 0], vm := .statics 9 },
  { cls := 15, slots := #[.ref 2, .ref 3, .ref 4, .ref 5, .ref 6, .ref 7, .ref 8, .ref 9, .ref 10, .ref 11, .ref 12, .ref 13, .ref 14, .ref 15, .ref 16, .ref 17, .ref 18, .ref 19, .ref 20, .ref 21, .ref 22, .ref 23, .ref 24, .ref 25, .ref 26, .ref 27, .ref 28, .ref 29, .ref 30, .ref 31, .ref 32, .ref 33, .ref 34, .ref 35, .ref 36, .ref 37, .ref 38, .ref 39, .ref 40, .ref 41, .ref 42, .ref 43, .ref 44, .ref 45, .ref 46, .ref 47, .ref 48, .ref 49, .ref 50, .ref 51, .ref 52, .ref 53, .ref 54, .ref 55, .ref 56, .ref 57, .ref 58, .ref 59, .ref 60, .ref 61, .ref 62, .ref 63, .ref 64, .ref 65, .ref 66, .ref 67, .ref 68, .ref 69, .ref 70, .ref 71, .ref 72, .ref 73, .ref 74, .ref 75, .ref 76, .ref 77, .ref 78, .ref 79, .ref 80, .ref 81, .ref 82, .ref 83, .ref 84, .ref 85, .ref 86, .ref 87, .ref 88, .ref 89, .ref 90, .ref 91, .ref 92, .ref 93, .ref 94, .ref 95, .ref 96, .ref 97, .ref 98, .ref 99, .ref 100, .ref 101, .ref 102, .ref 103, .ref 104, .ref 105, .ref 106, .ref 107, .ref 108, .ref 109, .ref 110, .ref 111, .ref 112, .ref 113, .ref 114, .ref 115, .ref 116, .ref 117, .ref 118, .ref 119, .ref 120, .ref 121, .ref 122, .ref 123, .ref 124, .ref 125, .ref 126, .ref 127, .ref 128, .ref 129, .ref 130, .ref 131, .ref 132, .ref 133, .ref 134, .ref 135, .ref 136, .ref 137, .ref 138, .ref 139, .ref 140, .ref 141, .ref 142, .ref 143, .ref 144, .ref 145, .ref 146, .ref 147, .ref 148, .ref 149, .ref 150, .ref 151, .ref 152, .ref 153, .ref 154, .ref 155, .ref 156, .ref 157, .ref 158, .ref 159, .ref 160, .ref 161, .ref 162, .ref 163, .ref 164, .ref 165, .ref 166, .ref 167, .ref 168, .ref 169, .ref 170, .ref 171, .ref 172, .ref 173, .ref 174, .ref 175, .ref 176, .ref 177, .ref 178, .ref 179, .ref 180, .ref 181, .ref 182, .ref 183, .ref 184, .ref 185, .ref 186, .ref 187, .ref 188, .ref 189, .ref 190, .ref 191, .ref 192, .ref 193, .ref 194, .ref 195, .ref 196, .ref 197, .ref 198, .ref 199, .ref 200, .ref 201, .ref 202, .ref 203, .ref 204, .ref 205, .ref 206, .ref 207, .ref 208, .ref 209, .ref 210, .ref 211, .ref 212, .ref 213, .ref 214, .ref 215, .ref 216, .ref 217, .ref 218, .ref 219, .ref 220, .ref 221, .ref 222, .ref 223, .ref 224, .ref 225, .ref 226, .ref 227, .ref 228, .ref 229, .ref 230, .ref 231, .ref 232, .ref 233, .ref 234, .ref 235, .ref 236, .ref 237, .ref 238, .ref 239, .ref 240, .ref 241, .ref 242, .ref 243, .ref 244, .ref 245, .ref 246, .ref 247, .ref 248, .ref 249, .ref 250, .ref 251, .ref 252, .ref 253, .ref 254, .ref 255, .ref 256, .ref 257], vm := .none },
  { cls := 8, slots := #[.long (-128)], vm := .none },
  { cls := 8, slots := #[.long (-127)], vm := .none },
  { cls := 8, slots := #[.long (-126)], vm := .none },
  { cls := 8, slots := #[.long (-125)], vm := .none },
  { cls := 8, slots := #[.long (-124)], vm := .none },
  { cls := 8, slots := #[.long (-123)], vm := .none },
  { cls := 8, slots := #[.long (-122)], vm := .none },
  { cls := 8, slots := #[.long (-121)], vm := .none },
  { cls := 8, slots := #[.long (-120)], vm := .none },
  { cls := 8, slots := #[.long (-119)], vm := .none },
  { cls := 8, slots := #[.long (-118)], vm := .none },
  { cls := 8, slots := #[.long (-117)], vm := .none },
  { cls := 8, slots := #[.long (-116)], vm := .none },
  { cls := 8, slots := #[.long (-115)], vm := .none },
  { cls := 8, slots := #[.long (-114)], vm := .none },
  { cls := 8, slots := #[.long (-113)], vm := .none },
  { cls := 8, slots := #[.long (-112)], vm := .none },
  { cls := 8, slots := #[.long (-111)], vm := .none },
  { cls := 8, slots := #[.long (-110)], vm := .none },
  { cls := 8, slots := #[.long (-109)], vm := .none },
  { cls := 8, slots := #[.long (-108)], vm := .none },
  { cls := 8, slots := #[.long (-107)], vm := .none },
  { cls := 8, slots := #[.long (-106)], vm := .none },
  { cls := 8, slots := #[.long (-105)], vm := .none },
  { cls := 8, slots := #[.long (-104)], vm := .none },
  { cls := 8, slots := #[.long (-103)], vm := .none },
  { cls := 8, slots := #[.long (-102)], vm := .none },
  { cls := 8, slots := #[.long (-101)], vm := .none },
  { cls := 8, slots := #[.long (-100)], vm := .none },
  { cls := 8, slots := #[.long (-99)], vm := .none },
  { cls := 8, slots := #[.long (-98)], vm := .none },
  { cls := 8, slots := #[.long (-97)], vm := .none },
  { cls := 8, slots := #[.long (-96)], vm := .none },
  { cls := 8, slots := #[.long (-95)], vm := .none },
  { cls := 8, slots := #[.long (-94)], vm := .none },
  { cls := 8, slots := #[.long (-93)], vm := .none },
  { cls := 8, slots := #[.long (-92)], vm := .none },
  { cls := 8, slots := #[.long (-91)], vm := .none },
  { cls := 8, slots := #[.long (-90)], vm := .none },
  { cls := 8, slots := #[.long (-89)], vm := .none },
  { cls := 8, slots := #[.long (-88)], vm := .none },
  { cls := 8, slots := #[.long (-87)], vm := .none },
  { cls := 8, slots := #[.long (-86)], vm := .none },
  { cls := 8, slots := #[.long (-85)], vm := .none },
  { cls := 8, slots := #[.long (-84)], vm := .none },
  { cls := 8, slots := #[.long (-83)], vm := .none },
  { cls := 8, slots := #[.long (-82)], vm := .none },
  { cls := 8, slots := #[.long (-81)], vm := .none },
  { cls := 8, slots := #[.long (-80)], vm := .none },
  { cls := 8, slots := #[.long (-79)], vm := .none },
  { cls := 8, slots := #[.long (-78)], vm := .none },
  { cls := 8, slots := #[.long (-77)], vm := .none },
  { cls := 8, slots := #[.long (-76)], vm := .none },
  { cls := 8, slots := #[.long (-75)], vm := .none },
  { cls := 8, slots := #[.long (-74)], vm := .none },
  { cls := 8, slots := #[.long (-73)], vm := .none },
  { cls := 8, slots := #[.long (-72)], vm := .none },
  { cls := 8, slots := #[.long (-71)], vm := .none },
  { cls := 8, slots := #[.long (-70)], vm := .none },
  { cls := 8, slots := #[.long (-69)], vm := .none },
  { cls := 8, slots := #[.long (-68)], vm := .none },
  { cls := 8, slots := #[.long (-67)], vm := .none },
  { cls := 8, slots := #[.long (-66)], vm := .none },
  { cls := 8, slots := #[.long (-65)], vm := .none },
  { cls := 8, slots := #[.long (-64)], vm := .none },
  { cls := 8, slots := #[.long (-63)], vm := .none },
  { cls := 8, slots := #[.long (-62)], vm := .none },
  { cls := 8, slots := #[.long (-61)], vm := .none },
  { cls := 8, slots := #[.long (-60)], vm := .none },
  { cls := 8, slots := #[.long (-59)], vm := .none },
  { cls := 8, slots := #[.long (-58)], vm := .none },
  { cls := 8, slots := #[.long (-57)], vm := .none },
  { cls := 8, slots := #[.long (-56)], vm := .none },
  { cls := 8, slots := #[.long (-55)], vm := .none },
  { cls := 8, slots := #[.long (-54)], vm := .none },
  { cls := 8, slots := #[.long (-53)], vm := .none },
  { cls := 8, slots := #[.long (-52)], vm := .none },
  { cls := 8, slots := #[.long (-51)], vm := .none },
  { cls := 8, slots := #[.long (-50)], vm := .none },
  { cls := 8, slots := #[.long (-49)], vm := .none },
  { cls := 8, slots := #[.long (-48)], vm := .none },
  { cls := 8, slots := #[.long (-47)], vm := .none },
  { cls := 8, slots := #[.long (-46)], vm := .none },
  { cls := 8, slots := #[.long (-45)], vm := .none },
  { cls := 8, slots := #[.long (-44)], vm := .none },
  { cls := 8, slots := #[.long (-43)], vm := .none },
  { cls := 8, slots := #[.long (-42)], vm := .none },
  { cls := 8, slots := #[.long (-41)], vm := .none },
  { cls := 8, slots := #[.long (-40)], vm := .none },
  { cls := 8, slots := #[.long (-39)], vm := .none },
  { cls := 8, slots := #[.long (-38)], vm := .none },
  { cls := 8, slots := #[.long (-37)], vm := .none },
  { cls := 8, slots := #[.long (-36)], vm := .none },
  { cls := 8, slots := #[.long (-35)], vm := .none },
  { cls := 8, slots := #[.long (-34)], vm := .none },
  { cls := 8, slots := #[.long (-33)], vm := .none },
  { cls := 8, slots := #[.long (-32)], vm := .none },
  { cls := 8, slots := #[.long (-31)], vm := .none },
  { cls := 8, slots := #[.long (-30)], vm := .none },
  { cls := 8, slots := #[.long (-29)], vm := .none },
  { cls := 8, slots := #[.long (-28)], vm := .none },
  { cls := 8, slots := #[.long (-27)], vm := .none },
  { cls := 8, slots := #[.long (-26)], vm := .none },
  { cls := 8, slots := #[.long (-25)], vm := .none },
  { cls := 8, slots := #[.long (-24)], vm := .none },
  { cls := 8, slots := #[.long (-23)], vm := .none },
  { cls := 8, slots := #[.long (-22)], vm := .none },
  { cls := 8, slots := #[.long (-21)], vm := .none },
  { cls := 8, slots := #[.long (-20)], vm := .none },
  { cls := 8, slots := #[.long (-19)], vm := .none },
  { cls := 8, slots := #[.long (-18)], vm := .none },
  { cls := 8, slots := #[.long (-17)], vm := .none },
  { cls := 8, slots := #[.long (-16)], vm := .none },
  { cls := 8, slots := #[.long (-15)], vm := .none },
  { cls := 8, slots := #[.long (-14)], vm := .none },
  { cls := 8, slots := #[.long (-13)], vm := .none },
  { cls := 8, slots := #[.long (-12)], vm := .none },
  { cls := 8, slots := #[.long (-11)], vm := .none },
  { cls := 8, slots := #[.long (-10)], vm := .none },
  { cls := 8, slots := #[.long (-9)], vm := .none },
  { cls := 8, slots := #[.long (-8)], vm := .none },
  { cls := 8, slots := #[.long (-7)], vm := .none },
  { cls := 8, slots := #[.long (-6)], vm := .none },
  { cls := 8, slots := #[.long (-5)], vm := .none },
  { cls := 8, slots := #[.long (-4)], vm := .none },
  { cls := 8, slots := #[.long (-3)], vm := .none },
  { cls := 8, slots := #[.long (-2)], vm := .none },
  { cls := 8, slots := #[.long (-1)], vm := .none },
  { cls := 8, slots := #[.long (0)], vm := .none },
  { cls := 8, slots := #[.long (1)], vm := .none },
  { cls := 8, slots := #[.long (2)], vm := .none },
  { cls := 8, slots := #[.long (3)], vm := .none },
  { cls := 8, slots := #[.long (4)], vm := .none },
  { cls := 8, slots := #[.long (5)], vm := .none },
  { cls := 8, slots := #[.long (6)], vm := .none },
  { cls := 8, slots := #[.long (7)], vm := .none },
  { cls := 8, slots := #[.long (8)], vm := .none },
  { cls := 8, slots := #[.long (9)], vm := .none },
  { cls := 8, slots := #[.long (10)], vm := .none },
  { cls := 8, slots := #[.long (11)], vm := .none },
  { cls := 8, slots := #[.long (12)], vm := .none },
  { cls := 8, slots := #[.long (13)], vm := .none },
  { cls := 8, slots := #[.long (14)], vm := .none },
  { cls := 8, slots := #[.long (15)], vm := .none },
  { cls := 8, slots := #[.long (16)], vm := .none },
  { cls := 8, slots := #[.long (17)], vm := .none },
  { cls := 8, slots := #[.long (18)], vm := .none },
  { cls := 8, slots := #[.long (19)], vm := .none },
  { cls := 8, slots := #[.long (20)], vm := .none },
  { cls := 8, slots := #[.long (21)], vm := .none },
  { cls := 8, slots := #[.long (22)], vm := .none },
  { cls := 8, slots := #[.long (23)], vm := .none },
  { cls := 8, slots := #[.long (24)], vm := .none },
  { cls := 8, slots := #[.long (25)], vm := .none },
  { cls := 8, slots := #[.long (26)], vm := .none },
  { cls := 8, slots := #[.long (27)], vm := .none },
  { cls := 8, slots := #[.long (28)], vm := .none },
  { cls := 8, slots := #[.long (29)], vm := .none },
  { cls := 8, slots := #[.long (30)], vm := .none },
  { cls := 8, slots := #[.long (31)], vm := .none },
  { cls := 8, slots := #[.long (32)], vm := .none },
  { cls := 8, slots := #[.long (33)], vm := .none },
  { cls := 8, slots := #[.long (34)], vm := .none },
  { cls := 8, slots := #[.long (35)], vm := .none },
  { cls := 8, slots := #[.long (36)], vm := .none },
  { cls := 8, slots := #[.long (37)], vm := .none },
  { cls := 8, slots := #[.long (38)], vm := .none },
  { cls := 8, slots := #[.long (39)], vm := .none },
  { cls := 8, slots := #[.long (40)], vm := .none },
  { cls := 8, slots := #[.long (41)], vm := .none },
  { cls := 8, slots := #[.long (42)], vm := .none },
  { cls := 8, slots := #[.long (43)], vm := .none },
  { cls := 8, slots := #[.long (44)], vm := .none },
  { cls := 8, slots := #[.long (45)], vm := .none },
  { cls := 8, slots := #[.long (46)], vm := .none },
  { cls := 8, slots := #[.long (47)], vm := .none },
  { cls := 8, slots := #[.long (48)], vm := .none },
  { cls := 8, slots := #[.long (49)], vm := .none },
  { cls := 8, slots := #[.long (50)], vm := .none },
  { cls := 8, slots := #[.long (51)], vm := .none },
  { cls := 8, slots := #[.long (52)], vm := .none },
  { cls := 8, slots := #[.long (53)], vm := .none },
  { cls := 8, slots := #[.long (54)], vm := .none },
  { cls := 8, slots := #[.long (55)], vm := .none },
  { cls := 8, slots := #[.long (56)], vm := .none },
  { cls := 8, slots := #[.long (57)], vm := .none },
  { cls := 8, slots := #[.long (58)], vm := .none },
  { cls := 8, slots := #[.long (59)], vm := .none },
  { cls := 8, slots := #[.long (60)], vm := .none },
  { cls := 8, slots := #[.long (61)], vm := .none },
  { cls := 8, slots := #[.long (62)], vm := .none },
  { cls := 8, slots := #[.long (63)], vm := .none },
  { cls := 8, slots := #[.long (64)], vm := .none },
  { cls := 8, slots := #[.long (65)], vm := .none },
  { cls := 8, slots := #[.long (66)], vm := .none },
  { cls := 8, slots := #[.long (67)], vm := .none },
  { cls := 8, slots := #[.long (68)], vm := .none },
  { cls := 8, slots := #[.long (69)], vm := .none },
  { cls := 8, slots := #[.long (70)], vm := .none },
  { cls := 8, slots := #[.long (71)], vm := .none },
  { cls := 8, slots := #[.long (72)], vm := .none },
  { cls := 8, slots := #[.long (73)], vm := .none },
  { cls := 8, slots := #[.long (74)], vm := .none },
  { cls := 8, slots := #[.long (75)], vm := .none },
  { cls := 8, slots := #[.long (76)], vm := .none },
  { cls := 8, slots := #[.long (77)], vm := .none },
  { cls := 8, slots := #[.long (78)], vm := .none },
  { cls := 8, slots := #[.long (79)], vm := .none },
  { cls := 8, slots := #[.long (80)], vm := .none },
  { cls := 8, slots := #[.long (81)], vm := .none },
  { cls := 8, slots := #[.long (82)], vm := .none },
  { cls := 8, slots := #[.long (83)], vm := .none },
  { cls := 8, slots := #[.long (84)], vm := .none },
  { cls := 8, slots := #[.long (85)], vm := .none },
  { cls := 8, slots := #[.long (86)], vm := .none },
  { cls := 8, slots := #[.long (87)], vm := .none },
  { cls := 8, slots := #[.long (88)], vm := .none },
  { cls := 8, slots := #[.long (89)], vm := .none },
  { cls := 8, slots := #[.long (90)], vm := .none },
  { cls := 8, slots := #[.long (91)], vm := .none },
  { cls := 8, slots := #[.long (92)], vm := .none },
  { cls := 8, slots := #[.long (93)], vm := .none },
  { cls := 8, slots := #[.long (94)], vm := .none },
  { cls := 8, slots := #[.long (95)], vm := .none },
  { cls := 8, slots := #[.long (96)], vm := .none },
  { cls := 8, slots := #[.long (97)], vm := .none },
  { cls := 8, slots := #[.long (98)], vm := .none },
  { cls := 8, slots := #[.long (99)], vm := .none },
  { cls := 8, slots := #[.long (100)], vm := .none },
  { cls := 8, slots := #[.long (101)], vm := .none },
  { cls := 8, slots := #[.long (102)], vm := .none },
  { cls := 8, slots := #[.long (103)], vm := .none },
  { cls := 8, slots := #[.long (104)], vm := .none },
  { cls := 8, slots := #[.long (105)], vm := .none },
  { cls := 8, slots := #[.long (106)], vm := .none },
  { cls := 8, slots := #[.long (107)], vm := .none },
  { cls := 8, slots := #[.long (108)], vm := .none },
  { cls := 8, slots := #[.long (109)], vm := .none },
  { cls := 8, slots := #[.long (110)], vm := .none },
  { cls := 8, slots := #[.long (111)], vm := .none },
  { cls := 8, slots := #[.long (112)], vm := .none },
  { cls := 8, slots := #[.long (113)], vm := .none },
  { cls := 8, slots := #[.long (114)], vm := .none },
  { cls := 8, slots := #[.long (115)], vm := .none },
  { cls := 8, slots := #[.long (116)], vm := .none },
  { cls := 8, slots := #[.long (117)], vm := .none },
  { cls := 8, slots := #[.long (118)], vm := .none },
  { cls := 8, slots := #[.long (119)], vm := .none },
  { cls := 8, slots := #[.long (120)], vm := .none },
  { cls := 8, slots := #[.long (121)], vm := .none },
  { cls := 8, slots := #[.long (122)], vm := .none },
  { cls := 8, slots := #[.long (123)], vm := .none },
  { cls := 8, slots := #[.long (124)], vm := .none },
  { cls := 8, slots := #[.long (125)], vm := .none },
  { cls := 8, slots := #[.long (126)], vm := .none },
  { cls := 8, slots := #[.long (127)], vm := .none }]
def classes : Array Class := #[k0, k1, k2, k3, k4, k5, k6, k7, k8, k9, k10, k11, k12, k13, k14, k15]
def interned : List (Array UInt16 × Addr) := []
def slotsUsed : Nat := 515
def theMethod : MethodId := ⟨1, 1⟩
def args0 : Array Value := #[.long 3, .long 4, .int 5]
def aboutOver (below : List Frame) : State where
  vm := { classes := classes, interned := interned.toArray }
  heap := heap
  slotsUsed := slotsUsed
  threads := #[{ frames := .invoking theMethod args0 :: below }]
def below0 : List Frame := [.native { method := ⟨0, 0⟩, args := #[] }]
def about1 : State := aboutOver below0
def p0 : Program := .bare "" "" ""
def e0 : Env := launch0.env 0 0 0
theorem w_frames : about1.frames = Frame.invoking theMethod args0 :: below0 := rfl
set_option maxRecDepth 65536 in
theorem w_args : argsFit about1.vm theMethod args0 = true := by decide +kernel
set_option maxRecDepth 65536 in
theorem w_heap : heapFits about1 = true := by decide +kernel
set_option maxRecDepth 65536 in
theorem w_runnable : about1.curStatus? = some .runnable := by decide +kernel
set_option maxRecDepth 65536 in
theorem w_alone : about1.alone = true := by decide +kernel
set_option maxRecDepth 65536 in
theorem w_named : about1.methodNamed? x = some theMethod := by decide +kernel
set_option maxRecDepth 65536 in
theorem w_hears : about1.hears theMethod below0 = true := by decide +kernel
set_option maxRecDepth 65536 in
theorem w_ripe : about1.ripe theMethod args0 below0 = true := by decide +kernel
theorem w_running : about1.status = .running := rfl
set_option maxRecDepth 65536 in
theorem w_room : about1.hasRoom e0.platform room_1 = true :=
  launch0.hasRoom_least _ room_1 (by decide +kernel) (by decide +kernel) (by decide +kernel) (by decide +kernel) (by decide +kernel) (by decide +kernel)
theorem allAtoms_all (ts : List Jvm.Cond) (a : Array Jvm.Value) (st : Jvm.State) : (allAtoms ts).before a st = ts.all (fun c => c.before a st) := by
  induction ts with
  | nil => rfl
  | cons c t ih =>
    show (Jvm.Cond.and c (allAtoms t)).before a st = _
    rw [Jvm.Cond.before_and, ih, List.all_cons]
def words1 : List Jvm.Cond := Jvm.Cond.code x code maxLocals ret :: tables_1
/-- a 'code' word, met by the world's own term for the bytes: nothing is compared byte by byte -/
theorem code_word {y : MethodName} {bytes : ByteArray} {mx : Nat} {rt : Option FieldType} {a : Array Value} {s : State} {m : MethodId} {meth : Method} {c : Code} (h1 : s.methodNamed? y = some m) (h2 : s.vm.method? m = some meth) (h3 : meth.code = some c) (h4 : c.code = bytes)
    (h5 : (c.maxLocals == mx && c.exceptionTable.isEmpty && decide (c.maxStack ≤ mostOperands) && decide (meth.sig.returnType = rt) && !meth.locks && decide (parseMethodDescriptor y.desc = some meth.sig)) = true) : (Jvm.Cond.code y bytes mx rt).before a s = true := by
  simp only [Bool.and_eq_true, beq_iff_eq, Bool.not_eq_true', decide_eq_true_eq] at h5
  obtain ⟨⟨⟨⟨⟨g1, g2⟩, g3⟩, g4⟩, g5⟩, g6⟩ := h5
  simp [Cond.before, Cond.holds, Cond.value, h1, h2, h3, h4, g1, g2, g3, g4, g5, g6]
def isCode : Jvm.Cond → Bool
  | .code _ _ _ _ => true
  | _ => false
theorem all_split {L : List Jvm.Cond} {P : Jvm.Cond → Bool} (h1 : L.all (fun c => isCode c || P c) = true) (h2 : ∀ c ∈ L.filter isCode, P c = true) : L.all P = true := by
  refine List.all_eq_true.mpr fun c hc => ?_
  have h := List.all_eq_true.mp h1 c hc
  rcases Bool.eq_false_or_eq_true (isCode c) with hi | hi
  · exact h2 c (List.mem_filter.mpr ⟨hc, hi⟩)
  · simpa [hi] using h
set_option maxRecDepth 65536 in
theorem w_c0 : (Jvm.Cond.code x code maxLocals ret).before args0 about1 = true := code_word (m := ⟨1, 1⟩) (meth := k1m1) (c := k1c1) (by decide +kernel) rfl rfl rfl (by decide +kernel)
set_option maxRecDepth 65536 in
theorem w_c1 : (Jvm.Cond.code ({ cls := "com/example/lease/lease/model/Enqueued", name := "<init>", desc := "(JZ)V" } : Jvm.MethodName) prog_30_method_1_code (4 : Nat) (Option.none : Option Jvm.ClassFile.FieldType)).before args0 about1 = true := code_word (m := ⟨2, 0⟩) (meth := k2m0) (c := k2c0) (by decide +kernel) rfl rfl rfl (by decide +kernel)
set_option maxRecDepth 65536 in
theorem w_c2 : (Jvm.Cond.code ({ cls := "java/lang/Object", name := "<init>", desc := "()V" } : Jvm.MethodName) object_method_1_code (1 : Nat) (Option.none : Option Jvm.ClassFile.FieldType)).before args0 about1 = true := code_word (m := ⟨0, 0⟩) (meth := k0m0) (c := k0c0) (by decide +kernel) rfl rfl rfl (by decide +kernel)
set_option maxRecDepth 65536 in
theorem w_c3 : (Jvm.Cond.code ({ cls := "com/example/lease/lease/model/Enqueued", name := "equals", desc := "(Ljava/lang/Object;)Z" } : Jvm.MethodName) prog_30_method_4_code (3 : Nat) (Option.some Jvm.ClassFile.FieldType.boolean)).before args0 about1 = true := code_word (m := ⟨2, 1⟩) (meth := k2m1) (c := k2c1) (by decide +kernel) rfl rfl rfl (by decide +kernel)
set_option maxRecDepth 65536 in
theorem w_c4 : (Jvm.Cond.code ({ cls := "java/lang/Long", name := "valueOf", desc := "(J)Ljava/lang/Long;" } : Jvm.MethodName) jdk_35_method_24_code (3 : Nat) (Option.some (Jvm.ClassFile.FieldType.object "java/lang/Long"))).before args0 about1 = true := code_word (m := ⟨8, 0⟩) (meth := k8m0) (c := k8c0) (by decide +kernel) rfl rfl rfl (by decide +kernel)
set_option maxRecDepth 65536 in
theorem w_c5 : (Jvm.Cond.code ({ cls := "java/lang/Long", name := "<init>", desc := "(J)V" } : Jvm.MethodName) jdk_35_method_26_code (3 : Nat) (Option.none : Option Jvm.ClassFile.FieldType)).before args0 about1 = true := code_word (m := ⟨8, 1⟩) (meth := k8m1) (c := k8c1) (by decide +kernel) rfl rfl rfl (by decide +kernel)
set_option maxRecDepth 65536 in
theorem w_c6 : (Jvm.Cond.code ({ cls := "java/lang/Number", name := "<init>", desc := "()V" } : Jvm.MethodName) jdk_18_method_1_code (1 : Nat) (Option.none : Option Jvm.ClassFile.FieldType)).before args0 about1 = true := code_word (m := ⟨4, 0⟩) (meth := k4m0) (c := k4c0) (by decide +kernel) rfl rfl rfl (by decide +kernel)
def codes1 : List Jvm.Cond := [Jvm.Cond.code x code maxLocals ret, Jvm.Cond.code ({ cls := "com/example/lease/lease/model/Enqueued", name := "<init>", desc := "(JZ)V" } : Jvm.MethodName) prog_30_method_1_code (4 : Nat) (Option.none : Option Jvm.ClassFile.FieldType), Jvm.Cond.code ({ cls := "java/lang/Object", name := "<init>", desc := "()V" } : Jvm.MethodName) object_method_1_code (1 : Nat) (Option.none : Option Jvm.ClassFile.FieldType), Jvm.Cond.code ({ cls := "com/example/lease/lease/model/Enqueued", name := "equals", desc := "(Ljava/lang/Object;)Z" } : Jvm.MethodName) prog_30_method_4_code (3 : Nat) (Option.some Jvm.ClassFile.FieldType.boolean), Jvm.Cond.code ({ cls := "java/lang/Long", name := "valueOf", desc := "(J)Ljava/lang/Long;" } : Jvm.MethodName) jdk_35_method_24_code (3 : Nat) (Option.some (Jvm.ClassFile.FieldType.object "java/lang/Long")), Jvm.Cond.code ({ cls := "java/lang/Long", name := "<init>", desc := "(J)V" } : Jvm.MethodName) jdk_35_method_26_code (3 : Nat) (Option.none : Option Jvm.ClassFile.FieldType), Jvm.Cond.code ({ cls := "java/lang/Number", name := "<init>", desc := "()V" } : Jvm.MethodName) jdk_18_method_1_code (1 : Nat) (Option.none : Option Jvm.ClassFile.FieldType)]
set_option maxRecDepth 65536 in
theorem codes_eq : words1.filter isCode = codes1 := rfl
theorem w_codes : ∀ c ∈ words1.filter isCode, c.before args0 about1 = true := by
  rw [codes_eq]
  intro c hc
  simp only [codes1, List.mem_cons, List.not_mem_nil, or_false] at hc
  rcases hc with rfl | rfl | rfl | rfl | rfl | rfl | rfl
  · exact w_c0
  · exact w_c1
  · exact w_c2
  · exact w_c3
  · exact w_c4
  · exact w_c5
  · exact w_c6
set_option maxRecDepth 65536 in
theorem w_t1 : (words1.take 24).all (fun c => isCode c || c.before args0 about1) = true := by decide +kernel
set_option maxRecDepth 65536 in
theorem w_t2 : (words1.drop 24).all (fun c => isCode c || c.before args0 about1) = true := by decide +kernel
theorem w_tables : (allAtoms (Jvm.Cond.code x code maxLocals ret :: tables_1)).before args0 about1 = true := by
  rw [allAtoms_all]
  show words1.all (fun c => c.before args0 about1) = true
  refine all_split ?_ w_codes
  rw [← List.take_append_drop 24 words1, List.all_append, w_t1, w_t2]
  rfl
set_option maxRecDepth 65536 in
theorem w_rest : rest_1_c.before args0 about1 = true := by decide +kernel
set_option maxRecDepth 65536 in
theorem w_case : (Jvm.Cond.and given_1 narrow_1).before args0 about1 = true := by decide +kernel
theorem w_applies : (headSpec (Jvm.Cond.code x code maxLocals ret :: tables_1) room_1).applies x e0.platform about1 = true :=
  (Spec.applies_iff w_frames).mpr ⟨w_running, w_runnable, w_alone, w_named, w_hears, w_ripe, w_room, w_tables⟩
theorem atStart : AtStart classFile x code maxLocals ret World_1 tables_1 room_1 Calls_1 rest_1 Pre_1 launch0 p0 e0 about1 theMethod args0 below0 :=
  ⟨lists_1, trivial, launch0.admits_env _ _ _, launch0.least_env, fairChoices_fair.cas, fairChoices_fair.clock, w_frames, w_args, w_heap, w_applies, trivial, w_rest, w_case⟩
end start1
theorem witness_1 : WitnessClaimed_1 := ⟨start1.p0, start1.e0, start1.about1, start1.theMethod, start1.args0, start1.below0, start1.atStart⟩
end Jvm.Pilot.@@N@@
