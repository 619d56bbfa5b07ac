import JvmDerived
import JvmDerived.Pilot.@@N@@Statement
import JvmDerived.Pilot.@@N@@Code
set_option linter.unusedVariables false
set_option linter.unusedSimpArgs false
@@BLOCK:NumsL.lean.txt@@
namespace Jvm.Pilot.@@N@@
open Jvm Jvm.ClassFile Sem Op Lib Jvm.Free Jvm.Stand Jvm.LawKit Jvm.RoadKit Bundle Jvm.Pilot.@@N@@.Jvm.D
section Own
variable {p : Program} {l : Launch} {e : Env} {R : Room} {s : State} {m : MethodId} {args : Array Value} {below : List Frame} {meth : Method} {c : Code} {own nm : String} {bytes : ByteArray} {ml : Nat} {ret : Option FieldType} {T : State} {locs : List Loc} {cells slots : Nat} {Z : State} {a0 : Array Value} {h : Heap} {n0 : Nat} {K : State → Outcome → Prop} {pc pc' pt : Nat} {L L' : Array Slot} {S : List Value}
/-- what is left of a run, from a state on -/
def Go (p : Program) (e : Env) (below : List Frame) (K : State → Outcome → Prop) (U : State) : Prop := ∃ s₂ o, Steps p.tables e below U s₂ ∧ s₂.status = .running ∧ Ended s₂ below o ∧ K s₂ o
theorem Go.of {U U' : State} (g : Go p e below K U') (st : ∀ t, Steps p.tables e below U' t → Steps p.tables e below U t) : Go p e below K U := by
  obtain ⟨s₂, o, h1, h2⟩ := g; exact ⟨s₂, o, st _ h1, h2⟩
/-- where a walk stands -/
def St (Z : State) (n0 : Nat) (p : Program) (l : Launch) (e : Env) (R : Room) (s : State) (m : MethodId) (args : Array Value) (below : List Frame) (meth : Method) (c : Code) (own nm : String) (bytes : ByteArray) (ml : Nat) (ret : Option FieldType) (T : State) (locs : List Loc) (cells slots : Nat) (h : Heap) : Prop :=
  Stand p l e R s m args below meth c T locs cells slots ∧ (p.tables.exec = Jvm.exec ∧ c.code = bytes ∧ c.maxLocals = ml ∧ s.vm.findClass own = some m.cls ∧ Z.Warmed39 s.vm ∧ meth.sig.returnType = ret ∧ meth.locks = false ∧ meth.name = nm) ∧ T.heap = h ∧ Fr n0 locs ∧ Old Z n0 h
theorem St.X (X : St Z n0 p l e R s m args below meth c own nm bytes ml ret T locs cells slots h) : Stand p l e R s m args below meth c T locs cells slots := X.1
theorem St.hx (X : St Z n0 p l e R s m args below meth c own nm bytes ml ret T locs cells slots h) : p.tables.exec = Jvm.exec := X.2.1.1
theorem St.by_ (X : St Z n0 p l e R s m args below meth c own nm bytes ml ret T locs cells slots h) : c.code = bytes := X.2.1.2.1
theorem St.ml_ (X : St Z n0 p l e R s m args below meth c own nm bytes ml ret T locs cells slots h) : c.maxLocals = ml := X.2.1.2.2.1
theorem St.own_ (X : St Z n0 p l e R s m args below meth c own nm bytes ml ret T locs cells slots h) : s.vm.findClass own = some m.cls := X.2.1.2.2.2.1
theorem St.hZ (X : St Z n0 p l e R s m args below meth c own nm bytes ml ret T locs cells slots h) : Z.Warmed39 s.vm := X.2.1.2.2.2.2.1
theorem St.ret_ (X : St Z n0 p l e R s m args below meth c own nm bytes ml ret T locs cells slots h) : meth.sig.returnType = ret := X.2.1.2.2.2.2.2.1
theorem St.lk (X : St Z n0 p l e R s m args below meth c own nm bytes ml ret T locs cells slots h) : meth.locks = false := X.2.1.2.2.2.2.2.2.1
theorem St.nm_ (X : St Z n0 p l e R s m args below meth c own nm bytes ml ret T locs cells slots h) : meth.name = nm := X.2.1.2.2.2.2.2.2.2
theorem St.eT (X : St Z n0 p l e R s m args below meth c own nm bytes ml ret T locs cells slots h) : T.heap = h := X.2.2.1
theorem St.fr (X : St Z n0 p l e R s m args below meth c own nm bytes ml ret T locs cells slots h) : Fr n0 locs := X.2.2.2.1
theorem St.old (X : St Z n0 p l e R s m args below meth c own nm bytes ml ret T locs cells slots h) : Old Z n0 h := X.2.2.2.2
theorem St.sz (X : St Z n0 p l e R s m args below meth c own nm bytes ml ret T locs cells slots h) : n0 ≤ h.size := X.2.2.2.2.1 ▸ X.2.2.2.2.2.1
theorem St.to (X : St Z n0 p l e R s m args below meth c own nm bytes ml ret T locs cells slots h) {T' : State} {locs' : List Loc} {cells' slots' : Nat} {h' : Heap} (Y : Stand p l e R s m args below meth c T' locs' cells' slots') (e' : T'.heap = h') (N : Fr n0 locs') (z : Old Z n0 h') : St Z n0 p l e R s m args below meth c own nm bytes ml ret T' locs' cells' slots' h' := ⟨Y, X.2.1, e', N, z⟩
theorem St.more (X : St Z n0 p l e R s m args below meth c own nm bytes ml ret T locs cells slots h) {c' n' : Nat} (q1 : cells ≤ c') (q2 : slots ≤ n') : St Z n0 p l e R s m args below meth c own nm bytes ml ret T locs c' n' h := ⟨X.X.mono q1 q2, X.2⟩
theorem St.d (X : St Z n0 p l e R s m args below meth c own nm bytes ml ret T locs cells slots h) {r : Except DecodeError (Instr × Nat)} (hd : decode bytes pc = r) : decode c.code pc = r := hb X.by_ hd
/-- a body's contract -/
def Con (l : Launch) (Z : State) (y : MethodName) (bytes : ByteArray) (ml : Nat) (ret : Option FieldType) (ws : List Jvm.Cond) (rm : Room) (C N : Nat) (as' : Array Value) (h : Heap) (Q : Option Value → Heap → List Loc → Prop) : Prop :=
  MetFree l y (head1 (Jvm.Cond.code y bytes ml ret :: ws) rm) (fun a U => a = as' ∧ Z.Warmed39 U.vm ∧ U.heap = h) (fun _ _ _ _ _ => True) (fun _ U o U' => ∃ v L, o = .returned v ∧ Q v U'.heap L ∧ FrameEnd U o U' L C N)
def Kq (s : State) (C N : Nat) (Q : Option Value → Heap → List Loc → Prop) (t : State) (o : Outcome) : Prop := ∃ v L, o = .returned v ∧ Q v t.heap L ∧ FrameEnd s o t L C N
theorem Con.intro {y : MethodName} {ws : List Jvm.Cond} {rm : Room} {C N : Nat} {as' : Array Value} {Q : Option Value → Heap → List Loc → Prop} (hy : plainFor y = true) (ef : ∀ m, entryFrame m as' ml = mkF m 0 L []) (hz : Old Z n0 h)
    (body : ∀ p e s m below meth c T, s.heap = h → St Z n0 p l e rm s m as' below meth c y.cls y.name bytes ml ret T [] 0 0 h → Go p e below (Kq s C N Q) (T.setTop (mkF m 0 L []))) : Con l Z y bytes ml ret ws rm C N as' h Q := by
  refine MetFree.of_bodySF hy hisR ?_
  intro p e s m args below meth c s₁ Bd hml0 hP hK
  obtain ⟨rfl, hZ, hh⟩ := hP
  have e0 : s₁.heap = h := by rw [← hh, Bd.state]; rfl
  obtain ⟨s₂, o, h1, h2, h3, h4⟩ := body p e s m below meth c s₁ hh ⟨Stand.of_body Bd, ⟨Bd.exec, Bd.bytes, hml0, findClass_of_methodNamed Bd.named, hZ, Bd.returns, Bd.notSynchronized, (name_of_methodNamed Bd.named Bd.method).1⟩, e0, Fr.nil n0, hz⟩
  exact ⟨s₂, o, castTop (ef m) h1, h2, h3, h4⟩
theorem go_eq {f g : JFrame} (q : f = g) (k : Go p e below K (T.setTop g)) : Go p e below K (T.setTop f) := q ▸ k
theorem g_iloadN (X : St Z n0 p l e R s m args below meth c own nm bytes ml ret T locs cells slots h) {k : Fin 4} {v : Int32} (hd : decode bytes pc = .ok (.iload_n k, 1)) (hp : pc + 1 = pc') (hl : L[k.val]? = some (.val (.int v))) (k : Go p e below K (T.setTop (mkF m pc' L (.int v :: S)))) : Go p e below K (T.setTop (mkF m pc L S)) := by
  subst hp; exact k.of (fun _ q => XS.iloadN X.X.here X.hx rfl (X.d hd) hl q)
theorem g_iload (X : St Z n0 p l e R s m args below meth c own nm bytes ml ret T locs cells slots h) {k : Nat} {v : Int32} (hd : decode bytes pc = .ok (.iload k, 2)) (hp : pc + 2 = pc') (hl : L[k]? = some (.val (.int v))) (k : Go p e below K (T.setTop (mkF m pc' L (.int v :: S)))) : Go p e below K (T.setTop (mkF m pc L S)) := by
  subst hp; exact k.of (fun _ q => XS.iload X.X.here X.hx rfl (X.d hd) hl q)
theorem g_lloadN (X : St Z n0 p l e R s m args below meth c own nm bytes ml ret T locs cells slots h) {k : Fin 4} {v : Int64} (hd : decode bytes pc = .ok (.lload_n k, 1)) (hp : pc + 1 = pc') (hl : L[k.val]? = some (.val (.long v))) (k : Go p e below K (T.setTop (mkF m pc' L (.long v :: S)))) : Go p e below K (T.setTop (mkF m pc L S)) := by
  subst hp; exact k.of (fun _ q => XS.lloadN X.X.here X.hx rfl (X.d hd) hl q)
theorem g_lload (X : St Z n0 p l e R s m args below meth c own nm bytes ml ret T locs cells slots h) {k : Nat} {v : Int64} (hd : decode bytes pc = .ok (.lload k, 2)) (hp : pc + 2 = pc') (hl : L[k]? = some (.val (.long v))) (k : Go p e below K (T.setTop (mkF m pc' L (.long v :: S)))) : Go p e below K (T.setTop (mkF m pc L S)) := by
  subst hp; exact k.of (fun _ q => XS.lload X.X.here X.hx rfl (X.d hd) hl q)
theorem g_aloadN (X : St Z n0 p l e R s m args below meth c own nm bytes ml ret T locs cells slots h) {k : Fin 4} {v : Value} (hd : decode bytes pc = .ok (.aload_n k, 1)) (hp : pc + 1 = pc') (hl : L[k.val]? = some (.val v)) (hv : v.isRef = true) (k : Go p e below K (T.setTop (mkF m pc' L (v :: S)))) : Go p e below K (T.setTop (mkF m pc L S)) := by
  subst hp; exact k.of (fun _ q => XS.aloadN X.X.here X.hx rfl (X.d hd) hl hv q)
theorem g_aload (X : St Z n0 p l e R s m args below meth c own nm bytes ml ret T locs cells slots h) {k : Nat} {v : Value} (hd : decode bytes pc = .ok (.aload k, 2)) (hp : pc + 2 = pc') (hl : L[k]? = some (.val v)) (hv : v.isRef = true) (k : Go p e below K (T.setTop (mkF m pc' L (v :: S)))) : Go p e below K (T.setTop (mkF m pc L S)) := by
  subst hp; exact k.of (fun _ q => XS.aload X.X.here X.hx rfl (X.d hd) hl hv q)
theorem g_istoreN (X : St Z n0 p l e R s m args below meth c own nm bytes ml ret T locs cells slots h) {k : Fin 4} {v : Int32} (hd : decode bytes pc = .ok (.istore_n k, 1)) (hp : pc + 1 = pc') (hl : storeLocals L k.val (.int v) = some L') (k : Go p e below K (T.setTop (mkF m pc' L' S))) : Go p e below K (T.setTop (mkF m pc L (.int v :: S))) := by
  subst hp; exact k.of (fun _ q => XS.istoreN X.X.here X.hx rfl (X.d hd) rfl hl q)
theorem g_istore (X : St Z n0 p l e R s m args below meth c own nm bytes ml ret T locs cells slots h) {k : Nat} {v : Int32} (hd : decode bytes pc = .ok (.istore k, 2)) (hp : pc + 2 = pc') (hl : storeLocals L k (.int v) = some L') (k : Go p e below K (T.setTop (mkF m pc' L' S))) : Go p e below K (T.setTop (mkF m pc L (.int v :: S))) := by
  subst hp; exact k.of (fun _ q => XS.istore X.X.here X.hx rfl (X.d hd) rfl hl q)
theorem g_lstoreN (X : St Z n0 p l e R s m args below meth c own nm bytes ml ret T locs cells slots h) {k : Fin 4} {v : Int64} (hd : decode bytes pc = .ok (.lstore_n k, 1)) (hp : pc + 1 = pc') (hl : storeLocals L k.val (.long v) = some L') (k : Go p e below K (T.setTop (mkF m pc' L' S))) : Go p e below K (T.setTop (mkF m pc L (.long v :: S))) := by
  subst hp; exact k.of (fun _ q => XS.lstoreN X.X.here X.hx rfl (X.d hd) rfl hl q)
theorem g_lstore (X : St Z n0 p l e R s m args below meth c own nm bytes ml ret T locs cells slots h) {k : Nat} {v : Int64} (hd : decode bytes pc = .ok (.lstore k, 2)) (hp : pc + 2 = pc') (hl : storeLocals L k (.long v) = some L') (k : Go p e below K (T.setTop (mkF m pc' L' S))) : Go p e below K (T.setTop (mkF m pc L (.long v :: S))) := by
  subst hp; exact k.of (fun _ q => XS.lstore X.X.here X.hx rfl (X.d hd) rfl hl q)
theorem g_astoreN (X : St Z n0 p l e R s m args below meth c own nm bytes ml ret T locs cells slots h) {k : Fin 4} {v : Value} (hd : decode bytes pc = .ok (.astore_n k, 1)) (hp : pc + 1 = pc') (hv : v.isRef = true) (hl : storeLocals L k.val v = some L') (k : Go p e below K (T.setTop (mkF m pc' L' S))) : Go p e below K (T.setTop (mkF m pc L (v :: S))) := by
  subst hp; exact k.of (fun _ q => XS.astoreN X.X.here X.hx rfl (X.d hd) rfl hv hl q)
theorem g_astore (X : St Z n0 p l e R s m args below meth c own nm bytes ml ret T locs cells slots h) {k : Nat} {v : Value} (hd : decode bytes pc = .ok (.astore k, 2)) (hp : pc + 2 = pc') (hv : v.isRef = true) (hl : storeLocals L k v = some L') (k : Go p e below K (T.setTop (mkF m pc' L' S))) : Go p e below K (T.setTop (mkF m pc L (v :: S))) := by
  subst hp; exact k.of (fun _ q => XS.astore X.X.here X.hx rfl (X.d hd) rfl hv hl q)
theorem g_iinc (X : St Z n0 p l e R s m args below meth c own nm bytes ml ret T locs cells slots h) {k : Nat} {z : Int} {v : Int32} (hd : decode bytes pc = .ok (.iinc k z, 3)) (hp : pc + 3 = pc') (hl : L[k]? = some (.val (.int v))) (hl' : storeLocals L k (.int (v + Int32.ofInt z)) = some L') (k : Go p e below K (T.setTop (mkF m pc' L' S))) : Go p e below K (T.setTop (mkF m pc L S)) := by
  subst hp; exact k.of (fun _ q => XS.iinc X.X.here X.hx rfl (X.d hd) hl hl' q)
theorem g_iconst (X : St Z n0 p l e R s m args below meth c own nm bytes ml ret T locs cells slots h) {i : Int} {v : Int32} (hd : decode bytes pc = .ok (.iconst i, 1)) (hp : pc + 1 = pc') (hv : Int32.ofInt i = v) (k : Go p e below K (T.setTop (mkF m pc' L (.int v :: S)))) : Go p e below K (T.setTop (mkF m pc L S)) := by
  subst hp; exact k.of (fun _ q => XS.iconst X.X.here X.hx rfl (X.d hd) (hv ▸ q))
theorem g_bipush (X : St Z n0 p l e R s m args below meth c own nm bytes ml ret T locs cells slots h) {i : Int} {v : Int32} (hd : decode bytes pc = .ok (.bipush i, 2)) (hp : pc + 2 = pc') (hv : (Int8.ofInt i).toInt32 = v) (k : Go p e below K (T.setTop (mkF m pc' L (.int v :: S)))) : Go p e below K (T.setTop (mkF m pc L S)) := by
  subst hp; exact k.of (fun _ q => XS.bipush X.X.here X.hx rfl (X.d hd) (hv ▸ q))
theorem g_sipush (X : St Z n0 p l e R s m args below meth c own nm bytes ml ret T locs cells slots h) {i : Int} {v : Int32} (hd : decode bytes pc = .ok (.sipush i, 3)) (hp : pc + 3 = pc') (hv : (Int16.ofInt i).toInt32 = v) (k : Go p e below K (T.setTop (mkF m pc' L (.int v :: S)))) : Go p e below K (T.setTop (mkF m pc L S)) := by
  subst hp; exact k.of (fun _ q => XS.sipush X.X.here X.hx rfl (X.d hd) (hv ▸ q))
theorem g_lconst (X : St Z n0 p l e R s m args below meth c own nm bytes ml ret T locs cells slots h) {i : Fin 2} {v : Int64} (hd : decode bytes pc = .ok (.lconst i, 1)) (hp : pc + 1 = pc') (hv : Int64.ofNat i = v) (k : Go p e below K (T.setTop (mkF m pc' L (.long v :: S)))) : Go p e below K (T.setTop (mkF m pc L S)) := by
  subst hp; exact k.of (fun _ q => XS.lconst X.X.here X.hx rfl (X.d hd) (hv ▸ q))
theorem g_aconst_null (X : St Z n0 p l e R s m args below meth c own nm bytes ml ret T locs cells slots h) (hd : decode bytes pc = .ok (.aconst_null, 1)) (hp : pc + 1 = pc') (k : Go p e below K (T.setTop (mkF m pc' L (.null :: S)))) : Go p e below K (T.setTop (mkF m pc L S)) := by
  subst hp; exact k.of (fun _ q => XS.aconstNull X.X.here X.hx rfl (X.d hd) q)
theorem g_iadd (X : St Z n0 p l e R s m args below meth c own nm bytes ml ret T locs cells slots h) {x y : Int32} (hd : decode bytes pc = .ok (.iadd, 1)) (hp : pc + 1 = pc') (k : Go p e below K (T.setTop (mkF m pc' L (.int (x + y) :: S)))) : Go p e below K (T.setTop (mkF m pc L (.int y :: .int x :: S))) := by
  subst hp; exact k.of (fun _ q => XS.iadd X.X.here X.hx rfl (X.d hd) rfl q)
theorem g_isub (X : St Z n0 p l e R s m args below meth c own nm bytes ml ret T locs cells slots h) {x y : Int32} (hd : decode bytes pc = .ok (.isub, 1)) (hp : pc + 1 = pc') (k : Go p e below K (T.setTop (mkF m pc' L (.int (x - y) :: S)))) : Go p e below K (T.setTop (mkF m pc L (.int y :: .int x :: S))) := by
  subst hp; exact k.of (fun _ q => XS.isub X.X.here X.hx rfl (X.d hd) rfl q)
theorem g_imul (X : St Z n0 p l e R s m args below meth c own nm bytes ml ret T locs cells slots h) {x y : Int32} (hd : decode bytes pc = .ok (.imul, 1)) (hp : pc + 1 = pc') (k : Go p e below K (T.setTop (mkF m pc' L (.int (x * y) :: S)))) : Go p e below K (T.setTop (mkF m pc L (.int y :: .int x :: S))) := by
  subst hp; exact k.of (fun _ q => XS.imul X.X.here X.hx rfl (X.d hd) rfl q)
theorem g_iand (X : St Z n0 p l e R s m args below meth c own nm bytes ml ret T locs cells slots h) {x y : Int32} (hd : decode bytes pc = .ok (.iand, 1)) (hp : pc + 1 = pc') (k : Go p e below K (T.setTop (mkF m pc' L (.int (x &&& y) :: S)))) : Go p e below K (T.setTop (mkF m pc L (.int y :: .int x :: S))) := by
  subst hp; exact k.of (fun _ q => XS.iand X.X.here X.hx rfl (X.d hd) rfl q)
theorem g_ior (X : St Z n0 p l e R s m args below meth c own nm bytes ml ret T locs cells slots h) {x y : Int32} (hd : decode bytes pc = .ok (.ior, 1)) (hp : pc + 1 = pc') (k : Go p e below K (T.setTop (mkF m pc' L (.int (x ||| y) :: S)))) : Go p e below K (T.setTop (mkF m pc L (.int y :: .int x :: S))) := by
  subst hp; exact k.of (fun _ q => XS.ior X.X.here X.hx rfl (X.d hd) rfl q)
theorem g_ixor (X : St Z n0 p l e R s m args below meth c own nm bytes ml ret T locs cells slots h) {x y : Int32} (hd : decode bytes pc = .ok (.ixor, 1)) (hp : pc + 1 = pc') (k : Go p e below K (T.setTop (mkF m pc' L (.int (x ^^^ y) :: S)))) : Go p e below K (T.setTop (mkF m pc L (.int y :: .int x :: S))) := by
  subst hp; exact k.of (fun _ q => XS.ixor X.X.here X.hx rfl (X.d hd) rfl q)
theorem g_ishl (X : St Z n0 p l e R s m args below meth c own nm bytes ml ret T locs cells slots h) {x y : Int32} (hd : decode bytes pc = .ok (.ishl, 1)) (hp : pc + 1 = pc') (k : Go p e below K (T.setTop (mkF m pc' L (.int (x <<< (y &&& 31)) :: S)))) : Go p e below K (T.setTop (mkF m pc L (.int y :: .int x :: S))) := by
  subst hp; exact k.of (fun _ q => XS.ishl X.X.here X.hx rfl (X.d hd) rfl q)
theorem g_ishr (X : St Z n0 p l e R s m args below meth c own nm bytes ml ret T locs cells slots h) {x y : Int32} (hd : decode bytes pc = .ok (.ishr, 1)) (hp : pc + 1 = pc') (k : Go p e below K (T.setTop (mkF m pc' L (.int (x >>> (y &&& 31)) :: S)))) : Go p e below K (T.setTop (mkF m pc L (.int y :: .int x :: S))) := by
  subst hp; exact k.of (fun _ q => XS.ishr X.X.here X.hx rfl (X.d hd) rfl q)
theorem g_iushr (X : St Z n0 p l e R s m args below meth c own nm bytes ml ret T locs cells slots h) {x y : Int32} (hd : decode bytes pc = .ok (.iushr, 1)) (hp : pc + 1 = pc') (k : Go p e below K (T.setTop (mkF m pc' L (.int ((x.toUInt32 >>> (y &&& 31).toUInt32).toInt32) :: S)))) : Go p e below K (T.setTop (mkF m pc L (.int y :: .int x :: S))) := by
  subst hp; exact k.of (fun _ q => XS.iushr X.X.here X.hx rfl (X.d hd) rfl q)
theorem g_idiv (X : St Z n0 p l e R s m args below meth c own nm bytes ml ret T locs cells slots h) {x y : Int32} (hd : decode bytes pc = .ok (.idiv, 1)) (hp : pc + 1 = pc') (hy : y ≠ 0) (k : Go p e below K (T.setTop (mkF m pc' L (.int (x / y) :: S)))) : Go p e below K (T.setTop (mkF m pc L (.int y :: .int x :: S))) := by
  subst hp; exact k.of (fun _ q => XS.idiv X.X.here X.hx rfl (X.d hd) rfl hy q)
theorem g_irem (X : St Z n0 p l e R s m args below meth c own nm bytes ml ret T locs cells slots h) {x y : Int32} (hd : decode bytes pc = .ok (.irem, 1)) (hp : pc + 1 = pc') (hy : y ≠ 0) (k : Go p e below K (T.setTop (mkF m pc' L (.int (x % y) :: S)))) : Go p e below K (T.setTop (mkF m pc L (.int y :: .int x :: S))) := by
  subst hp; exact k.of (fun _ q => iremM X.X X.hx rfl (X.d hd) rfl hy q)
theorem g_ladd (X : St Z n0 p l e R s m args below meth c own nm bytes ml ret T locs cells slots h) {x y : Int64} (hd : decode bytes pc = .ok (.ladd, 1)) (hp : pc + 1 = pc') (k : Go p e below K (T.setTop (mkF m pc' L (.long (x + y) :: S)))) : Go p e below K (T.setTop (mkF m pc L (.long y :: .long x :: S))) := by
  subst hp; exact k.of (fun _ q => XS.ladd X.X.here X.hx rfl (X.d hd) rfl q)
theorem g_lsub (X : St Z n0 p l e R s m args below meth c own nm bytes ml ret T locs cells slots h) {x y : Int64} (hd : decode bytes pc = .ok (.lsub, 1)) (hp : pc + 1 = pc') (k : Go p e below K (T.setTop (mkF m pc' L (.long (x - y) :: S)))) : Go p e below K (T.setTop (mkF m pc L (.long y :: .long x :: S))) := by
  subst hp; exact k.of (fun _ q => XS.lsub X.X.here X.hx rfl (X.d hd) rfl q)
theorem g_lmul (X : St Z n0 p l e R s m args below meth c own nm bytes ml ret T locs cells slots h) {x y : Int64} (hd : decode bytes pc = .ok (.lmul, 1)) (hp : pc + 1 = pc') (k : Go p e below K (T.setTop (mkF m pc' L (.long (x * y) :: S)))) : Go p e below K (T.setTop (mkF m pc L (.long y :: .long x :: S))) := by
  subst hp; exact k.of (fun _ q => XS.lmul X.X.here X.hx rfl (X.d hd) rfl q)
theorem g_land (X : St Z n0 p l e R s m args below meth c own nm bytes ml ret T locs cells slots h) {x y : Int64} (hd : decode bytes pc = .ok (.land, 1)) (hp : pc + 1 = pc') (k : Go p e below K (T.setTop (mkF m pc' L (.long (x &&& y) :: S)))) : Go p e below K (T.setTop (mkF m pc L (.long y :: .long x :: S))) := by
  subst hp; exact k.of (fun _ q => XS.land X.X.here X.hx rfl (X.d hd) rfl q)
theorem g_lor (X : St Z n0 p l e R s m args below meth c own nm bytes ml ret T locs cells slots h) {x y : Int64} (hd : decode bytes pc = .ok (.lor, 1)) (hp : pc + 1 = pc') (k : Go p e below K (T.setTop (mkF m pc' L (.long (x ||| y) :: S)))) : Go p e below K (T.setTop (mkF m pc L (.long y :: .long x :: S))) := by
  subst hp; exact k.of (fun _ q => XS.lor X.X.here X.hx rfl (X.d hd) rfl q)
theorem g_lxor (X : St Z n0 p l e R s m args below meth c own nm bytes ml ret T locs cells slots h) {x y : Int64} (hd : decode bytes pc = .ok (.lxor, 1)) (hp : pc + 1 = pc') (k : Go p e below K (T.setTop (mkF m pc' L (.long (x ^^^ y) :: S)))) : Go p e below K (T.setTop (mkF m pc L (.long y :: .long x :: S))) := by
  subst hp; exact k.of (fun _ q => XS.lxor X.X.here X.hx rfl (X.d hd) rfl q)
theorem g_ldiv (X : St Z n0 p l e R s m args below meth c own nm bytes ml ret T locs cells slots h) {x y : Int64} (hd : decode bytes pc = .ok (.ldiv, 1)) (hp : pc + 1 = pc') (hy : y ≠ 0) (k : Go p e below K (T.setTop (mkF m pc' L (.long (x / y) :: S)))) : Go p e below K (T.setTop (mkF m pc L (.long y :: .long x :: S))) := by
  subst hp; exact k.of (fun _ q => XS.ldiv X.X.here X.hx rfl (X.d hd) rfl hy q)
theorem g_lrem (X : St Z n0 p l e R s m args below meth c own nm bytes ml ret T locs cells slots h) {x y : Int64} (hd : decode bytes pc = .ok (.lrem, 1)) (hp : pc + 1 = pc') (hy : y ≠ 0) (k : Go p e below K (T.setTop (mkF m pc' L (.long (x - (x / y) * y) :: S)))) : Go p e below K (T.setTop (mkF m pc L (.long y :: .long x :: S))) := by
  subst hp; exact k.of (fun _ q => XS.lrem X.X.here X.hx rfl (X.d hd) rfl hy q)
theorem g_lshl (X : St Z n0 p l e R s m args below meth c own nm bytes ml ret T locs cells slots h) {x : Int64} {y : Int32} (hd : decode bytes pc = .ok (.lshl, 1)) (hp : pc + 1 = pc') (k : Go p e below K (T.setTop (mkF m pc' L (.long (x <<< (y &&& 0x3f).toInt64) :: S)))) : Go p e below K (T.setTop (mkF m pc L (.int y :: .long x :: S))) := by
  subst hp; exact k.of (fun _ q => XS.lshl X.X.here X.hx rfl (X.d hd) rfl q)
theorem g_lshr (X : St Z n0 p l e R s m args below meth c own nm bytes ml ret T locs cells slots h) {x : Int64} {y : Int32} (hd : decode bytes pc = .ok (.lshr, 1)) (hp : pc + 1 = pc') (k : Go p e below K (T.setTop (mkF m pc' L (.long (x >>> (y &&& 0x3f).toInt64) :: S)))) : Go p e below K (T.setTop (mkF m pc L (.int y :: .long x :: S))) := by
  subst hp; exact k.of (fun _ q => XS.lshr X.X.here X.hx rfl (X.d hd) rfl q)
theorem g_lushr (X : St Z n0 p l e R s m args below meth c own nm bytes ml ret T locs cells slots h) {x : Int64} {y : Int32} (hd : decode bytes pc = .ok (.lushr, 1)) (hp : pc + 1 = pc') (k : Go p e below K (T.setTop (mkF m pc' L (.long ((x.toUInt64 >>> (y &&& 0x3f).toInt64.toUInt64).toInt64) :: S)))) : Go p e below K (T.setTop (mkF m pc L (.int y :: .long x :: S))) := by
  subst hp; exact k.of (fun _ q => XS.lushr X.X.here X.hx rfl (X.d hd) rfl q)
theorem g_i2b (X : St Z n0 p l e R s m args below meth c own nm bytes ml ret T locs cells slots h) {v : Int32} (hd : decode bytes pc = .ok (.i2b, 1)) (hp : pc + 1 = pc') (k : Go p e below K (T.setTop (mkF m pc' L (.int (v.toInt8.toInt32) :: S)))) : Go p e below K (T.setTop (mkF m pc L (.int v :: S))) := by
  subst hp; exact k.of (fun _ q => XS.i2b X.X.here X.hx rfl (X.d hd) rfl q)
theorem g_i2c (X : St Z n0 p l e R s m args below meth c own nm bytes ml ret T locs cells slots h) {v : Int32} (hd : decode bytes pc = .ok (.i2c, 1)) (hp : pc + 1 = pc') (k : Go p e below K (T.setTop (mkF m pc' L (.int (v.toUInt32.toUInt16.toUInt32.toInt32) :: S)))) : Go p e below K (T.setTop (mkF m pc L (.int v :: S))) := by
  subst hp; exact k.of (fun _ q => XS.i2c X.X.here X.hx rfl (X.d hd) rfl q)
theorem g_i2s (X : St Z n0 p l e R s m args below meth c own nm bytes ml ret T locs cells slots h) {v : Int32} (hd : decode bytes pc = .ok (.i2s, 1)) (hp : pc + 1 = pc') (k : Go p e below K (T.setTop (mkF m pc' L (.int (v.toInt16.toInt32) :: S)))) : Go p e below K (T.setTop (mkF m pc L (.int v :: S))) := by
  subst hp; exact k.of (fun _ q => XS.i2s X.X.here X.hx rfl (X.d hd) rfl q)
theorem g_ineg (X : St Z n0 p l e R s m args below meth c own nm bytes ml ret T locs cells slots h) {v : Int32} (hd : decode bytes pc = .ok (.ineg, 1)) (hp : pc + 1 = pc') (k : Go p e below K (T.setTop (mkF m pc' L (.int (-v) :: S)))) : Go p e below K (T.setTop (mkF m pc L (.int v :: S))) := by
  subst hp; exact k.of (fun _ q => XS.ineg X.X.here X.hx rfl (X.d hd) rfl q)
theorem g_i2l (X : St Z n0 p l e R s m args below meth c own nm bytes ml ret T locs cells slots h) {v : Int32} (hd : decode bytes pc = .ok (.i2l, 1)) (hp : pc + 1 = pc') (k : Go p e below K (T.setTop (mkF m pc' L (.long (v.toInt64) :: S)))) : Go p e below K (T.setTop (mkF m pc L (.int v :: S))) := by
  subst hp; exact k.of (fun _ q => XS.i2l X.X.here X.hx rfl (X.d hd) rfl q)
theorem g_l2i (X : St Z n0 p l e R s m args below meth c own nm bytes ml ret T locs cells slots h) {v : Int64} (hd : decode bytes pc = .ok (.l2i, 1)) (hp : pc + 1 = pc') (k : Go p e below K (T.setTop (mkF m pc' L (.int (v.toInt32) :: S)))) : Go p e below K (T.setTop (mkF m pc L (.long v :: S))) := by
  subst hp; exact k.of (fun _ q => XS.l2i X.X.here X.hx rfl (X.d hd) rfl q)
theorem g_lneg (X : St Z n0 p l e R s m args below meth c own nm bytes ml ret T locs cells slots h) {v : Int64} (hd : decode bytes pc = .ok (.lneg, 1)) (hp : pc + 1 = pc') (k : Go p e below K (T.setTop (mkF m pc' L (.long (-v) :: S)))) : Go p e below K (T.setTop (mkF m pc L (.long v :: S))) := by
  subst hp; exact k.of (fun _ q => XS.lneg X.X.here X.hx rfl (X.d hd) rfl q)
theorem g_lcmp (X : St Z n0 p l e R s m args below meth c own nm bytes ml ret T locs cells slots h) {x y : Int64} (hd : decode bytes pc = .ok (.lcmp, 1)) (hp : pc + 1 = pc') (k : Go p e below K (T.setTop (mkF m pc' L (.int (lcmpW x y) :: S)))) : Go p e below K (T.setTop (mkF m pc L (.long y :: .long x :: S))) := by
  subst hp; exact k.of (fun _ q => XS.lcmp X.X.here X.hx rfl (X.d hd) rfl q)
theorem g_dup (X : St Z n0 p l e R s m args below meth c own nm bytes ml ret T locs cells slots h) {v : Value} (hd : decode bytes pc = .ok (.dup, 1)) (hp : pc + 1 = pc') (hc : v.category = 1) (k : Go p e below K (T.setTop (mkF m pc' L (v :: v :: S)))) : Go p e below K (T.setTop (mkF m pc L (v :: S))) := by
  subst hp; exact k.of (fun _ q => XS.dup X.X.here X.hx rfl (X.d hd) rfl hc q)
theorem g_pop (X : St Z n0 p l e R s m args below meth c own nm bytes ml ret T locs cells slots h) {v : Value} (hd : decode bytes pc = .ok (.pop, 1)) (hp : pc + 1 = pc') (hc : v.category = 1) (k : Go p e below K (T.setTop (mkF m pc' L S))) : Go p e below K (T.setTop (mkF m pc L (v :: S))) := by
  subst hp; exact k.of (fun _ q => XS.pop X.X.here X.hx rfl (X.d hd) rfl hc q)
theorem g_dup_x1 (X : St Z n0 p l e R s m args below meth c own nm bytes ml ret T locs cells slots h) {v w : Value} (hd : decode bytes pc = .ok (.dup_x1, 1)) (hp : pc + 1 = pc') (hc : v.category = 1) (hc2 : w.category = 1) (k : Go p e below K (T.setTop (mkF m pc' L (v :: w :: v :: S)))) : Go p e below K (T.setTop (mkF m pc L (v :: w :: S))) := by
  subst hp; exact k.of (fun _ q => XS.dupX1 X.X.here X.hx rfl (X.d hd) rfl hc hc2 q)
theorem g_goto (X : St Z n0 p l e R s m args below meth c own nm bytes ml ret T locs cells slots h) {o : Int} (hd : decode bytes pc = .ok (.goto o, 3)) (ho : (pc : Int) + o = (pt : Int)) (k : Go p e below K (T.setTop (mkF m pt L S))) : Go p e below K (T.setTop (mkF m pc L S)) :=
  k.of (fun _ q => XS.goto X.X.here X.hx rfl rfl (X.d hd) (ho ▸ Int.natCast_nonneg _) (by rw [ho]; rfl) q)
theorem g_icmp_eq_t (X : St Z n0 p l e R s m args below meth c own nm bytes ml ret T locs cells slots h) {x y : Int32} {o : Int} (hd : decode bytes pc = .ok (.if_icmp .eq o, 3)) (ho : (pc : Int) + o = (pt : Int)) (hc : x = y) (k : Go p e below K (T.setTop (mkF m pt L S))) : Go p e below K (T.setTop (mkF m pc L (.int y :: .int x :: S))) :=
  k.of (fun _ q => XS.icmpYes X.X.here X.hx rfl rfl (X.d hd) rfl ((teq hc).1) (ho ▸ Int.natCast_nonneg _) (by rw [ho]; rfl) q)
theorem g_icmp_eq_f (X : St Z n0 p l e R s m args below meth c own nm bytes ml ret T locs cells slots h) {x y : Int32} {o : Int} (hd : decode bytes pc = .ok (.if_icmp .eq o, 3)) (hp : pc + 3 = pc') (hc : ¬ x = y) (k : Go p e below K (T.setTop (mkF m pc' L S))) : Go p e below K (T.setTop (mkF m pc L (.int y :: .int x :: S))) := by
  subst hp; exact k.of (fun _ q => XS.icmpNo X.X.here X.hx rfl (X.d hd) rfl ((feq hc).1) q)
theorem g_icmp_eq (X : St Z n0 p l e R s m args below meth c own nm bytes ml ret T locs cells slots h) {x y : Int32} {o : Int} (hd : decode bytes pc = .ok (.if_icmp .eq o, 3)) (ho : (pc : Int) + o = (pt : Int)) (hp : pc + 3 = pc') (yes : x = y → Go p e below K (T.setTop (mkF m pt L S))) (no : ¬ x = y → Go p e below K (T.setTop (mkF m pc' L S))) : Go p e below K (T.setTop (mkF m pc L (.int y :: .int x :: S))) := by
  by_cases hc : x = y
  · exact g_icmp_eq_t X hd ho hc (yes hc)
  · exact g_icmp_eq_f X hd hp hc (no hc)
theorem g_if_eq_t (X : St Z n0 p l e R s m args below meth c own nm bytes ml ret T locs cells slots h) {x : Int32} {o : Int} (hd : decode bytes pc = .ok (.ifCond .eq o, 3)) (ho : (pc : Int) + o = (pt : Int)) (hc : x = 0) (k : Go p e below K (T.setTop (mkF m pt L S))) : Go p e below K (T.setTop (mkF m pc L (.int x :: S))) :=
  k.of (fun _ q => XS.ifYes X.X.here X.hx rfl rfl (X.d hd) rfl ((if0 _ _).trans ((teq hc).1)) (ho ▸ Int.natCast_nonneg _) (by rw [ho]; rfl) q)
theorem g_if_eq_f (X : St Z n0 p l e R s m args below meth c own nm bytes ml ret T locs cells slots h) {x : Int32} {o : Int} (hd : decode bytes pc = .ok (.ifCond .eq o, 3)) (hp : pc + 3 = pc') (hc : ¬ x = 0) (k : Go p e below K (T.setTop (mkF m pc' L S))) : Go p e below K (T.setTop (mkF m pc L (.int x :: S))) := by
  subst hp; exact k.of (fun _ q => XS.ifNo X.X.here X.hx rfl (X.d hd) rfl ((if0 _ _).trans ((feq hc).1)) q)
theorem g_if_eq (X : St Z n0 p l e R s m args below meth c own nm bytes ml ret T locs cells slots h) {x : Int32} {o : Int} (hd : decode bytes pc = .ok (.ifCond .eq o, 3)) (ho : (pc : Int) + o = (pt : Int)) (hp : pc + 3 = pc') (yes : x = 0 → Go p e below K (T.setTop (mkF m pt L S))) (no : ¬ x = 0 → Go p e below K (T.setTop (mkF m pc' L S))) : Go p e below K (T.setTop (mkF m pc L (.int x :: S))) := by
  by_cases hc : x = 0
  · exact g_if_eq_t X hd ho hc (yes hc)
  · exact g_if_eq_f X hd hp hc (no hc)
theorem g_icmp_ne_t (X : St Z n0 p l e R s m args below meth c own nm bytes ml ret T locs cells slots h) {x y : Int32} {o : Int} (hd : decode bytes pc = .ok (.if_icmp .ne o, 3)) (ho : (pc : Int) + o = (pt : Int)) (hc : ¬ x = y) (k : Go p e below K (T.setTop (mkF m pt L S))) : Go p e below K (T.setTop (mkF m pc L (.int y :: .int x :: S))) :=
  k.of (fun _ q => XS.icmpYes X.X.here X.hx rfl rfl (X.d hd) rfl ((feq hc).2) (ho ▸ Int.natCast_nonneg _) (by rw [ho]; rfl) q)
theorem g_icmp_ne_f (X : St Z n0 p l e R s m args below meth c own nm bytes ml ret T locs cells slots h) {x y : Int32} {o : Int} (hd : decode bytes pc = .ok (.if_icmp .ne o, 3)) (hp : pc + 3 = pc') (hc : x = y) (k : Go p e below K (T.setTop (mkF m pc' L S))) : Go p e below K (T.setTop (mkF m pc L (.int y :: .int x :: S))) := by
  subst hp; exact k.of (fun _ q => XS.icmpNo X.X.here X.hx rfl (X.d hd) rfl ((teq hc).2) q)
theorem g_icmp_ne (X : St Z n0 p l e R s m args below meth c own nm bytes ml ret T locs cells slots h) {x y : Int32} {o : Int} (hd : decode bytes pc = .ok (.if_icmp .ne o, 3)) (ho : (pc : Int) + o = (pt : Int)) (hp : pc + 3 = pc') (yes : ¬ x = y → Go p e below K (T.setTop (mkF m pt L S))) (no : x = y → Go p e below K (T.setTop (mkF m pc' L S))) : Go p e below K (T.setTop (mkF m pc L (.int y :: .int x :: S))) := by
  by_cases hc : x = y
  · exact g_icmp_ne_f X hd hp hc (no hc)
  · exact g_icmp_ne_t X hd ho hc (yes hc)
theorem g_if_ne_t (X : St Z n0 p l e R s m args below meth c own nm bytes ml ret T locs cells slots h) {x : Int32} {o : Int} (hd : decode bytes pc = .ok (.ifCond .ne o, 3)) (ho : (pc : Int) + o = (pt : Int)) (hc : ¬ x = 0) (k : Go p e below K (T.setTop (mkF m pt L S))) : Go p e below K (T.setTop (mkF m pc L (.int x :: S))) :=
  k.of (fun _ q => XS.ifYes X.X.here X.hx rfl rfl (X.d hd) rfl ((if0 _ _).trans ((feq hc).2)) (ho ▸ Int.natCast_nonneg _) (by rw [ho]; rfl) q)
theorem g_if_ne_f (X : St Z n0 p l e R s m args below meth c own nm bytes ml ret T locs cells slots h) {x : Int32} {o : Int} (hd : decode bytes pc = .ok (.ifCond .ne o, 3)) (hp : pc + 3 = pc') (hc : x = 0) (k : Go p e below K (T.setTop (mkF m pc' L S))) : Go p e below K (T.setTop (mkF m pc L (.int x :: S))) := by
  subst hp; exact k.of (fun _ q => XS.ifNo X.X.here X.hx rfl (X.d hd) rfl ((if0 _ _).trans ((teq hc).2)) q)
theorem g_if_ne (X : St Z n0 p l e R s m args below meth c own nm bytes ml ret T locs cells slots h) {x : Int32} {o : Int} (hd : decode bytes pc = .ok (.ifCond .ne o, 3)) (ho : (pc : Int) + o = (pt : Int)) (hp : pc + 3 = pc') (yes : ¬ x = 0 → Go p e below K (T.setTop (mkF m pt L S))) (no : x = 0 → Go p e below K (T.setTop (mkF m pc' L S))) : Go p e below K (T.setTop (mkF m pc L (.int x :: S))) := by
  by_cases hc : x = 0
  · exact g_if_ne_f X hd hp hc (no hc)
  · exact g_if_ne_t X hd ho hc (yes hc)
theorem g_icmp_lt_t (X : St Z n0 p l e R s m args below meth c own nm bytes ml ret T locs cells slots h) {x y : Int32} {o : Int} (hd : decode bytes pc = .ok (.if_icmp .lt o, 3)) (ho : (pc : Int) + o = (pt : Int)) (hc : x < y) (k : Go p e below K (T.setTop (mkF m pt L S))) : Go p e below K (T.setTop (mkF m pc L (.int y :: .int x :: S))) :=
  k.of (fun _ q => XS.icmpYes X.X.here X.hx rfl rfl (X.d hd) rfl ((tlt hc).1) (ho ▸ Int.natCast_nonneg _) (by rw [ho]; rfl) q)
theorem g_icmp_lt_f (X : St Z n0 p l e R s m args below meth c own nm bytes ml ret T locs cells slots h) {x y : Int32} {o : Int} (hd : decode bytes pc = .ok (.if_icmp .lt o, 3)) (hp : pc + 3 = pc') (hc : ¬ x < y) (k : Go p e below K (T.setTop (mkF m pc' L S))) : Go p e below K (T.setTop (mkF m pc L (.int y :: .int x :: S))) := by
  subst hp; exact k.of (fun _ q => XS.icmpNo X.X.here X.hx rfl (X.d hd) rfl ((flt hc).1) q)
theorem g_icmp_lt (X : St Z n0 p l e R s m args below meth c own nm bytes ml ret T locs cells slots h) {x y : Int32} {o : Int} (hd : decode bytes pc = .ok (.if_icmp .lt o, 3)) (ho : (pc : Int) + o = (pt : Int)) (hp : pc + 3 = pc') (yes : x < y → Go p e below K (T.setTop (mkF m pt L S))) (no : ¬ x < y → Go p e below K (T.setTop (mkF m pc' L S))) : Go p e below K (T.setTop (mkF m pc L (.int y :: .int x :: S))) := by
  by_cases hc : x < y
  · exact g_icmp_lt_t X hd ho hc (yes hc)
  · exact g_icmp_lt_f X hd hp hc (no hc)
theorem g_if_lt_t (X : St Z n0 p l e R s m args below meth c own nm bytes ml ret T locs cells slots h) {x : Int32} {o : Int} (hd : decode bytes pc = .ok (.ifCond .lt o, 3)) (ho : (pc : Int) + o = (pt : Int)) (hc : x < 0) (k : Go p e below K (T.setTop (mkF m pt L S))) : Go p e below K (T.setTop (mkF m pc L (.int x :: S))) :=
  k.of (fun _ q => XS.ifYes X.X.here X.hx rfl rfl (X.d hd) rfl ((if0 _ _).trans ((tlt hc).1)) (ho ▸ Int.natCast_nonneg _) (by rw [ho]; rfl) q)
theorem g_if_lt_f (X : St Z n0 p l e R s m args below meth c own nm bytes ml ret T locs cells slots h) {x : Int32} {o : Int} (hd : decode bytes pc = .ok (.ifCond .lt o, 3)) (hp : pc + 3 = pc') (hc : ¬ x < 0) (k : Go p e below K (T.setTop (mkF m pc' L S))) : Go p e below K (T.setTop (mkF m pc L (.int x :: S))) := by
  subst hp; exact k.of (fun _ q => XS.ifNo X.X.here X.hx rfl (X.d hd) rfl ((if0 _ _).trans ((flt hc).1)) q)
theorem g_if_lt (X : St Z n0 p l e R s m args below meth c own nm bytes ml ret T locs cells slots h) {x : Int32} {o : Int} (hd : decode bytes pc = .ok (.ifCond .lt o, 3)) (ho : (pc : Int) + o = (pt : Int)) (hp : pc + 3 = pc') (yes : x < 0 → Go p e below K (T.setTop (mkF m pt L S))) (no : ¬ x < 0 → Go p e below K (T.setTop (mkF m pc' L S))) : Go p e below K (T.setTop (mkF m pc L (.int x :: S))) := by
  by_cases hc : x < 0
  · exact g_if_lt_t X hd ho hc (yes hc)
  · exact g_if_lt_f X hd hp hc (no hc)
theorem g_icmp_ge_t (X : St Z n0 p l e R s m args below meth c own nm bytes ml ret T locs cells slots h) {x y : Int32} {o : Int} (hd : decode bytes pc = .ok (.if_icmp .ge o, 3)) (ho : (pc : Int) + o = (pt : Int)) (hc : ¬ x < y) (k : Go p e below K (T.setTop (mkF m pt L S))) : Go p e below K (T.setTop (mkF m pc L (.int y :: .int x :: S))) :=
  k.of (fun _ q => XS.icmpYes X.X.here X.hx rfl rfl (X.d hd) rfl ((flt hc).2.1) (ho ▸ Int.natCast_nonneg _) (by rw [ho]; rfl) q)
theorem g_icmp_ge_f (X : St Z n0 p l e R s m args below meth c own nm bytes ml ret T locs cells slots h) {x y : Int32} {o : Int} (hd : decode bytes pc = .ok (.if_icmp .ge o, 3)) (hp : pc + 3 = pc') (hc : x < y) (k : Go p e below K (T.setTop (mkF m pc' L S))) : Go p e below K (T.setTop (mkF m pc L (.int y :: .int x :: S))) := by
  subst hp; exact k.of (fun _ q => XS.icmpNo X.X.here X.hx rfl (X.d hd) rfl ((tlt hc).2.1) q)
theorem g_icmp_ge (X : St Z n0 p l e R s m args below meth c own nm bytes ml ret T locs cells slots h) {x y : Int32} {o : Int} (hd : decode bytes pc = .ok (.if_icmp .ge o, 3)) (ho : (pc : Int) + o = (pt : Int)) (hp : pc + 3 = pc') (yes : ¬ x < y → Go p e below K (T.setTop (mkF m pt L S))) (no : x < y → Go p e below K (T.setTop (mkF m pc' L S))) : Go p e below K (T.setTop (mkF m pc L (.int y :: .int x :: S))) := by
  by_cases hc : x < y
  · exact g_icmp_ge_f X hd hp hc (no hc)
  · exact g_icmp_ge_t X hd ho hc (yes hc)
theorem g_if_ge_t (X : St Z n0 p l e R s m args below meth c own nm bytes ml ret T locs cells slots h) {x : Int32} {o : Int} (hd : decode bytes pc = .ok (.ifCond .ge o, 3)) (ho : (pc : Int) + o = (pt : Int)) (hc : ¬ x < 0) (k : Go p e below K (T.setTop (mkF m pt L S))) : Go p e below K (T.setTop (mkF m pc L (.int x :: S))) :=
  k.of (fun _ q => XS.ifYes X.X.here X.hx rfl rfl (X.d hd) rfl ((if0 _ _).trans ((flt hc).2.1)) (ho ▸ Int.natCast_nonneg _) (by rw [ho]; rfl) q)
theorem g_if_ge_f (X : St Z n0 p l e R s m args below meth c own nm bytes ml ret T locs cells slots h) {x : Int32} {o : Int} (hd : decode bytes pc = .ok (.ifCond .ge o, 3)) (hp : pc + 3 = pc') (hc : x < 0) (k : Go p e below K (T.setTop (mkF m pc' L S))) : Go p e below K (T.setTop (mkF m pc L (.int x :: S))) := by
  subst hp; exact k.of (fun _ q => XS.ifNo X.X.here X.hx rfl (X.d hd) rfl ((if0 _ _).trans ((tlt hc).2.1)) q)
theorem g_if_ge (X : St Z n0 p l e R s m args below meth c own nm bytes ml ret T locs cells slots h) {x : Int32} {o : Int} (hd : decode bytes pc = .ok (.ifCond .ge o, 3)) (ho : (pc : Int) + o = (pt : Int)) (hp : pc + 3 = pc') (yes : ¬ x < 0 → Go p e below K (T.setTop (mkF m pt L S))) (no : x < 0 → Go p e below K (T.setTop (mkF m pc' L S))) : Go p e below K (T.setTop (mkF m pc L (.int x :: S))) := by
  by_cases hc : x < 0
  · exact g_if_ge_f X hd hp hc (no hc)
  · exact g_if_ge_t X hd ho hc (yes hc)
theorem g_icmp_gt_t (X : St Z n0 p l e R s m args below meth c own nm bytes ml ret T locs cells slots h) {x y : Int32} {o : Int} (hd : decode bytes pc = .ok (.if_icmp .gt o, 3)) (ho : (pc : Int) + o = (pt : Int)) (hc : y < x) (k : Go p e below K (T.setTop (mkF m pt L S))) : Go p e below K (T.setTop (mkF m pc L (.int y :: .int x :: S))) :=
  k.of (fun _ q => XS.icmpYes X.X.here X.hx rfl rfl (X.d hd) rfl ((tlt hc).2.2.1) (ho ▸ Int.natCast_nonneg _) (by rw [ho]; rfl) q)
theorem g_icmp_gt_f (X : St Z n0 p l e R s m args below meth c own nm bytes ml ret T locs cells slots h) {x y : Int32} {o : Int} (hd : decode bytes pc = .ok (.if_icmp .gt o, 3)) (hp : pc + 3 = pc') (hc : ¬ y < x) (k : Go p e below K (T.setTop (mkF m pc' L S))) : Go p e below K (T.setTop (mkF m pc L (.int y :: .int x :: S))) := by
  subst hp; exact k.of (fun _ q => XS.icmpNo X.X.here X.hx rfl (X.d hd) rfl ((flt hc).2.2.1) q)
theorem g_icmp_gt (X : St Z n0 p l e R s m args below meth c own nm bytes ml ret T locs cells slots h) {x y : Int32} {o : Int} (hd : decode bytes pc = .ok (.if_icmp .gt o, 3)) (ho : (pc : Int) + o = (pt : Int)) (hp : pc + 3 = pc') (yes : y < x → Go p e below K (T.setTop (mkF m pt L S))) (no : ¬ y < x → Go p e below K (T.setTop (mkF m pc' L S))) : Go p e below K (T.setTop (mkF m pc L (.int y :: .int x :: S))) := by
  by_cases hc : y < x
  · exact g_icmp_gt_t X hd ho hc (yes hc)
  · exact g_icmp_gt_f X hd hp hc (no hc)
theorem g_if_gt_t (X : St Z n0 p l e R s m args below meth c own nm bytes ml ret T locs cells slots h) {x : Int32} {o : Int} (hd : decode bytes pc = .ok (.ifCond .gt o, 3)) (ho : (pc : Int) + o = (pt : Int)) (hc : 0 < x) (k : Go p e below K (T.setTop (mkF m pt L S))) : Go p e below K (T.setTop (mkF m pc L (.int x :: S))) :=
  k.of (fun _ q => XS.ifYes X.X.here X.hx rfl rfl (X.d hd) rfl ((if0 _ _).trans ((tlt hc).2.2.1)) (ho ▸ Int.natCast_nonneg _) (by rw [ho]; rfl) q)
theorem g_if_gt_f (X : St Z n0 p l e R s m args below meth c own nm bytes ml ret T locs cells slots h) {x : Int32} {o : Int} (hd : decode bytes pc = .ok (.ifCond .gt o, 3)) (hp : pc + 3 = pc') (hc : ¬ 0 < x) (k : Go p e below K (T.setTop (mkF m pc' L S))) : Go p e below K (T.setTop (mkF m pc L (.int x :: S))) := by
  subst hp; exact k.of (fun _ q => XS.ifNo X.X.here X.hx rfl (X.d hd) rfl ((if0 _ _).trans ((flt hc).2.2.1)) q)
theorem g_if_gt (X : St Z n0 p l e R s m args below meth c own nm bytes ml ret T locs cells slots h) {x : Int32} {o : Int} (hd : decode bytes pc = .ok (.ifCond .gt o, 3)) (ho : (pc : Int) + o = (pt : Int)) (hp : pc + 3 = pc') (yes : 0 < x → Go p e below K (T.setTop (mkF m pt L S))) (no : ¬ 0 < x → Go p e below K (T.setTop (mkF m pc' L S))) : Go p e below K (T.setTop (mkF m pc L (.int x :: S))) := by
  by_cases hc : 0 < x
  · exact g_if_gt_t X hd ho hc (yes hc)
  · exact g_if_gt_f X hd hp hc (no hc)
theorem g_icmp_le_t (X : St Z n0 p l e R s m args below meth c own nm bytes ml ret T locs cells slots h) {x y : Int32} {o : Int} (hd : decode bytes pc = .ok (.if_icmp .le o, 3)) (ho : (pc : Int) + o = (pt : Int)) (hc : ¬ y < x) (k : Go p e below K (T.setTop (mkF m pt L S))) : Go p e below K (T.setTop (mkF m pc L (.int y :: .int x :: S))) :=
  k.of (fun _ q => XS.icmpYes X.X.here X.hx rfl rfl (X.d hd) rfl ((flt hc).2.2.2) (ho ▸ Int.natCast_nonneg _) (by rw [ho]; rfl) q)
theorem g_icmp_le_f (X : St Z n0 p l e R s m args below meth c own nm bytes ml ret T locs cells slots h) {x y : Int32} {o : Int} (hd : decode bytes pc = .ok (.if_icmp .le o, 3)) (hp : pc + 3 = pc') (hc : y < x) (k : Go p e below K (T.setTop (mkF m pc' L S))) : Go p e below K (T.setTop (mkF m pc L (.int y :: .int x :: S))) := by
  subst hp; exact k.of (fun _ q => XS.icmpNo X.X.here X.hx rfl (X.d hd) rfl ((tlt hc).2.2.2) q)
theorem g_icmp_le (X : St Z n0 p l e R s m args below meth c own nm bytes ml ret T locs cells slots h) {x y : Int32} {o : Int} (hd : decode bytes pc = .ok (.if_icmp .le o, 3)) (ho : (pc : Int) + o = (pt : Int)) (hp : pc + 3 = pc') (yes : ¬ y < x → Go p e below K (T.setTop (mkF m pt L S))) (no : y < x → Go p e below K (T.setTop (mkF m pc' L S))) : Go p e below K (T.setTop (mkF m pc L (.int y :: .int x :: S))) := by
  by_cases hc : y < x
  · exact g_icmp_le_f X hd hp hc (no hc)
  · exact g_icmp_le_t X hd ho hc (yes hc)
theorem g_if_le_t (X : St Z n0 p l e R s m args below meth c own nm bytes ml ret T locs cells slots h) {x : Int32} {o : Int} (hd : decode bytes pc = .ok (.ifCond .le o, 3)) (ho : (pc : Int) + o = (pt : Int)) (hc : ¬ 0 < x) (k : Go p e below K (T.setTop (mkF m pt L S))) : Go p e below K (T.setTop (mkF m pc L (.int x :: S))) :=
  k.of (fun _ q => XS.ifYes X.X.here X.hx rfl rfl (X.d hd) rfl ((if0 _ _).trans ((flt hc).2.2.2)) (ho ▸ Int.natCast_nonneg _) (by rw [ho]; rfl) q)
theorem g_if_le_f (X : St Z n0 p l e R s m args below meth c own nm bytes ml ret T locs cells slots h) {x : Int32} {o : Int} (hd : decode bytes pc = .ok (.ifCond .le o, 3)) (hp : pc + 3 = pc') (hc : 0 < x) (k : Go p e below K (T.setTop (mkF m pc' L S))) : Go p e below K (T.setTop (mkF m pc L (.int x :: S))) := by
  subst hp; exact k.of (fun _ q => XS.ifNo X.X.here X.hx rfl (X.d hd) rfl ((if0 _ _).trans ((tlt hc).2.2.2)) q)
theorem g_if_le (X : St Z n0 p l e R s m args below meth c own nm bytes ml ret T locs cells slots h) {x : Int32} {o : Int} (hd : decode bytes pc = .ok (.ifCond .le o, 3)) (ho : (pc : Int) + o = (pt : Int)) (hp : pc + 3 = pc') (yes : ¬ 0 < x → Go p e below K (T.setTop (mkF m pt L S))) (no : 0 < x → Go p e below K (T.setTop (mkF m pc' L S))) : Go p e below K (T.setTop (mkF m pc L (.int x :: S))) := by
  by_cases hc : 0 < x
  · exact g_if_le_f X hd hp hc (no hc)
  · exact g_if_le_t X hd ho hc (yes hc)
theorem g_lcmp_eq (X : St Z n0 p l e R s m args below meth c own nm bytes ml ret T locs cells slots h) {x y : Int64} {o : Int} (hd : decode bytes pc = .ok (.lcmp, 1)) (hd' : decode bytes (pc + 1) = .ok (.ifCond .eq o, 3)) (ho : ((pc + 1 : Nat) : Int) + o = (pt : Int)) (hp : pc + 1 + 3 = pc') (yes : x = y → Go p e below K (T.setTop (mkF m pt L S))) (no : ¬ x = y → Go p e below K (T.setTop (mkF m pc' L S))) : Go p e below K (T.setTop (mkF m pc L (.long y :: .long x :: S))) := by
  refine g_lcmp X hd rfl ?_
  refine g_if_eq X hd' ho hp (fun q => yes ?_) (fun q => no ?_)
  · rwa [lw_eq] at q
  · rwa [lw_eq] at q
theorem g_lcmp_ne (X : St Z n0 p l e R s m args below meth c own nm bytes ml ret T locs cells slots h) {x y : Int64} {o : Int} (hd : decode bytes pc = .ok (.lcmp, 1)) (hd' : decode bytes (pc + 1) = .ok (.ifCond .ne o, 3)) (ho : ((pc + 1 : Nat) : Int) + o = (pt : Int)) (hp : pc + 1 + 3 = pc') (yes : ¬ x = y → Go p e below K (T.setTop (mkF m pt L S))) (no : x = y → Go p e below K (T.setTop (mkF m pc' L S))) : Go p e below K (T.setTop (mkF m pc L (.long y :: .long x :: S))) := by
  refine g_lcmp X hd rfl ?_
  refine g_if_ne X hd' ho hp (fun q => yes ?_) (fun q => no ?_)
  · rwa [lw_eq] at q
  · rwa [lw_eq] at q
theorem g_lcmp_lt (X : St Z n0 p l e R s m args below meth c own nm bytes ml ret T locs cells slots h) {x y : Int64} {o : Int} (hd : decode bytes pc = .ok (.lcmp, 1)) (hd' : decode bytes (pc + 1) = .ok (.ifCond .lt o, 3)) (ho : ((pc + 1 : Nat) : Int) + o = (pt : Int)) (hp : pc + 1 + 3 = pc') (yes : x < y → Go p e below K (T.setTop (mkF m pt L S))) (no : ¬ x < y → Go p e below K (T.setTop (mkF m pc' L S))) : Go p e below K (T.setTop (mkF m pc L (.long y :: .long x :: S))) := by
  refine g_lcmp X hd rfl ?_
  refine g_if_lt X hd' ho hp (fun q => yes ?_) (fun q => no ?_)
  · rwa [lw_lt] at q
  · rwa [lw_lt] at q
theorem g_lcmp_ge (X : St Z n0 p l e R s m args below meth c own nm bytes ml ret T locs cells slots h) {x y : Int64} {o : Int} (hd : decode bytes pc = .ok (.lcmp, 1)) (hd' : decode bytes (pc + 1) = .ok (.ifCond .ge o, 3)) (ho : ((pc + 1 : Nat) : Int) + o = (pt : Int)) (hp : pc + 1 + 3 = pc') (yes : ¬ x < y → Go p e below K (T.setTop (mkF m pt L S))) (no : x < y → Go p e below K (T.setTop (mkF m pc' L S))) : Go p e below K (T.setTop (mkF m pc L (.long y :: .long x :: S))) := by
  refine g_lcmp X hd rfl ?_
  refine g_if_ge X hd' ho hp (fun q => yes ?_) (fun q => no ?_)
  · rwa [lw_lt] at q
  · rwa [lw_lt] at q
theorem g_lcmp_gt (X : St Z n0 p l e R s m args below meth c own nm bytes ml ret T locs cells slots h) {x y : Int64} {o : Int} (hd : decode bytes pc = .ok (.lcmp, 1)) (hd' : decode bytes (pc + 1) = .ok (.ifCond .gt o, 3)) (ho : ((pc + 1 : Nat) : Int) + o = (pt : Int)) (hp : pc + 1 + 3 = pc') (yes : y < x → Go p e below K (T.setTop (mkF m pt L S))) (no : ¬ y < x → Go p e below K (T.setTop (mkF m pc' L S))) : Go p e below K (T.setTop (mkF m pc L (.long y :: .long x :: S))) := by
  refine g_lcmp X hd rfl ?_
  refine g_if_gt X hd' ho hp (fun q => yes ?_) (fun q => no ?_)
  · rwa [lw_gt] at q
  · rwa [lw_gt] at q
theorem g_lcmp_le (X : St Z n0 p l e R s m args below meth c own nm bytes ml ret T locs cells slots h) {x y : Int64} {o : Int} (hd : decode bytes pc = .ok (.lcmp, 1)) (hd' : decode bytes (pc + 1) = .ok (.ifCond .le o, 3)) (ho : ((pc + 1 : Nat) : Int) + o = (pt : Int)) (hp : pc + 1 + 3 = pc') (yes : ¬ y < x → Go p e below K (T.setTop (mkF m pt L S))) (no : y < x → Go p e below K (T.setTop (mkF m pc' L S))) : Go p e below K (T.setTop (mkF m pc L (.long y :: .long x :: S))) := by
  refine g_lcmp X hd rfl ?_
  refine g_if_le X hd' ho hp (fun q => yes ?_) (fun q => no ?_)
  · rwa [lw_gt] at q
  · rwa [lw_gt] at q
theorem g_ifnull_t (X : St Z n0 p l e R s m args below meth c own nm bytes ml ret T locs cells slots h) {o : Int} (hd : decode bytes pc = .ok (.ifnull o, 3)) (ho : (pc : Int) + o = (pt : Int)) (k : Go p e below K (T.setTop (mkF m pt L S))) : Go p e below K (T.setTop (mkF m pc L (.null :: S))) :=
  k.of (fun _ q => XS.ifnullYes X.X.here X.hx rfl rfl (X.d hd) rfl (ho ▸ Int.natCast_nonneg _) (by rw [ho]; rfl) q)
theorem g_ifnull_f (X : St Z n0 p l e R s m args below meth c own nm bytes ml ret T locs cells slots h) {o : Int} {a : Addr} (hd : decode bytes pc = .ok (.ifnull o, 3)) (hp : pc + 3 = pc') (k : Go p e below K (T.setTop (mkF m pc' L S))) : Go p e below K (T.setTop (mkF m pc L (.ref a :: S))) := by
  subst hp; exact k.of (fun _ q => XS.ifnullNo X.X.here X.hx rfl (X.d hd) rfl q)
theorem g_ifnonnull_t (X : St Z n0 p l e R s m args below meth c own nm bytes ml ret T locs cells slots h) {o : Int} {a : Addr} (hd : decode bytes pc = .ok (.ifnonnull o, 3)) (ho : (pc : Int) + o = (pt : Int)) (k : Go p e below K (T.setTop (mkF m pt L S))) : Go p e below K (T.setTop (mkF m pc L (.ref a :: S))) :=
  k.of (fun _ q => XS.ifnonnullYes X.X.here X.hx rfl rfl (X.d hd) rfl (ho ▸ Int.natCast_nonneg _) (by rw [ho]; rfl) q)
theorem g_ifnonnull_f (X : St Z n0 p l e R s m args below meth c own nm bytes ml ret T locs cells slots h) {o : Int} (hd : decode bytes pc = .ok (.ifnonnull o, 3)) (hp : pc + 3 = pc') (k : Go p e below K (T.setTop (mkF m pc' L S))) : Go p e below K (T.setTop (mkF m pc L (.null :: S))) := by
  subst hp; exact k.of (fun _ q => XS.ifnonnullNo X.X.here X.hx rfl (X.d hd) rfl q)
theorem g_acmp (X : St Z n0 p l e R s m args below meth c own nm bytes ml ret T locs cells slots h) {cd : ACond} {x y : Value} {o : Int} {same : Bool} (h1 : x.isRef = true) (h2 : y.isRef = true) (hd : decode bytes pc = .ok (.if_acmp cd o, 3)) (ho : (pc : Int) + o = (pt : Int)) (hq : decide (x = y) = same) (hp : pc' = if acV cd same = true then pt else pc + 3) (k : Go p e below K (T.setTop (mkF m pc' L S))) : Go p e below K (T.setTop (mkF m pc L (y :: x :: S))) :=
  k.of (fun _ q => Jvm.RoadKit.acmp X.X X.hx rfl h1 h2 rfl (X.d hd) rfl hq (ho ▸ Int.natCast_nonneg _) (by rw [hp, ho]; rfl) q)
theorem g_acmp_eq (X : St Z n0 p l e R s m args below meth c own nm bytes ml ret T locs cells slots h) {a b : Addr} {o : Int} (hd : decode bytes pc = .ok (.if_acmp .eq o, 3)) (ho : (pc : Int) + o = (pt : Int)) (hp : pc + 3 = pc') (yes : a = b → Go p e below K (T.setTop (mkF m pt L S))) (no : ¬ a = b → Go p e below K (T.setTop (mkF m pc' L S))) : Go p e below K (T.setTop (mkF m pc L (.ref b :: .ref a :: S))) := by
  subst hp
  by_cases hc : a = b
  · exact g_acmp X (same := true) rfl rfl hd ho (decide_eq_true (congrArg Value.ref hc)) rfl (yes hc)
  · exact g_acmp X (same := false) rfl rfl hd ho (decide_eq_false fun q => hc (Value.ref.inj q)) rfl (no hc)
theorem g_acmp_ne (X : St Z n0 p l e R s m args below meth c own nm bytes ml ret T locs cells slots h) {a b : Addr} {o : Int} (hd : decode bytes pc = .ok (.if_acmp .ne o, 3)) (ho : (pc : Int) + o = (pt : Int)) (hp : pc + 3 = pc') (yes : ¬ a = b → Go p e below K (T.setTop (mkF m pt L S))) (no : a = b → Go p e below K (T.setTop (mkF m pc' L S))) : Go p e below K (T.setTop (mkF m pc L (.ref b :: .ref a :: S))) := by
  subst hp
  by_cases hc : a = b
  · exact g_acmp X (same := true) rfl rfl hd ho (decide_eq_true (congrArg Value.ref hc)) rfl (no hc)
  · exact g_acmp X (same := false) rfl rfl hd ho (decide_eq_false fun q => hc (Value.ref.inj q)) rfl (yes hc)
theorem g_ldc (X : St Z n0 p l e R s m args below meth c own nm bytes ml ret T locs cells slots h) {i : Nat} {v : Int32} (w : (Jvm.Cond.constant own i v).before a0 Z = true) (hd : decode bytes pc = .ok (.ldc i, 2)) (hp : pc + 2 = pc') (k : Go p e below K (T.setTop (mkF m pc' L (.int v :: S)))) : Go p e below K (T.setTop (mkF m pc L S)) := by
  subst hp; exact k.of (X.X.ldcInt X.hx X.own_ (mvT X.hZ w) (g := mkF m pc L S) rfl (X.d hd))
theorem g_ldc2 (X : St Z n0 p l e R s m args below meth c own nm bytes ml ret T locs cells slots h) {i : Nat} {v : Int64} (w : (Jvm.Cond.constantLong own i v).before a0 Z = true) (hd : decode bytes pc = .ok (.ldc2_w i, 3)) (hp : pc + 3 = pc') (k : Go p e below K (T.setTop (mkF m pc' L (.long v :: S)))) : Go p e below K (T.setTop (mkF m pc L S)) := by
  subst hp; exact k.of (X.X.ldc2Long X.hx X.own_ (mvT X.hZ w) (g := mkF m pc L S) rfl (X.d hd))
theorem g_getF (X : St Z n0 p l e R s m args below meth c own nm bytes ml ret T locs cells slots h) {R0 O n d host : String} {i : Nat} {a : Addr} {v : Value} (w : (Jvm.Cond.fieldLink own i R0 n d).before a0 Z = true ∨ (Jvm.Cond.fieldLinkNest own i R0 n d host).before a0 Z = true) (via : Via Z R0 O n d) (F : Fld Z h a O n d v) (hd : decode bytes pc = .ok (.getfield i, 3)) (hp : pc + 3 = pc') (k : ∀ T', St Z n0 p l e R s m args below meth c own nm bytes ml ret T' locs cells slots h → Go p e below K (T'.setTop (mkF m pc' L (v :: S)))) : Go p e below K (T.setTop (mkF m pc L (.ref a :: S))) := by
  obtain ⟨T', X', e', st'⟩ := getF X.X X.hx X.hZ X.own_ w via X.eT F (g := mkF m pc L (.ref a :: S)) rfl rfl (X.d hd)
  subst hp; exact (k T' (X.to X' e' X.fr X.old)).of st'
theorem g_getS (X : St Z n0 p l e R s m args below meth c own nm bytes ml ret T locs cells slots h) {O n d : String} {i : Nat} {v : Value} (w : (Jvm.Cond.fieldLink own i O n d).before a0 Z = true) (F : Sta Z h O n d v) (hd : decode bytes pc = .ok (.getstatic i, 3)) (hp : pc + 3 = pc') (k : ∀ T', St Z n0 p l e R s m args below meth c own nm bytes ml ret T' locs cells slots h → Go p e below K (T'.setTop (mkF m pc' L (v :: S)))) : Go p e below K (T.setTop (mkF m pc L S)) := by
  obtain ⟨T', X', e', st'⟩ := getS X.X X.hx X.hZ (host := "") X.own_ w Via.refl X.eT F (g := mkF m pc L S) rfl (X.d hd)
  subst hp; exact (k T' (X.to X' e' X.fr X.old)).of st'
theorem g_putF (X : St Z n0 p l e R s m args below meth c own nm bytes ml ret T locs cells slots h) {R0 O n d host C : String} {i kk : Nat} {ty : FieldType} {a : Addr} {v old : Value} (w : (Jvm.Cond.fieldLink own i R0 n d).before a0 Z = true ∨ (Jvm.Cond.fieldLinkNest own i R0 n d host).before a0 Z = true) (via : Via Z R0 O n d) (F : Fld Z h a O n d old) (E : Exa Z h a C)
    (La : (Jvm.Cond.lays C O n d).before a0 Z = true ∨ ((Jvm.Cond.laysFinal C O n d).before a0 Z = true ∧ own = O ∧ nm = "<init>")) (wi : (Jvm.Cond.instantiable C kk).before a0 Z = true) (hty : parseFieldDescriptor d = some ty) (hn : narrow ty v = v) (hf : fits ty v = true) (ga : n0 ≤ a) (hd : decode bytes pc = .ok (.putfield i, 3)) (hp : pc + 3 = pc') (k : ∀ T' h', St Z n0 p l e R s m args below meth c own nm bytes ml ret T' (locs ++ [⟨a, Jvm.RoadKit.slotOf Z O n d⟩]) cells slots h' → Wr h h' a (Jvm.RoadKit.slotOf Z O n d) v → Go p e below K (T'.setTop (mkF m pc' L S))) : Go p e below K (T.setTop (mkF m pc L (v :: .ref a :: S))) := by
  obtain ⟨T', h', X', e', W, st'⟩ := putF X.X X.hx X.hZ X.own_ w via X.eT F E (La.imp id fun q => ⟨q.1, q.2.1, X.nm_.trans q.2.2⟩) wi hty hn hf (g := mkF m pc L (v :: .ref a :: S)) rfl rfl (X.d hd)
  subst hp; exact (k T' h' (X.to X' e' (Fr.snoc X' X.fr ga) (X.old.wr W ga)) W).of st'
theorem g_putFN (X : St Z n0 p l e R s m args below meth c own nm bytes ml ret T locs cells slots h) {R0 O n d C : String} {i kk : Nat} {ty : FieldType} {a : Addr} {v v' old : Value} (w : (Jvm.Cond.fieldLink own i R0 n d).before a0 Z = true) (via : Via Z R0 O n d) (F : Fld Z h a O n d old) (E : Exa Z h a C)
    (La : (Jvm.Cond.lays C O n d).before a0 Z = true ∨ ((Jvm.Cond.laysFinal C O n d).before a0 Z = true ∧ own = O ∧ nm = "<init>")) (wi : (Jvm.Cond.instantiable C kk).before a0 Z = true) (hty : parseFieldDescriptor d = some ty) (hn : narrow ty v = v') (hf : fits ty v' = true) (ga : n0 ≤ a) (hd : decode bytes pc = .ok (.putfield i, 3)) (hp : pc + 3 = pc') (k : ∀ T' h', St Z n0 p l e R s m args below meth c own nm bytes ml ret T' (locs ++ [⟨a, Jvm.RoadKit.slotOf Z O n d⟩]) cells slots h' → Wr h h' a (Jvm.RoadKit.slotOf Z O n d) v' → Go p e below K (T'.setTop (mkF m pc' L S))) : Go p e below K (T.setTop (mkF m pc L (v :: .ref a :: S))) := by
  obtain ⟨T', h', X', e', W, st'⟩ := putFN X.X X.hx X.hZ X.own_ w via X.eT F E (La.imp id fun q => ⟨q.1, q.2.1, X.nm_.trans q.2.2⟩) wi hty hn hf (g := mkF m pc L (v :: .ref a :: S)) rfl rfl (X.d hd)
  subst hp; exact (k T' h' (X.to X' e' (Fr.snoc X' X.fr ga) (X.old.wr W ga)) W).of st'
theorem g_new (X : St Z n0 p l e R s m args below meth c own nm bytes ml ret T locs cells slots h) {C : String} {i n : Nat} (w : (Jvm.Cond.classLink own i C).before a0 Z = true) (wi : (Jvm.Cond.instantiable C n).before a0 Z = true) (wz : (Jvm.Cond.initialized C).before a0 Z = true) (hd : decode bytes pc = .ok (.new i, 3)) (hp : pc + 3 = pc') (hc : cells + 1 ≤ R.cells) (hl : slots + n ≤ R.slots)
    (k : ∀ T' h' a, St Z n0 p l e R s m args below meth c own nm bytes ml ret T' locs (cells + 1) (slots + n) h' → a = h.size → Ext h h' → Exa Z h' a C → (∀ {O nm d : String} {ty : FieldType}, Laid Z a0 C O nm d → parseFieldDescriptor d = some ty → Fld Z h' a O nm d (defaultValue ty)) → n0 ≤ a → Go p e below K (T'.setTop (mkF m pc' L (.ref a :: S)))) : Go p e below K (T.setTop (mkF m pc L S)) := by
  obtain ⟨T', h', X', e', E, A, D, -, st'⟩ := newO X.X X.hx X.hZ X.own_ w wi wz X.eT (g := mkF m pc L S) rfl (X.d hd) hc hl
  subst hp; exact (k T' h' _ (X.to X' e' X.fr (X.old.ext E)) rfl E A D X.sz).of st'
theorem g_initO (X : St Z n0 p l e R s m args below meth c own nm bytes ml ret T locs cells slots h) {i : Nat} {a : Addr} (w1 : (Jvm.Cond.methodLink own i Lib.objectInit).before a0 Z = true) (w2 : (Jvm.Cond.instanceMethod Lib.objectInit).before a0 Z = true) (w3 : (Jvm.Cond.code Lib.objectInit ⟨#[0xb1]⟩ 1 none).before a0 Z = true) (hL : L.size = ml) (hd : decode bytes pc = .ok (.invokespecial i, 3)) (hp : pc + 3 = pc') (hf : 1 ≤ R.frames) {W : Nat} (hW : (S.map fun v => v.category).sum = W) (hl : W + 12 ≤ R.locals) (k : ∀ T', St Z n0 p l e R s m args below meth c own nm bytes ml ret T' locs cells slots h → Go p e below K (T'.setTop (mkF m pc' L S))) : Go p e below K (T.setTop (mkF m pc L (.ref a :: S))) := by
  obtain ⟨T', X', e', st'⟩ := initO X.X X.hx X.hZ X.own_ w1 w2 w3 X.eT (g := mkF m pc L (.ref a :: S)) rfl (by rw [X.ml_]; exact hL) rfl (X.d hd) hf (W := W) (by show 2 * 0 + _ ≤ _; rw [hW, Nat.mul_zero, Nat.zero_add]; exact Nat.le_refl _) hl
  subst hp; exact (k T' (X.to X' e' X.fr X.old)).of st'
theorem g_castNull (X : St Z n0 p l e R s m args below meth c own nm bytes ml ret T locs cells slots h) {i : Nat} (hd : decode bytes pc = .ok (.checkcast i, 3)) (hp : pc + 3 = pc') (k : Go p e below K (T.setTop (mkF m pc' L (.null :: S)))) : Go p e below K (T.setTop (mkF m pc L (.null :: S))) := by
  subst hp; exact k.of (fun _ q => X.X.checkcastNull X.hx (g := mkF m pc L (.null :: S)) rfl rfl (X.d hd) _ q)
theorem g_instNull (X : St Z n0 p l e R s m args below meth c own nm bytes ml ret T locs cells slots h) {i : Nat} (hd : decode bytes pc = .ok (.instanceof i, 3)) (hp : pc + 3 = pc') (k : Go p e below K (T.setTop (mkF m pc' L (.int 0 :: S)))) : Go p e below K (T.setTop (mkF m pc L (.null :: S))) := by
  subst hp; exact k.of (fun _ q => X.X.instanceofNull X.hx (g := mkF m pc L (.null :: S)) rfl rfl (X.d hd) _ q)
theorem g_cast (X : St Z n0 p l e R s m args below meth c own nm bytes ml ret T locs cells slots h) {k0 : String} {i : Nat} {a : Addr} (w : (Jvm.Cond.classLink own i k0).before a0 Z = true) (F : Ins Z h a k0 true) (hd : decode bytes pc = .ok (.checkcast i, 3)) (hp : pc + 3 = pc') (k : ∀ T', St Z n0 p l e R s m args below meth c own nm bytes ml ret T' locs cells slots h → Go p e below K (T'.setTop (mkF m pc' L (.ref a :: S)))) : Go p e below K (T.setTop (mkF m pc L (.ref a :: S))) := by
  obtain ⟨T', X', e', st'⟩ := castY X.X X.hx X.hZ X.own_ w X.eT F (g := mkF m pc L (.ref a :: S)) rfl rfl (X.d hd)
  subst hp; exact (k T' (X.to X' e' X.fr X.old)).of st'
theorem g_inst (X : St Z n0 p l e R s m args below meth c own nm bytes ml ret T locs cells slots h) {k0 : String} {i : Nat} {a : Addr} (w : (Jvm.Cond.classLink own i k0).before a0 Z = true) (F : Ins Z h a k0 true) (hd : decode bytes pc = .ok (.instanceof i, 3)) (hp : pc + 3 = pc') (k : ∀ T', St Z n0 p l e R s m args below meth c own nm bytes ml ret T' locs cells slots h → Go p e below K (T'.setTop (mkF m pc' L (.int 1 :: S)))) : Go p e below K (T.setTop (mkF m pc L (.ref a :: S))) := by
  obtain ⟨T', X', e', st'⟩ := instY X.X X.hx X.hZ X.own_ w X.eT F (g := mkF m pc L (.ref a :: S)) rfl rfl (X.d hd)
  subst hp; exact (k T' (X.to X' e' X.fr X.old)).of st'
theorem g_instN (X : St Z n0 p l e R s m args below meth c own nm bytes ml ret T locs cells slots h) {k0 c0 : String} {i : Nat} {a : Addr} (w : (Jvm.Cond.classLink own i k0).before a0 Z = true) (F : Ins Z s.heap a k0 false) (E : Exa Z s.heap a c0) (hd : decode bytes pc = .ok (.instanceof i, 3)) (hp : pc + 3 = pc') (k : ∀ T', St Z n0 p l e R s m args below meth c own nm bytes ml ret T' locs cells slots h → Go p e below K (T'.setTop (mkF m pc' L (.int 0 :: S)))) : Go p e below K (T.setTop (mkF m pc L (.ref a :: S))) := by
  obtain ⟨T', X', e', st'⟩ := instN X.X X.hx X.hZ X.own_ w X.eT F E (g := mkF m pc L (.ref a :: S)) rfl rfl (X.d hd)
  subst hp; exact (k T' (X.to X' e' X.fr X.old)).of st'
/-- an array, by the list of what it holds -/
def Arx (Z : State) (h : Heap) (a : Addr) (ty : FieldType) (vs : List Value) : Prop := ∃ c : Cell, Arr Z h a c ty ∧ c.slots.toList = vs ∧ vs.length < 2 ^ 31
theorem Arx.keep {h' : Heap} {ws : List Addr} {a : Addr} {ty : FieldType} {vs : List Value} (A : Arx Z h a ty vs) (K : Keep h h' ws) (q : a ∉ ws) : Arx Z h' a ty vs := by obtain ⟨c, A, r⟩ := A; exact ⟨c, ⟨K.2.1 a c A.1 q, A.2⟩, r⟩
theorem Arx.ext {h' : Heap} {a : Addr} {ty : FieldType} {vs : List Value} (A : Arx Z h a ty vs) (E : Ext h h') : Arx Z h' a ty vs := by obtain ⟨c, A, r⟩ := A; exact ⟨c, A.ext E, r⟩
theorem Arx.other {h' : Heap} {a b : Addr} {sl : Nat} {v : Value} {ty : FieldType} {vs : List Value} (A : Arx Z h b ty vs) (W : Wr h h' a sl v) (q : b ≠ a) : Arx Z h' b ty vs := by obtain ⟨c, A, r⟩ := A; exact ⟨c, A.other W q, r⟩
theorem Arx.lt {a : Addr} {ty : FieldType} {vs : List Value} (A : Arx Z h a ty vs) : a < h.size := by obtain ⟨c, A, r⟩ := A; exact A.lt
theorem Arx.le {a : Addr} {ty : FieldType} {vs : List Value} (A : Arx Z h a ty vs) : vs.length < 2 ^ 31 := by obtain ⟨c, A, r, q⟩ := A; exact q
theorem arx_in {cl : Cell} {vs : List Value} (q : cl.slots.toList = vs) {j : Int32} {i : Nat} (hj : j.toInt = (i : Int)) (hi : i < vs.length) : ¬ (j < 0 ∨ cl.slots.size ≤ j.toNatClampNeg) ∧ j.toNatClampNeg = i := by
  have e1 : j.toNatClampNeg = i := by simp only [Int32.toNatClampNeg, hj]; omega
  have e2 : cl.slots.size = vs.length := by rw [← q]; simp
  refine ⟨?_, e1⟩
  rw [e1, e2, Int32.lt_iff_toInt_lt, hj]
  have : (0 : Int32).toInt = 0 := rfl
  omega
theorem arx_at {cl : Cell} {vs : List Value} (q : cl.slots.toList = vs) {i : Nat} {v : Value} (hv : vs[i]? = some v) : cl.slots[i]? = some v := by rw [← q] at hv; simpa using hv
theorem arx_new (k : ClassId) (ty : FieldType) (n : Int32) : (newA k ty n).slots.toList = List.replicate n.toNatClampNeg (defaultValue ty) := by simp [newA]
theorem g_iaload (X : St Z n0 p l e R s m args below meth c own nm bytes ml ret T locs cells slots h) {a : Addr} {j : Int32} {i : Nat} {v : Value} {vs : List Value} (A : Arx Z h a .int vs) (hj : j.toInt = (i : Int)) (hv : vs[i]? = some v) (hd : decode bytes pc = .ok (.iaload, 1)) (hp : pc + 1 = pc') (k : Go p e below K (T.setTop (mkF m pc' L (v :: S)))) : Go p e below K (T.setTop (mkF m pc L (.int j :: .ref a :: S))) := by
  obtain ⟨cl, A, q, -⟩ := A
  obtain ⟨hin, hi⟩ := arx_in q hj (List.getElem?_eq_some_iff.mp hv).1
  subst hp; exact k.of (fun _ z => X.X.iaload X.hx (by rw [X.eT]; exact A.1) (State.isArrayOf_alike X.hZ.alike A.2.1) A.2.2 hin (by rw [hi]; exact arx_at q hv) (g := mkF m pc L (.int j :: .ref a :: S)) rfl rfl (X.d hd) _ z)
theorem g_laload (X : St Z n0 p l e R s m args below meth c own nm bytes ml ret T locs cells slots h) {a : Addr} {j : Int32} {i : Nat} {v : Value} {vs : List Value} (A : Arx Z h a .long vs) (hj : j.toInt = (i : Int)) (hv : vs[i]? = some v) (hd : decode bytes pc = .ok (.laload, 1)) (hp : pc + 1 = pc') (k : Go p e below K (T.setTop (mkF m pc' L (v :: S)))) : Go p e below K (T.setTop (mkF m pc L (.int j :: .ref a :: S))) := by
  obtain ⟨cl, A, q, -⟩ := A
  obtain ⟨hin, hi⟩ := arx_in q hj (List.getElem?_eq_some_iff.mp hv).1
  subst hp; exact k.of (fun _ z => X.X.laload X.hx (by rw [X.eT]; exact A.1) (State.isArrayOf_alike X.hZ.alike A.2.1) A.2.2 hin (by rw [hi]; exact arx_at q hv) (g := mkF m pc L (.int j :: .ref a :: S)) rfl rfl (X.d hd) _ z)
theorem g_caload (X : St Z n0 p l e R s m args below meth c own nm bytes ml ret T locs cells slots h) {a : Addr} {j : Int32} {i : Nat} {v : Value} {vs : List Value} (A : Arx Z h a .char vs) (hj : j.toInt = (i : Int)) (hv : vs[i]? = some v) (hd : decode bytes pc = .ok (.caload, 1)) (hp : pc + 1 = pc') (k : Go p e below K (T.setTop (mkF m pc' L (v :: S)))) : Go p e below K (T.setTop (mkF m pc L (.int j :: .ref a :: S))) := by
  obtain ⟨cl, A, q, -⟩ := A
  obtain ⟨hin, hi⟩ := arx_in q hj (List.getElem?_eq_some_iff.mp hv).1
  subst hp; exact k.of (fun _ z => X.X.caload X.hx (by rw [X.eT]; exact A.1) (State.isArrayOf_alike X.hZ.alike A.2.1) A.2.2 hin (by rw [hi]; exact arx_at q hv) (g := mkF m pc L (.int j :: .ref a :: S)) rfl rfl (X.d hd) _ z)
theorem g_baload (X : St Z n0 p l e R s m args below meth c own nm bytes ml ret T locs cells slots h) {a : Addr} {j : Int32} {i : Nat} {v : Value} {vs : List Value} (A : Arx Z h a .byte vs) (hj : j.toInt = (i : Int)) (hv : vs[i]? = some v) (hd : decode bytes pc = .ok (.baload, 1)) (hp : pc + 1 = pc') (k : Go p e below K (T.setTop (mkF m pc' L (v :: S)))) : Go p e below K (T.setTop (mkF m pc L (.int j :: .ref a :: S))) := by
  obtain ⟨cl, A, q, -⟩ := A
  obtain ⟨hin, hi⟩ := arx_in q hj (List.getElem?_eq_some_iff.mp hv).1
  subst hp; exact k.of (fun _ z => X.X.baloadBytes X.hx (by rw [X.eT]; exact A.1) (State.isArrayOf_alike X.hZ.alike A.2.1) A.2.2 hin (by rw [hi]; exact arx_at q hv) (g := mkF m pc L (.int j :: .ref a :: S)) rfl rfl (X.d hd) _ z)
theorem g_aaload (X : St Z n0 p l e R s m args below meth c own nm bytes ml ret T locs cells slots h) {a : Addr} {j : Int32} {i : Nat} {v : Value} {ty : FieldType} {vs : List Value} (A : Arx Z h a ty vs) (hty : ty.isReference = true) (hj : j.toInt = (i : Int)) (hv : vs[i]? = some v) (hd : decode bytes pc = .ok (.aaload, 1)) (hp : pc + 1 = pc') (k : Go p e below K (T.setTop (mkF m pc' L (v :: S)))) : Go p e below K (T.setTop (mkF m pc L (.int j :: .ref a :: S))) := by
  obtain ⟨cl, A, q, -⟩ := A
  obtain ⟨hin, hi⟩ := arx_in q hj (List.getElem?_eq_some_iff.mp hv).1
  subst hp; exact k.of (fun _ z => X.X.aaload X.hx (by rw [X.eT]; exact A.1) (State.isArrayOf_alike X.hZ.alike A.2.1) hty A.2.2 hin (by rw [hi]; exact arx_at q hv) (g := mkF m pc L (.int j :: .ref a :: S)) rfl rfl (X.d hd) _ z)
theorem g_arraylength (X : St Z n0 p l e R s m args below meth c own nm bytes ml ret T locs cells slots h) {a : Addr} {ty : FieldType} {vs : List Value} {n : Int32} (A : Arx Z h a ty vs) (hn : vs.length.toInt32 = n) (hd : decode bytes pc = .ok (.arraylength, 1)) (hp : pc + 1 = pc') (k : Go p e below K (T.setTop (mkF m pc' L (.int n :: S)))) : Go p e below K (T.setTop (mkF m pc L (.ref a :: S))) := by
  obtain ⟨cl, A, q, -⟩ := A
  have e2 : cl.slots.size.toInt32 = n := by rw [← hn, ← q]; simp
  subst hp; exact k.of (fun _ z => X.X.arraylength X.hx (by rw [X.eT]; exact A.1) (State.isArrayOf_alike X.hZ.alike A.2.1) (g := mkF m pc L (.ref a :: S)) rfl rfl (X.d hd) _ (by rw [e2]; exact z))
theorem g_iastore (X : St Z n0 p l e R s m args below meth c own nm bytes ml ret T locs cells slots h) {a : Addr} {j : Int32} {i : Nat} {x : Int32} {vs : List Value} (A : Arx Z h a .int vs) (hj : j.toInt = (i : Int)) (hi : i < vs.length) (ga : n0 ≤ a) (hd : decode bytes pc = .ok (.iastore, 1)) (hp : pc + 1 = pc') (k : ∀ T' h', St Z n0 p l e R s m args below meth c own nm bytes ml ret T' (locs ++ [⟨a, i⟩]) cells slots h' → Wr h h' a i (.int x) → Arx Z h' a .int (vs.set i (.int x)) → Go p e below K (T'.setTop (mkF m pc' L S))) : Go p e below K (T.setTop (mkF m pc L (.int x :: .int j :: .ref a :: S))) := by
  obtain ⟨cl, A, q, hl⟩ := A
  obtain ⟨hin, hn⟩ := arx_in q hj hi
  obtain ⟨T', h', X', e', W, st'⟩ := stI X.X X.hx X.hZ X.eT A hin (g := mkF m pc L (.int x :: .int j :: .ref a :: S)) rfl rfl (X.d hd)
  rw [hn] at W X'
  subst hp; exact (k T' h' (X.to X' e' (Fr.snoc X' X.fr ga) (X.old.wr W ga)) W ⟨_, A.same W, by rw [← q]; simp [Cell.setSlot], by simpa using hl⟩).of st'
theorem g_lastore (X : St Z n0 p l e R s m args below meth c own nm bytes ml ret T locs cells slots h) {a : Addr} {j : Int32} {i : Nat} {x : Int64} {vs : List Value} (A : Arx Z h a .long vs) (hj : j.toInt = (i : Int)) (hi : i < vs.length) (ga : n0 ≤ a) (hd : decode bytes pc = .ok (.lastore, 1)) (hp : pc + 1 = pc') (k : ∀ T' h', St Z n0 p l e R s m args below meth c own nm bytes ml ret T' (locs ++ [⟨a, i⟩]) cells slots h' → Wr h h' a i (.long x) → Arx Z h' a .long (vs.set i (.long x)) → Go p e below K (T'.setTop (mkF m pc' L S))) : Go p e below K (T.setTop (mkF m pc L (.long x :: .int j :: .ref a :: S))) := by
  obtain ⟨cl, A, q, hl⟩ := A
  obtain ⟨hin, hn⟩ := arx_in q hj hi
  obtain ⟨T', h', X', e', W, st'⟩ := stJ X.X X.hx X.hZ X.eT A hin (g := mkF m pc L (.long x :: .int j :: .ref a :: S)) rfl rfl (X.d hd)
  rw [hn] at W X'
  subst hp; exact (k T' h' (X.to X' e' (Fr.snoc X' X.fr ga) (X.old.wr W ga)) W ⟨_, A.same W, by rw [← q]; simp [Cell.setSlot], by simpa using hl⟩).of st'
theorem g_castore (X : St Z n0 p l e R s m args below meth c own nm bytes ml ret T locs cells slots h) {a : Addr} {j : Int32} {i : Nat} {x : Int32} {vs : List Value} (A : Arx Z h a .char vs) (hj : j.toInt = (i : Int)) (hi : i < vs.length) (ga : n0 ≤ a) (hd : decode bytes pc = .ok (.castore, 1)) (hp : pc + 1 = pc') (k : ∀ T' h', St Z n0 p l e R s m args below meth c own nm bytes ml ret T' (locs ++ [⟨a, i⟩]) cells slots h' → Wr h h' a i (.int (nar .char x)) → Arx Z h' a .char (vs.set i (.int (nar .char x))) → Go p e below K (T'.setTop (mkF m pc' L S))) : Go p e below K (T.setTop (mkF m pc L (.int x :: .int j :: .ref a :: S))) := by
  obtain ⟨cl, A, q, hl⟩ := A
  obtain ⟨hin, hn⟩ := arx_in q hj hi
  obtain ⟨T', h', X', e', W, st'⟩ := stC X.X X.hx X.hZ X.eT A hin (g := mkF m pc L (.int x :: .int j :: .ref a :: S)) rfl rfl (X.d hd)
  rw [hn] at W X'
  subst hp; exact (k T' h' (X.to X' e' (Fr.snoc X' X.fr ga) (X.old.wr W ga)) W ⟨_, A.same W, by rw [← q]; simp [Cell.setSlot], by simpa using hl⟩).of st'
theorem g_bastore (X : St Z n0 p l e R s m args below meth c own nm bytes ml ret T locs cells slots h) {a : Addr} {j : Int32} {i : Nat} {x : Int32} {vs : List Value} (A : Arx Z h a .byte vs) (hj : j.toInt = (i : Int)) (hi : i < vs.length) (ga : n0 ≤ a) (hd : decode bytes pc = .ok (.bastore, 1)) (hp : pc + 1 = pc') (k : ∀ T' h', St Z n0 p l e R s m args below meth c own nm bytes ml ret T' (locs ++ [⟨a, i⟩]) cells slots h' → Wr h h' a i (.int (nar .byte x)) → Arx Z h' a .byte (vs.set i (.int (nar .byte x))) → Go p e below K (T'.setTop (mkF m pc' L S))) : Go p e below K (T.setTop (mkF m pc L (.int x :: .int j :: .ref a :: S))) := by
  obtain ⟨cl, A, q, hl⟩ := A
  obtain ⟨hin, hn⟩ := arx_in q hj hi
  obtain ⟨T', h', X', e', W, st'⟩ := stB X.X X.hx X.hZ X.eT A hin (g := mkF m pc L (.int x :: .int j :: .ref a :: S)) rfl rfl (X.d hd)
  rw [hn] at W X'
  subst hp; exact (k T' h' (X.to X' e' (Fr.snoc X' X.fr ga) (X.old.wr W ga)) W ⟨_, A.same W, by rw [← q]; simp [Cell.setSlot], by simpa using hl⟩).of st'
theorem g_newarray (X : St Z n0 p l e R s m args below meth c own nm bytes ml ret T locs cells slots h) {aty : ArrayType} {n : Int32} {cap : Nat} {vs : List Value} (w : (Jvm.Cond.arrayClass (newarray.typeOf aty)).before a0 Z = true) (hn : ¬ n < 0) (hcap : n.toNatClampNeg ≤ cap) (hvs : List.replicate n.toNatClampNeg (defaultValue (newarray.typeOf aty)) = vs) (hb : cap * 8 ≤ 536870912) (hd : decode bytes pc = .ok (.newarray aty, 2)) (hp : pc + 2 = pc') (hc : cells + 1 ≤ R.cells) (hl : slots + cap ≤ R.slots)
    (k : ∀ T' h' a, St Z n0 p l e R s m args below meth c own nm bytes ml ret T' locs (cells + 1) (slots + cap) h' → a = h.size → Ext h h' → Arx Z h' a (newarray.typeOf aty) vs → n0 ≤ a → Go p e below K (T'.setTop (mkF m pc' L (.ref a :: S)))) : Go p e below K (T.setTop (mkF m pc L (.int n :: S))) := by
  obtain ⟨T', h', cA, X', e', E, A, st'⟩ := newP X.X X.hx X.hZ w X.eT (g := mkF m pc L (.int n :: S)) rfl (X.d hd) rfl hn hcap hb hc hl
  subst hp; exact (k T' h' _ (X.to X' e' X.fr (X.old.ext E)) rfl E ⟨_, A, (arx_new _ _ _).trans hvs, by rw [← hvs, List.length_replicate]; omega⟩ X.sz).of st'
theorem g_callSB (X : St Z n0 p l e R s m args below meth c own nm bytes ml ret T locs cells slots h) {i : Nat} {y : MethodName} {b' : ByteArray} {ml' : Nat} {ret' : Option FieldType} {cc ss : Nat} {Q : Option Value → Heap → List Loc → Prop} {ps : List FieldType} {r : Option FieldType} {W : Nat} {S0 rest : List Value} (argsL : List Value) (w1 : (Jvm.Cond.methodLink own i y).before a0 Z = true) (w2 : (Jvm.Cond.static y).before a0 Z = true) (w0 : (Jvm.Cond.initialized y.cls).before a0 Z = true) (w4 : (Jvm.Cond.code y b' ml' ret').before a0 Z = true) (Bk : Back l R p e below s args y 3 W (fun A a' => a' = argsL.toArray ∧ A.U.heap = h ∧ A.cells + cc ≤ R.cells ∧ A.slots + ss ≤ R.slots) (fun A _ v B => ∃ L, Q v B.U.heap L ∧ B.locs = A.locs ++ L ∧ B.cells = A.cells + cc ∧ B.slots = A.slots + ss)) (hy : y.cls ≠ "java/lang/invoke/MethodHandle" ∧ y.cls ≠ "java/lang/invoke/VarHandle") (hc : cells + cc ≤ R.cells) (hs : slots + ss ≤ R.slots) (hL : L.size = ml) (hps : parseMethodDescriptor y.desc = some ⟨ps, r⟩) (hlen : argsL.length = ps.length) (hS : S0 = argsL.reverse ++ rest) (hW : (rest.map fun v => v.category).sum = W) (hd : decode bytes pc = .ok (.invokestatic i, 3)) (hp : pc + 3 = pc') (k : ∀ v T' h' L'', (Old Z n0 h' → Fr n0 L'' → St Z n0 p l e R s m args below meth c own nm bytes ml ret T' (locs ++ L'') (cells + cc) (slots + ss) h') → Q v h' L'' → Go p e below K (T'.setTop (mkF m pc' L (v.toList ++ rest)))) : Go p e below K (T.setTop (mkF m pc L S0)) := by
  subst hS hp
  obtain ⟨v, _, ⟨T', L'', k', n'⟩, -, X', ⟨Lc, hQ, l', y', z'⟩, st'⟩ := Jvm.LawKit.callS X.X X.hx (y := y) X.own_ (mvT X.hZ w1) (mvT X.hZ w2) (mvT X.hZ w0) (mvT X.hZ w4) hy Bk (g := mkF m pc L (argsL.reverse ++ rest)) rfl (by rw [X.ml_]; exact hL) (argsL := argsL) (rest := rest) (lenOf hps hlen) rfl (by show 2 * 0 + _ ≤ _; rw [hW, Nat.mul_zero, Nat.zero_add]; exact Nat.le_refl _) (X.d hd) (fun _ _ => ⟨rfl, X.eT, hc, hs⟩)
  dsimp only [Pt.U, Pt.locs, Pt.cells, Pt.slots] at X' l' y' z' st' hQ
  subst l' y' z'
  exact (k v T' T'.heap Lc (fun hz hF => ⟨X', X.2.1, rfl, X.fr.app hF, hz⟩) hQ).of st'
theorem g_callS (X : St Z n0 p l e R s m args below meth c own nm bytes ml ret T locs cells slots h) {i : Nat} {y : MethodName} {b' : ByteArray} {ml' : Nat} {ret' : Option FieldType} {rm : Room} {Q : Option Value → Heap → List Loc → Prop} {ps : List FieldType} {r : Option FieldType} {W : Nat} {S0 rest : List Value} (argsL : List Value) (w1 : (Jvm.Cond.methodLink own i y).before a0 Z = true) (w2 : (Jvm.Cond.static y).before a0 Z = true) (w0 : (Jvm.Cond.initialized y.cls).before a0 Z = true) (w4 : (Jvm.Cond.code y b' ml' ret').before a0 Z = true) (w3 : (Jvm.Cond.initialized y.cls).before a0 Z = true) (C : Con l Z y b' ml' ret' [] rm rm.cells rm.slots argsL.toArray h Q) (hy : y.cls ≠ "java/lang/invoke/MethodHandle" ∧ y.cls ≠ "java/lang/invoke/VarHandle") (hf : rm.frames + 1 ≤ R.frames) (hl : W + (ml' + 11) + rm.locals ≤ R.locals) (hc : cells + rm.cells ≤ R.cells) (hs : slots + rm.slots ≤ R.slots) (hL : L.size = ml) (hps : parseMethodDescriptor y.desc = some ⟨ps, r⟩) (hlen : argsL.length = ps.length) (hS : S0 = argsL.reverse ++ rest) (hW : (rest.map fun v => v.category).sum = W) (hd : decode bytes pc = .ok (.invokestatic i, 3)) (hp : pc + 3 = pc') (k : ∀ v T' h' L'', (Old Z n0 h' → Fr n0 L'' → St Z n0 p l e R s m args below meth c own nm bytes ml ret T' (locs ++ L'') (cells + rm.cells) (slots + rm.slots) h') → Q v h' L'' → Go p e below K (T'.setTop (mkF m pc' L (v.toList ++ rest)))) : Go p e below K (T.setTop (mkF m pc L S0)) :=
  g_callSB X argsL w1 w2 w0 w4 (backOf (W := W) C X.hZ w4 w3 hf hl) hy hc hs hL hps hlen hS hW hd hp k
theorem g_callIB (X : St Z n0 p l e R s m args below meth c own nm bytes ml ret T locs cells slots h) {i : Nat} {y : MethodName} {b' : ByteArray} {ml' : Nat} {ret' : Option FieldType} {cc ss : Nat} {Q : Option Value → Heap → List Loc → Prop} {ps : List FieldType} {r : Option FieldType} {W : Nat} {S0 rest : List Value} (argsL : List Value) {a : Addr} (hinit : y.name = "<init>") (w1 : (Jvm.Cond.methodLink own i y).before a0 Z = true) (w2 : (Jvm.Cond.instanceMethod y).before a0 Z = true) (hr : ret' = none) (w4 : (Jvm.Cond.code y b' ml' ret').before a0 Z = true) (Bk : Back l R p e below s args y 3 W (fun A a' => a' = (.ref a :: argsL).toArray ∧ A.U.heap = h ∧ A.cells + cc ≤ R.cells ∧ A.slots + ss ≤ R.slots) (fun A _ v B => ∃ L, Q v B.U.heap L ∧ B.locs = A.locs ++ L ∧ B.cells = A.cells + cc ∧ B.slots = A.slots + ss)) (hy : y.cls ≠ "java/lang/invoke/MethodHandle" ∧ y.cls ≠ "java/lang/invoke/VarHandle") (hc : cells + cc ≤ R.cells) (hs : slots + ss ≤ R.slots) (hL : L.size = ml) (hps : parseMethodDescriptor y.desc = some ⟨ps, r⟩) (hlen : argsL.length = ps.length) (hS : S0 = argsL.reverse ++ .ref a :: rest) (hW : (rest.map fun v => v.category).sum = W) (hd : decode bytes pc = .ok (.invokespecial i, 3)) (hp : pc + 3 = pc') (k : ∀ v T' h' L'', (Old Z n0 h' → Fr n0 L'' → St Z n0 p l e R s m args below meth c own nm bytes ml ret T' (locs ++ L'') (cells + cc) (slots + ss) h') → Q v h' L'' → Go p e below K (T'.setTop (mkF m pc' L (v.toList ++ rest)))) : Go p e below K (T.setTop (mkF m pc L S0)) := by
  subst hS hp
  subst hr
  obtain ⟨v, _, ⟨T', L'', k', n'⟩, -, X', ⟨Lc, hQ, l', y', z'⟩, st'⟩ := X.X.specialBack X.hx (y := y) hinit X.own_ (mvT X.hZ w1) (mvT X.hZ w2) (mvT X.hZ w4) hy Bk (g := mkF m pc L (argsL.reverse ++ .ref a :: rest)) rfl (by rw [X.ml_]; exact hL) (Steps.refl _) (a := a) (argsL := argsL) (rest := rest) (lenOf hps hlen) rfl (by show 2 * 0 + _ ≤ _; rw [hW, Nat.mul_zero, Nat.zero_add]; exact Nat.le_refl _) (X.d hd) (fun _ _ => ⟨rfl, X.eT, hc, hs⟩)
  dsimp only [Pt.U, Pt.locs, Pt.cells, Pt.slots] at X' l' y' z' st' hQ
  subst l' y' z'
  exact (k v T' T'.heap Lc (fun hz hF => ⟨X', X.2.1, rfl, X.fr.app hF, hz⟩) hQ).of (fun _ q => st'.trans q)
theorem g_callI (X : St Z n0 p l e R s m args below meth c own nm bytes ml ret T locs cells slots h) {i : Nat} {y : MethodName} {b' : ByteArray} {ml' : Nat} {ret' : Option FieldType} {rm : Room} {Q : Option Value → Heap → List Loc → Prop} {ps : List FieldType} {r : Option FieldType} {W : Nat} {S0 rest : List Value} (argsL : List Value) {a : Addr} (hinit : y.name = "<init>") (w1 : (Jvm.Cond.methodLink own i y).before a0 Z = true) (w2 : (Jvm.Cond.instanceMethod y).before a0 Z = true) (hr : ret' = none) (w4 : (Jvm.Cond.code y b' ml' ret').before a0 Z = true) (w3 : (Jvm.Cond.initialized y.cls).before a0 Z = true) (C : Con l Z y b' ml' ret' [] rm rm.cells rm.slots (.ref a :: argsL).toArray h Q) (hy : y.cls ≠ "java/lang/invoke/MethodHandle" ∧ y.cls ≠ "java/lang/invoke/VarHandle") (hf : rm.frames + 1 ≤ R.frames) (hl : W + (ml' + 11) + rm.locals ≤ R.locals) (hc : cells + rm.cells ≤ R.cells) (hs : slots + rm.slots ≤ R.slots) (hL : L.size = ml) (hps : parseMethodDescriptor y.desc = some ⟨ps, r⟩) (hlen : argsL.length = ps.length) (hS : S0 = argsL.reverse ++ .ref a :: rest) (hW : (rest.map fun v => v.category).sum = W) (hd : decode bytes pc = .ok (.invokespecial i, 3)) (hp : pc + 3 = pc') (k : ∀ v T' h' L'', (Old Z n0 h' → Fr n0 L'' → St Z n0 p l e R s m args below meth c own nm bytes ml ret T' (locs ++ L'') (cells + rm.cells) (slots + rm.slots) h') → Q v h' L'' → Go p e below K (T'.setTop (mkF m pc' L (v.toList ++ rest)))) : Go p e below K (T.setTop (mkF m pc L S0)) :=
  g_callIB X argsL hinit w1 w2 hr w4 (backOf (W := W) C X.hZ w4 w3 hf hl) hy hc hs hL hps hlen hS hW hd hp k
theorem g_callVB (X : St Z n0 p l e R s m args below meth c own nm bytes ml ret T locs cells slots h) {i : Nat} {y : MethodName} {b' : ByteArray} {ml' : Nat} {ret' : Option FieldType} {cc ss : Nat} {Q : Option Value → Heap → List Loc → Prop} {ps : List FieldType} {r : Option FieldType} {W : Nat} {S0 rest : List Value} (argsL : List Value) {C0 : String} {z : MethodName} {a : Addr} (w1 : (Jvm.Cond.methodLink own i y).before a0 Z = true) (w2 : (Jvm.Cond.declares y).before a0 Z = true) (nf : NotFace s y) (w5 : (Jvm.Cond.selects C0 y z).before a0 Z = true) (w6 : (Jvm.Cond.instanceMethod z).before a0 Z = true) (E : Exa Z h a C0) (w4 : (Jvm.Cond.code z b' ml' ret').before a0 Z = true) (Bk : Back l R p e below s args z 3 W (fun A a' => a' = (.ref a :: argsL).toArray ∧ A.U.heap = h ∧ A.cells + cc ≤ R.cells ∧ A.slots + ss ≤ R.slots) (fun A _ v B => ∃ L, Q v B.U.heap L ∧ B.locs = A.locs ++ L ∧ B.cells = A.cells + cc ∧ B.slots = A.slots + ss)) (hy : y.cls ≠ "java/lang/invoke/MethodHandle" ∧ y.cls ≠ "java/lang/invoke/VarHandle") (hc : cells + cc ≤ R.cells) (hs : slots + ss ≤ R.slots) (hL : L.size = ml) (hps : parseMethodDescriptor y.desc = some ⟨ps, r⟩) (hlen : argsL.length = ps.length) (hS : S0 = argsL.reverse ++ .ref a :: rest) (hW : (rest.map fun v => v.category).sum = W) (hd : decode bytes pc = .ok (.invokevirtual i, 3)) (hp : pc + 3 = pc') (k : ∀ v T' h' L'', (Old Z n0 h' → Fr n0 L'' → St Z n0 p l e R s m args below meth c own nm bytes ml ret T' (locs ++ L'') (cells + cc) (slots + ss) h') → Q v h' L'' → Go p e below K (T'.setTop (mkF m pc' L (v.toList ++ rest)))) : Go p e below K (T.setTop (mkF m pc L S0)) := by
  subst hS hp
  obtain ⟨cq, kq, q1, q2, q3⟩ := isOf X.hZ X.eT E
  obtain ⟨v, _, ⟨T', L'', k', n'⟩, -, X', ⟨Lc, hQ, l', y', z'⟩, st'⟩ := X.X.virtualBack X.hx (y := y) (z := z) X.own_ (mvT X.hZ w1) (mvT X.hZ w2) nf (mvT X.hZ w5) (mvT X.hZ w6) hy Bk q1 q3 (g := mkF m pc L (argsL.reverse ++ .ref a :: rest)) rfl (by rw [X.ml_]; exact hL) (Steps.refl _) (argsL := argsL) (rest := rest) (lenOf hps hlen) rfl (by show 2 * 0 + _ ≤ _; rw [hW, Nat.mul_zero, Nat.zero_add]; exact Nat.le_refl _) (X.d hd) (fun _ _ => ⟨rfl, X.eT, hc, hs⟩)
  dsimp only [Pt.U, Pt.locs, Pt.cells, Pt.slots] at X' l' y' z' st' hQ
  subst l' y' z'
  exact (k v T' T'.heap Lc (fun hz hF => ⟨X', X.2.1, rfl, X.fr.app hF, hz⟩) hQ).of (fun _ q => st'.trans q)
theorem g_callV (X : St Z n0 p l e R s m args below meth c own nm bytes ml ret T locs cells slots h) {i : Nat} {y : MethodName} {b' : ByteArray} {ml' : Nat} {ret' : Option FieldType} {rm : Room} {Q : Option Value → Heap → List Loc → Prop} {ps : List FieldType} {r : Option FieldType} {W : Nat} {S0 rest : List Value} (argsL : List Value) {C0 : String} {z : MethodName} {a : Addr} (w1 : (Jvm.Cond.methodLink own i y).before a0 Z = true) (w2 : (Jvm.Cond.declares y).before a0 Z = true) (nf : NotFace s y) (w5 : (Jvm.Cond.selects C0 y z).before a0 Z = true) (w6 : (Jvm.Cond.instanceMethod z).before a0 Z = true) (E : Exa Z h a C0) (w4 : (Jvm.Cond.code z b' ml' ret').before a0 Z = true) (w3 : (Jvm.Cond.initialized z.cls).before a0 Z = true) (C : Con l Z z b' ml' ret' [] rm rm.cells rm.slots (.ref a :: argsL).toArray h Q) (hy : y.cls ≠ "java/lang/invoke/MethodHandle" ∧ y.cls ≠ "java/lang/invoke/VarHandle") (hf : rm.frames + 1 ≤ R.frames) (hl : W + (ml' + 11) + rm.locals ≤ R.locals) (hc : cells + rm.cells ≤ R.cells) (hs : slots + rm.slots ≤ R.slots) (hL : L.size = ml) (hps : parseMethodDescriptor y.desc = some ⟨ps, r⟩) (hlen : argsL.length = ps.length) (hS : S0 = argsL.reverse ++ .ref a :: rest) (hW : (rest.map fun v => v.category).sum = W) (hd : decode bytes pc = .ok (.invokevirtual i, 3)) (hp : pc + 3 = pc') (k : ∀ v T' h' L'', (Old Z n0 h' → Fr n0 L'' → St Z n0 p l e R s m args below meth c own nm bytes ml ret T' (locs ++ L'') (cells + rm.cells) (slots + rm.slots) h') → Q v h' L'' → Go p e below K (T'.setTop (mkF m pc' L (v.toList ++ rest)))) : Go p e below K (T.setTop (mkF m pc L S0)) :=
  g_callVB X argsL w1 w2 nf w5 w6 E w4 (backOf (W := W) C X.hZ w4 w3 hf hl) hy hc hs hL hps hlen hS hW hd hp k
theorem g_retI (X : St Z n0 p l e R s m args below meth c own nm bytes ml ret T locs cells slots h) {C N : Nat} {Q : Option Value → Heap → List Loc → Prop} {z : Int32} (hr : ret = some .int) (hd : decode bytes pc = .ok (.ireturn, 1)) (hc : cells ≤ C) (hs : slots ≤ N) (q : Q (some (.int z)) h locs) : Go p e below (Kq s C N Q) (T.setTop (mkF m pc L (.int z :: S))) := by
  obtain ⟨fs, hl, hrun, hended, hW, hsame⟩ := X.X.leave (v := (some (.int z))) (fun h => by rw [X.ret_, hr] at h; cases h) X.lk
  exact ⟨_, _, retOut X.X X.hx (t := .int) (X.ret_.trans hr) rfl (Or.inl ⟨rfl, Or.inl rfl, _, rfl⟩) (X.d hd) hl, hrun, hended, _, _, rfl, (show Q _ T.heap _ by rw [X.eT]; exact q), ⟨_, rfl⟩, hW, hsame.mono hc hs⟩
theorem g_retL (X : St Z n0 p l e R s m args below meth c own nm bytes ml ret T locs cells slots h) {C N : Nat} {Q : Option Value → Heap → List Loc → Prop} {z : Int64} (hr : ret = some .long) (hd : decode bytes pc = .ok (.lreturn, 1)) (hc : cells ≤ C) (hs : slots ≤ N) (q : Q (some (.long z)) h locs) : Go p e below (Kq s C N Q) (T.setTop (mkF m pc L (.long z :: S))) := by
  obtain ⟨fs, hl, hrun, hended, hW, hsame⟩ := X.X.leave (v := (some (.long z))) (fun h => by rw [X.ret_, hr] at h; cases h) X.lk
  exact ⟨_, _, retOut X.X X.hx (t := .long) (X.ret_.trans hr) rfl (Or.inr (Or.inl ⟨rfl, rfl, _, rfl⟩)) (X.d hd) hl, hrun, hended, _, _, rfl, (show Q _ T.heap _ by rw [X.eT]; exact q), ⟨_, rfl⟩, hW, hsame.mono hc hs⟩
theorem g_retA (X : St Z n0 p l e R s m args below meth c own nm bytes ml ret T locs cells slots h) {C N : Nat} {Q : Option Value → Heap → List Loc → Prop} {z : Value} {t : FieldType} (hz : z.isRef = true) (ht : t.isReference = true) (hr : ret = some t) (hd : decode bytes pc = .ok (.areturn, 1)) (hc : cells ≤ C) (hs : slots ≤ N) (q : Q (some z) h locs) : Go p e below (Kq s C N Q) (T.setTop (mkF m pc L (z :: S))) := by
  obtain ⟨fs, hl, hrun, hended, hW, hsame⟩ := X.X.leave (v := (some z)) (fun h => by rw [X.ret_, hr] at h; cases h) X.lk
  exact ⟨_, _, retOut X.X X.hx (t := t) (X.ret_.trans hr) (by cases z <;> cases t <;> simp [Value.isRef, FieldType.isReference, narrow] at hz ht ⊢) (Or.inr (Or.inr (Or.inr (Or.inr ⟨rfl, ht, hz⟩)))) (X.d hd) hl, hrun, hended, _, _, rfl, (show Q _ T.heap _ by rw [X.eT]; exact q), ⟨_, rfl⟩, hW, hsame.mono hc hs⟩
theorem g_retN (X : St Z n0 p l e R s m args below meth c own nm bytes ml ret T locs cells slots h) {C N : Nat} {Q : Option Value → Heap → List Loc → Prop} {z : Int32} {t : FieldType} (ht : t = .boolean ∨ t = .byte ∨ t = .char ∨ t = .short) (hr : ret = some t) (hd : decode bytes pc = .ok (.ireturn, 1)) (hc : cells ≤ C) (hs : slots ≤ N) (q : Q (some (.int (nar t z))) h locs) : Go p e below (Kq s C N Q) (T.setTop (mkF m pc L (.int z :: S))) := by
  obtain ⟨fs, hl, hrun, hended, hW, hsame⟩ := X.X.leave (v := (some (.int (nar t z)))) (fun h => by rw [X.ret_, hr] at h; cases h) X.lk
  exact ⟨_, _, retN X.X X.hx (t := t) (X.ret_.trans hr) ht (X.d hd) hl, hrun, hended, _, _, rfl, (show Q _ T.heap _ by rw [X.eT]; exact q), ⟨_, rfl⟩, hW, hsame.mono hc hs⟩
theorem g_ret (X : St Z n0 p l e R s m args below meth c own nm bytes ml ret T locs cells slots h) {C N : Nat} {Q : Option Value → Heap → List Loc → Prop} (hr : ret = none) (hd : decode bytes pc = .ok (.return_, 1)) (hc : cells ≤ C) (hs : slots ≤ N) (q : Q none h locs) : Go p e below (Kq s C N Q) (T.setTop (mkF m pc L [])) := by
  obtain ⟨fs, hl, hrun, hended, hW, hsame⟩ := X.X.leave (v := none) (fun _ => rfl) X.lk
  exact ⟨_, _, X.X.returnOut X.hx (X.ret_.trans hr) (X.d hd) hl, hrun, hended, _, _, rfl, (show Q _ T.heap _ by rw [X.eT]; exact q), ⟨_, rfl⟩, hW, hsame.mono hc hs⟩
theorem nm0 {a : Addr} : a ∉ ([] : List Addr) := List.not_mem_nil
theorem nm1 {a b : Addr} (h : a ≠ b) : a ∉ [b] := by simpa using h
theorem nm2 {a b d : Addr} (h : a ≠ b) (h' : a ≠ d) : a ∉ [b, d] := by simp [h, h']
theorem keep_ext {h' : Heap} (E : Ext h h') (ws : List Addr) : Keep h h' ws := (Keep.refl h ws).ext E
theorem ne_new {a b k : Nat} (h1 : a < k) (h2 : b = k) : a ≠ b := by omega
theorem ne_new' {a b k : Nat} (h1 : a < k) (h2 : b = k) : b ≠ a := by omega
end Own

theorem m0 : (Jvm.Cond.arrayClass Jvm.ClassFile.FieldType.byte) ∈ tables_1 := List.mem_of_getElem? (i := 0) rfl
theorem m1 : (Jvm.Cond.methodLink "com/example/measured_term/measuredterm/http/RequestHeadEndPinLaw" (9 : Nat) ({ cls := "com/example/measured_term/measuredterm/http/RequestHeadEndPinLaw", name := "any", desc := "(J)B" } : Jvm.MethodName)) ∈ tables_1 := List.mem_of_getElem? (i := 1) rfl
theorem m2 : (Jvm.Cond.static ({ cls := "com/example/measured_term/measuredterm/http/RequestHeadEndPinLaw", name := "any", desc := "(J)B" } : Jvm.MethodName)) ∈ tables_1 := List.mem_of_getElem? (i := 2) rfl
theorem m3 : (Jvm.Cond.initialized "com/example/measured_term/measuredterm/http/RequestHeadEndPinLaw") ∈ tables_1 := List.mem_of_getElem? (i := 3) rfl
theorem m4 : (Jvm.Cond.code ({ cls := "com/example/measured_term/measuredterm/http/RequestHeadEndPinLaw", name := "any", desc := "(J)B" } : Jvm.MethodName) method_2_code (3 : Nat) (Option.some Jvm.ClassFile.FieldType.byte)) ∈ tables_1 := List.mem_of_getElem? (i := 4) rfl
theorem m5 : (Jvm.Cond.constantLong "com/example/measured_term/measuredterm/http/RequestHeadEndPinLaw" (7 : Nat) (3 : Int64)) ∈ tables_1 := List.mem_of_getElem? (i := 5) rfl
theorem m6 : (Jvm.Cond.methodLink "com/example/measured_term/measuredterm/http/RequestHeadEndPinLaw" (15 : Nat) ({ cls := "com/example/measured_term/measuredterm/http/RequestHeadEndPinLaw", name := "notLf", desc := "(J)B" } : Jvm.MethodName)) ∈ tables_1 := List.mem_of_getElem? (i := 6) rfl
theorem m7 : (Jvm.Cond.static ({ cls := "com/example/measured_term/measuredterm/http/RequestHeadEndPinLaw", name := "notLf", desc := "(J)B" } : Jvm.MethodName)) ∈ tables_1 := List.mem_of_getElem? (i := 7) rfl
theorem m8 : (Jvm.Cond.code ({ cls := "com/example/measured_term/measuredterm/http/RequestHeadEndPinLaw", name := "notLf", desc := "(J)B" } : Jvm.MethodName) method_3_code (4 : Nat) (Option.some Jvm.ClassFile.FieldType.byte)) ∈ tables_1 := List.mem_of_getElem? (i := 8) rfl
theorem m9 : (Jvm.Cond.methodLink "com/example/measured_term/measuredterm/http/RequestHeadEndPinLaw" (18 : Nat) ({ cls := "com/example/measured_term/measuredterm/http/RequestHead", name := "end", desc := "([BII)I" } : Jvm.MethodName)) ∈ tables_1 := List.mem_of_getElem? (i := 9) rfl
theorem m10 : (Jvm.Cond.static ({ cls := "com/example/measured_term/measuredterm/http/RequestHead", name := "end", desc := "([BII)I" } : Jvm.MethodName)) ∈ tables_1 := List.mem_of_getElem? (i := 10) rfl
theorem m11 : (Jvm.Cond.initialized "com/example/measured_term/measuredterm/http/RequestHead") ∈ tables_1 := List.mem_of_getElem? (i := 11) rfl
theorem m12 : (Jvm.Cond.code ({ cls := "com/example/measured_term/measuredterm/http/RequestHead", name := "end", desc := "([BII)I" } : Jvm.MethodName) prog_34_method_3_code (7 : Nat) (Option.some Jvm.ClassFile.FieldType.int)) ∈ tables_1 := List.mem_of_getElem? (i := 12) rfl
theorem pd_0 : parseMethodDescriptor "(J)B" = some ⟨[.long], some .byte⟩ := by decide +kernel
theorem pd_1 : parseMethodDescriptor "([BII)I" = some ⟨[(.array .byte), .int, .int], some .int⟩ := by decide +kernel
theorem pn_0 : plainName "com/example/measured_term/measuredterm/http/RequestHeadEndPinLaw" = true := by first | (simp [plainName, overriddenIn]; done) | decide +kernel
theorem pn_1 : plainName "com/example/measured_term/measuredterm/http/RequestHead" = true := by first | (simp [plainName, overriddenIn]; done) | decide +kernel
/-- one step of the scan: where the line began, whether a line that isn't empty was seen, the answer -/
def own_step (f : Nat → Int32) (i : Nat) (q : Nat × Bool × Option Nat) : Nat × Bool × Option Nat :=
  match q.2.2 with
  | some r => (q.1, q.2.1, some r)
  | none =>
    if f i = 10 then
      if (if q.1 < i ∧ f (i - 1) = 13 then i - 1 else i) = q.1 ∧ q.2.1 = true then (q.1, q.2.1, some (i + 1))
      else (i + 1, q.2.1 || decide (q.1 < (if q.1 < i ∧ f (i - 1) = 13 then i - 1 else i)), none)
    else (q.1, q.2.1, none)
def own_scan (f : Nat → Int32) (o : Nat) : Nat → Nat × Bool × Option Nat
  | 0 => (o, false, none)
  | n + 1 => own_step f (o + n) (own_scan f o n)
theorem own_scan_le (f : Nat → Int32) (o : Nat) : ∀ n, o ≤ (own_scan f o n).1 ∧ (own_scan f o n).1 ≤ o + n
  | 0 => ⟨Nat.le_refl _, Nat.le_refl _⟩
  | n + 1 => by
    have ih := own_scan_le f o n
    show o ≤ (own_step f (o + n) (own_scan f o n)).1 ∧ (own_step f (o + n) (own_scan f o n)).1 ≤ o + (n + 1)
    unfold own_step
    split
    · exact ⟨ih.1, by show (own_scan f o n).1 ≤ _; omega⟩
    · by_cases h : f (o + n) = 10
      · rw [if_pos h]
        generalize (if (own_scan f o n).1 < o + n ∧ f (o + n - 1) = 13 then o + n - 1 else o + n) = en
        split
        · exact ⟨ih.1, by show (own_scan f o n).1 ≤ _; omega⟩
        · exact ⟨by show o ≤ o + n + 1; omega, by show o + n + 1 ≤ _; omega⟩
      · rw [if_neg h]
        exact ⟨ih.1, by show (own_scan f o n).1 ≤ _; omega⟩
/-- the scan reads nothing behind its end -/
theorem own_agree {f g : Nat → Int32} {o : Nat} : ∀ {n : Nat}, (∀ j, j < o + n → f j = g j) → own_scan f o n = own_scan g o n
  | 0, _ => rfl
  | n + 1, h => by
    have ih := own_agree (f := f) (g := g) (o := o) (n := n) (fun j hj => h j (by omega))
    show own_step f (o + n) (own_scan f o n) = own_step g (o + n) (own_scan g o n)
    have e1 := h (o + n) (by omega)
    have e2 := h (o + n - 1) (by omega)
    rw [ih]; unfold own_step; rw [e1, e2]
theorem own_stays {f : Nat → Int32} {o n r : Nat} (h : (own_scan f o n).2.2 = some r) : ∀ k, (own_scan f o (n + k)).2.2 = some r
  | 0 => h
  | k + 1 => by
    have ih := own_stays h k
    show (own_step f (o + (n + k)) (own_scan f o (n + k))).2.2 = some r
    unfold own_step; rw [ih]
theorem own_before {f : Nat → Int32} {o n k : Nat} (h : (own_scan f o n).2.2 = none) (hk : k ≤ n) : (own_scan f o k).2.2 = none := by
  cases hq : (own_scan f o k).2.2 with
  | none => rfl
  | some r =>
    have := own_stays hq (n - k)
    rw [show k + (n - k) = n by omega, h] at this
    exact absurd this (by simp)
/-- behind p the scan stands at a line's start -/
def Ph (f : Nat → Int32) (o p : Nat) (b : Bool) : Prop := o ≤ p ∧ own_scan f o (p - o) = (p, b, none)
theorem Ph.start (f : Nat → Int32) (o : Nat) : Ph f o o false := ⟨Nat.le_refl _, by rw [Nat.sub_self]; rfl⟩
def own_set (f : Nat → Int32) (i : Nat) (z : Int32) : Nat → Int32 := fun j => if j = i then z else f j
theorem Ph.set {f : Nat → Int32} {o p i : Nat} {b : Bool} (h : Ph f o p b) (z : Int32) (hi : p ≤ i) : Ph (own_set f i z) o p b := ⟨h.1, by
  rw [← h.2]; exact own_agree fun j hj => by have := h.1; simp [own_set]; intro e; omega⟩
/-- signs that aren't LF are passed over -/
theorem own_over {f : Nat → Int32} {o p : Nat} {b : Bool} (h : Ph f o p b) : ∀ {k : Nat}, (∀ j, p ≤ j → j < p + k → f j ≠ 10) → own_scan f o (p + k - o) = (p, b, none)
  | 0, _ => h.2
  | k + 1, hn => by
    have ih := own_over h (k := k) (fun j h1 h2 => hn j h1 (by omega))
    have h1 := h.1
    rw [show p + (k + 1) - o = (p + k - o) + 1 by omega]
    show own_step f (o + (p + k - o)) (own_scan f o (p + k - o)) = _
    rw [ih, show o + (p + k - o) = p + k by omega]
    have := hn (p + k) (by omega) (by omega)
    simp [own_step, this]
/-- the end of a line -/
theorem own_line {f : Nat → Int32} {o p q : Nat} {b : Bool} (h : Ph f o p b) (hpq : p ≤ q) (hn : ∀ j, p ≤ j → j < q → f j ≠ 10) (hq : f q = 10) : own_scan f o (q + 1 - o) = own_step f q (p, b, none) := by
  have ih := own_over h (k := q - p) (fun j h1 h2 => hn j h1 (by omega))
  have h1 := h.1
  rw [show p + (q - p) - o = q - o by omega] at ih
  rw [show q + 1 - o = (q - o) + 1 by omega]
  show own_step f (o + (q - o)) (own_scan f o (q - o)) = _
  rw [ih, show o + (q - o) = q by omega]
theorem own_full {f : Nat → Int32} {o p q : Nat} {b : Bool} (h : Ph f o p b) (hpq : p < q) (hn : ∀ j, p ≤ j → j < q → f j ≠ 10) (hq : f q = 10) (hc : p + 2 ≤ q ∨ f p ≠ 13) : Ph f o (q + 1) true := by
  refine ⟨by have := h.1; omega, ?_⟩
  rw [own_line h (by omega) hn hq]
  have e : p < (if p < q ∧ f (q - 1) = 13 then q - 1 else q) := by
    split
    · rename_i hx
      rcases hc with hc | hc
      · omega
      · by_cases hq2 : p + 2 ≤ q
        · omega
        · obtain rfl : q = p + 1 := by omega
          exact absurd hx.2 hc
    · exact hpq
  have e2 : ¬ (if p < q ∧ f (q - 1) = 13 then q - 1 else q) = p := by omega
  unfold own_step
  simp only [hq, if_true]
  rw [if_neg (fun x => e2 x.1)]
  simp [e]
theorem own_emp0 {f : Nat → Int32} {o p q : Nat} (h : Ph f o p false) (hq : f q = 10) (hc : q = p ∨ (q = p + 1 ∧ f p = 13)) : Ph f o (q + 1) false := by
  refine ⟨by have := h.1; omega, ?_⟩
  rcases hc with rfl | ⟨rfl, h13⟩
  · rw [own_line h (Nat.le_refl _) (fun j h1 h2 => by omega) hq]
    unfold own_step
    simp [hq]
  · rw [own_line h (by omega) (fun j h1 h2 => by rw [show j = p by omega, h13]; decide) hq]
    unfold own_step
    simp [hq, h13]
theorem own_emp1 {f : Nat → Int32} {o p q : Nat} (h : Ph f o p true) (hq : f q = 10) (hc : q = p ∨ (q = p + 1 ∧ f p = 13)) : (own_scan f o (q + 1 - o)).2.2 = some (q + 1) ∧ (own_scan f o (q - o)).2.2 = none := by
  have h1 := h.1
  rcases hc with rfl | ⟨rfl, h13⟩
  · refine ⟨?_, by rw [h.2]⟩
    rw [own_line h (Nat.le_refl _) (fun j h1 h2 => by omega) hq]
    unfold own_step
    simp [hq]
  · have h10 : f p ≠ 10 := by rw [h13]; decide
    refine ⟨?_, by rw [own_over h (k := 1) (fun j h1 h2 => by rw [show j = p by omega]; exact h10)]⟩
    rw [own_line h (by omega) (fun j h1 h2 => by rw [show j = p by omega]; exact h10) hq]
    unfold own_step
    simp [hq, h13]
/-- the bytes as an array's list -/
def own_list (f : Nat → Int32) : List Value := (List.range 28).map fun j => Value.int (f j)
theorem own_len (f : Nat → Int32) : (own_list f).length = 28 := by simp [own_list]
theorem own_at (f : Nat → Int32) {j : Nat} (h : j < 28) : (own_list f)[j]? = some (.int (f j)) := by simp [own_list, h]
theorem own_lset (f : Nat → Int32) (i : Nat) (z : Int32) : (own_list f).set i (.int z) = own_list (own_set f i z) := by
  apply List.ext_getElem?
  intro j
  rw [List.getElem?_set, own_len]
  by_cases hj : j < 28
  · rw [own_at _ hj, own_at _ hj]
    by_cases hij : i = j
    · subst hij; simp [own_set, hj]
    · rw [if_neg hij]; simp [own_set, Ne.symm hij]
  · have e1 : ∀ g : Nat → Int32, (own_list g)[j]? = none := fun g => List.getElem?_eq_none (by rw [own_len]; omega)
    rw [e1, e1]; split
    · rw [if_neg (by omega)]
    · rfl
theorem own_set_at (f : Nat → Int32) (i : Nat) (z : Int32) : own_set f i z i = z := by simp [own_set]
theorem own_set_ne (f : Nat → Int32) {i j : Nat} (z : Int32) (h : j ≠ i) : own_set f i z j = f j := by simp [own_set, h]
theorem own_small {j : Nat} (h : j < 2 ^ 31) : (Int32.ofNat j).toInt = (j : Int) := Int32.toInt_ofNat_small h
theorem own_succ (j : Nat) : Int32.ofNat j + (1 : Int32) = Int32.ofNat (j + 1) := by rw [Int32.ofNat_add]; rfl
theorem own_pred {j : Nat} (h : 0 < j) : Int32.ofNat j - (1 : Int32) = Int32.ofNat (j - 1) := by
  have e := own_succ (j - 1)
  rw [show j - 1 + 1 = j by omega] at e
  rw [← e, Int32.add_sub_cancel]
theorem own_addN (i j : Nat) : Int32.ofNat i + Int32.ofNat j = Int32.ofNat (i + j) := (Int32.ofNat_add i j).symm
theorem own_ltN {i j : Nat} (hi : i < 2 ^ 31) (hj : j < 2 ^ 31) : Int32.ofNat i < Int32.ofNat j ↔ i < j := by
  rw [Int32.lt_iff_toInt_lt, own_small hi, own_small hj]; omega
theorem own_inj {i j : Nat} (hi : i < 2 ^ 31) (hj : j < 2 ^ 31) : Int32.ofNat i = Int32.ofNat j ↔ i = j := by
  rw [← Int32.toInt_inj, own_small hi, own_small hj]; omega
theorem own_ofN {y : Int32} {k : Nat} (h : y.toInt = (k : Int)) : y = Int32.ofNat k := by
  have hk : k < 2 ^ 31 := by have := y.toInt_lt; omega
  exact Int32.toInt_inj.mp (h.trans (own_small hk).symm)
theorem own_idem (y : Int32) : nar .byte (nar .byte y) = nar .byte y := by simp [nar]
theorem own_off (y : Int32) : ∃ o : Nat, o ≤ 3 ∧ y &&& (3 : Int32) = Int32.ofNat o := by
  have e1 : (y &&& (3 : Int32)).toInt = y.toInt % 2 ^ 2 := Jvm.Kit.i32_mask y 3 (k := 2) (by decide) (by decide)
  exact ⟨(y.toInt % 2 ^ 2).toNat, by omega, own_ofN (by omega)⟩
theorem own_ge1 {y : Int32} (h : 0 ≤ y.toInt ∧ y.toInt ≤ 10) : ¬ (1 : Int32) + y < (1 : Int32) := by
  have e1 : (1 : Int32).toInt = 1 := rfl
  rw [Int32.lt_iff_toInt_lt, Jvm.Kit.i32_add (by omega) (by omega)]; omega
theorem own_rl (y : Int32) : ¬ (1 : Int32) + (y &&& (3 : Int32)) % (3 : Int32) < (1 : Int32) := by
  have e1 : (y &&& (3 : Int32)).toInt = y.toInt % 2 ^ 2 := Jvm.Kit.i32_mask y 3 (k := 2) (by decide) (by decide)
  apply own_ge1
  have h0 : 0 ≤ (y &&& (3 : Int32)).toInt := by omega
  have e3 : (3 : Int32).toInt = 3 := rfl
  rw [Int32.toInt_mod, Int.tmod_eq_emod_of_nonneg h0, e3]; omega
theorem own_hd (y : Int32) : ¬ (1 : Int32) + (y &&& (1 : Int32)) < (1 : Int32) := by
  have e1 : (y &&& (1 : Int32)).toInt = y.toInt % 2 ^ 1 := Jvm.Kit.i32_mask y 1 (k := 1) (by decide) (by decide)
  apply own_ge1; omega
theorem own_one {y : Int32} (h1 : ¬ y < (1 : Int32)) (h2 : ¬ (1 : Int32) < y) : y = 1 := by
  rw [Int32.lt_iff_toInt_lt] at h1 h2; exact Int32.toInt_inj.mp (by omega)
theorem own_two {y : Int32} (h2 : ¬ (1 : Int32) < y) (h3 : (2 : Int32) < y) : False := by
  rw [Int32.lt_iff_toInt_lt] at h2 h3; have e1 : (1 : Int32).toInt = 1 := rfl; have e2 : (2 : Int32).toInt = 2 := rfl
  omega
theorem own_rem (y : Int32) {o : Nat} (ho : o ≤ 3) : ∃ n : Nat, o + n ≤ 28 ∧ (y &&& (31 : Int32)) % ((29 : Int32) - Int32.ofNat o) = Int32.ofNat n := by
  have e1 : (y &&& (31 : Int32)).toInt = y.toInt % 2 ^ 5 := Jvm.Kit.i32_mask y 31 (k := 5) (by decide) (by decide)
  have e2 := own_small (j := o) (by omega)
  have e9 : (29 : Int32).toInt = 29 := rfl
  have e3 : ((29 : Int32) - Int32.ofNat o).toInt = 29 - (o : Int) := by rw [Jvm.Kit.i32_sub (by omega) (by omega), e2, e9]
  have h0 : 0 ≤ (y &&& (31 : Int32)).toInt := by omega
  have e4 : ((y &&& (31 : Int32)) % ((29 : Int32) - Int32.ofNat o)).toInt = (y &&& (31 : Int32)).toInt % (29 - (o : Int)) := by rw [Int32.toInt_mod, Int.tmod_eq_emod_of_nonneg h0, e3]
  generalize (y &&& (31 : Int32)).toInt = u at *
  have h3 : 0 ≤ u % (29 - (o : Int)) := Int.emod_nonneg _ (by omega)
  have h4 : u % (29 - (o : Int)) < 29 - (o : Int) := Int.emod_lt_of_pos _ (by omega)
  exact ⟨(u % (29 - (o : Int))).toNat, by omega, own_ofN (by omega)⟩
theorem own_nz {o : Nat} (ho : o ≤ 3) : (29 : Int32) - Int32.ofNat o ≠ 0 := fun q => by
  have e2 := own_small (j := o) (by omega)
  have e9 : (29 : Int32).toInt = 29 := rfl
  have e3 : ((29 : Int32) - Int32.ofNat o).toInt = 29 - (o : Int) := by rw [Jvm.Kit.i32_sub (by omega) (by omega), e2, e9]
  rw [q] at e3; have : (0 : Int32).toInt = 0 := rfl
  omega
def own_b (b : Bool) : Int32 := if b then 1 else 0
theorem own_go {f : Nat → Int32} {i u en : Nat} {sn : Bool} (h10 : f i = 10) (hen : en = (if u < i ∧ f (i - 1) = 13 then i - 1 else i)) (h : ¬ (en = u ∧ sn = true)) : own_step f i (u, sn, none) = (i + 1, sn || decide (u < en), none) := by
  unfold own_step; simp only [h10, if_true]; rw [← hen, if_neg h]
theorem own_ret {f : Nat → Int32} {i u en : Nat} (h10 : f i = 10) (hen : en = (if u < i ∧ f (i - 1) = 13 then i - 1 else i)) (h : en = u) : (own_step f i (u, true, none)).2.2 = some (i + 1) := by
  unfold own_step; simp only [h10, if_true]; rw [← hen, if_pos ⟨h, trivial⟩]
theorem own_empA {f : Nat → Int32} {o p : Nat} (h : Ph f o p false) : Ph (own_set (own_set f p (nar .byte (13 : Int32))) (p + 1) (nar .byte (10 : Int32))) o (p + 1 + 1) false :=
  own_emp0 ((h.set _ (Nat.le_refl _)).set _ (by omega)) (own_set_at _ _ _) (Or.inr ⟨rfl, by rw [own_set_ne _ _ (by omega), own_set_at]; rfl⟩)
theorem own_empB {f : Nat → Int32} {o p : Nat} (h : Ph f o p false) : Ph (own_set f p (nar .byte (10 : Int32))) o (p + 1) false :=
  own_emp0 (h.set _ (Nat.le_refl _)) (own_set_at _ _ _) (Or.inl rfl)
theorem own_endA {f : Nat → Int32} {o p : Nat} (h : Ph f o p true) : (own_scan (own_set (own_set f p (nar .byte (13 : Int32))) (p + 1) (nar .byte (10 : Int32))) o (p + 1 + 1 - o)).2.2 = some (p + 1 + 1) ∧ (own_scan (own_set (own_set f p (nar .byte (13 : Int32))) (p + 1) (nar .byte (10 : Int32))) o (p + 1 - o)).2.2 = none :=
  own_emp1 ((h.set _ (Nat.le_refl _)).set _ (by omega)) (own_set_at _ _ _) (Or.inr ⟨rfl, by rw [own_set_ne _ _ (by omega), own_set_at]; rfl⟩)
theorem own_endB {f : Nat → Int32} {o p : Nat} (h : Ph f o p true) : (own_scan (own_set f p (nar .byte (10 : Int32))) o (p + 1 - o)).2.2 = some (p + 1) ∧ (own_scan (own_set f p (nar .byte (10 : Int32))) o (p - o)).2.2 = none :=
  own_emp1 (h.set _ (Nat.le_refl _)) (own_set_at _ _ _) (Or.inl rfl)
/-- a line that has been begun -/
def Ln (f : Nat → Int32) (o p q : Nat) (b : Bool) : Prop := Ph f o p b ∧ p < q ∧ ∀ j, p ≤ j → j < q → f j ≠ 10
theorem Ln.start {f : Nat → Int32} {o p : Nat} {b : Bool} (h : Ph f o p b) {z : Int32} (hz : z ≠ 10) : Ln (own_set f p z) o p (p + 1) b :=
  ⟨h.set _ (Nat.le_refl _), by omega, fun j h1 h2 => by rw [show j = p by omega, own_set_at]; exact hz⟩
theorem Ln.more {f : Nat → Int32} {o p q : Nat} {b : Bool} (h : Ln f o p q b) {z : Int32} (hz : z ≠ 10) : Ln (own_set f q z) o p (q + 1) b :=
  ⟨h.1.set _ (Nat.le_of_lt h.2.1), by have := h.2.1; omega, fun j h1 h2 => by
    by_cases hj : j = q
    · rw [hj, own_set_at]; exact hz
    · rw [own_set_ne _ _ hj]; exact h.2.2 j h1 (by omega)⟩
theorem Ln.done {f : Nat → Int32} {o p q : Nat} {b : Bool} (h : Ln f o p q b) (hc : p + 2 ≤ q ∨ f p ≠ 13) : Ph (own_set f q (nar .byte (10 : Int32))) o (q + 1) true := by
  have h1 := h.2.1
  refine own_full (h.1.set _ (Nat.le_of_lt h1)) h1 (fun j a b => ?_) (own_set_at _ _ _) ?_
  · rw [own_set_ne _ _ (by omega)]; exact h.2.2 j a b
  · rw [own_set_ne _ _ (by omega)]; exact hc
theorem own_final {f g : Nat → Int32} {o q n : Nat} (hoq : o < q) (h1 : (own_scan f o (q - o)).2.2 = some q) (h2 : (own_scan f o (q - 1 - o)).2.2 = none) (hg : ∀ j, j < q → g j = f j) : (own_scan g o n).2.2 = if q ≤ o + n then some q else none := by
  have e1 : own_scan g o (q - o) = own_scan f o (q - o) := own_agree fun j hj => hg j (by omega)
  have e2 : own_scan g o (q - 1 - o) = own_scan f o (q - 1 - o) := own_agree fun j hj => hg j (by omega)
  split
  · have := own_stays (e1 ▸ h1) (n - (q - o))
    rwa [show q - o + (n - (q - o)) = n by omega] at this
  · exact own_before (n := q - 1 - o) (e2 ▸ h2) (by omega)
def own_res (r : Option Nat) : Int32 := match r with | some k => Int32.ofNat k | none => -1
theorem d1_0 : decode method_2_code 0 = .ok (.lload_n 0, 1) := by decide +kernel
theorem d1_1 : decode method_2_code 1 = .ok (.ldc2_w 7, 3) := by decide +kernel
theorem d1_4 : decode method_2_code 4 = .ok (.land, 1) := by decide +kernel
theorem d1_5 : decode method_2_code 5 = .ok (.l2i, 1) := by decide +kernel
theorem d1_6 : decode method_2_code 6 = .ok (.istore_n 2, 1) := by decide +kernel
theorem d1_7 : decode method_2_code 7 = .ok (.iload_n 2, 1) := by decide +kernel
theorem d1_8 : decode method_2_code 8 = .ok (.ifCond .ne 6, 3) := by decide +kernel
theorem d1_11 : decode method_2_code 11 = .ok (.bipush 10, 2) := by decide +kernel
theorem d1_13 : decode method_2_code 13 = .ok (.ireturn, 1) := by decide +kernel
theorem d1_14 : decode method_2_code 14 = .ok (.iload_n 2, 1) := by decide +kernel
theorem d1_15 : decode method_2_code 15 = .ok (.iconst 1, 1) := by decide +kernel
theorem d1_16 : decode method_2_code 16 = .ok (.if_icmp .ne 6, 3) := by decide +kernel
theorem d1_19 : decode method_2_code 19 = .ok (.bipush 13, 2) := by decide +kernel
theorem d1_21 : decode method_2_code 21 = .ok (.ireturn, 1) := by decide +kernel
theorem d1_22 : decode method_2_code 22 = .ok (.lload_n 0, 1) := by decide +kernel
theorem d1_23 : decode method_2_code 23 = .ok (.iconst 2, 1) := by decide +kernel
theorem d1_24 : decode method_2_code 24 = .ok (.lshr, 1) := by decide +kernel
theorem d1_25 : decode method_2_code 25 = .ok (.l2i, 1) := by decide +kernel
theorem d1_26 : decode method_2_code 26 = .ok (.i2b, 1) := by decide +kernel
theorem d1_27 : decode method_2_code 27 = .ok (.ireturn, 1) := by decide +kernel
theorem ef_1 (m : MethodId) (q : Int64) : entryFrame m #[(.long q)] 3 = mkF m 0 #[.val (.long q), .second, .unset] [] := by first | (simp [entryFrame, mkF, argsToLocals, Value.category]; done) | rfl
def R1 : Room := ({ frames := 0, cells := 0, slots := 0, locals := 0 } : Room)
set_option maxRecDepth 65536 in
set_option maxHeartbeats 40000000 in
theorem rm1 (l : Launch) (Z : State) (a0 : Array Value) (hw : ∀ d ∈ tables_1, d.before a0 Z = true) (q : Int64) (h0 : Heap) (n0 : Nat) (hO : Old Z n0 h0)  :
    Con l Z (⟨"com/example/measured_term/measuredterm/http/RequestHeadEndPinLaw", "any", "(J)B"⟩ : MethodName) method_2_code 3 (some .byte) [] R1 R1.cells R1.slots #[(.long q)] h0 (fun v h L => ∃ z : Int32, v = some (.int z) ∧ h0 = h ∧ L = []) := by
  refine Con.intro (n0 := n0) (plainFor_of_name pn_0) (fun m => ef_1 m q) hO ?_
  intro p e s m below meth c T hs0 X0
  refine g_lloadN X0 d1_0 (pc' := 1) rfl rfl ?_
  refine g_ldc2 X0 (hw _ m5) d1_1 (pc' := 4) rfl ?_
  refine g_land X0 d1_4 (pc' := 5) rfl ?_
  refine g_l2i X0 d1_5 (pc' := 6) rfl ?_
  refine g_istoreN X0 d1_6 (pc' := 7) rfl (L' := #[.val (.long q), .second, .val (.int ((q &&& (3 : Int64)).toInt32))]) rfl ?_
  refine g_iloadN X0 d1_7 (pc' := 8) rfl rfl ?_
  refine g_if_ne X0 d1_8 (pt := 14) (by decide) (pc' := 11) rfl (fun hc8 => ?_) (fun hc8 => ?_)
  · refine g_iloadN X0 d1_14 (pc' := 15) rfl rfl ?_
    refine g_iconst X0 d1_15 (pc' := 16) rfl (v := (1 : Int32)) rfl ?_
    refine g_icmp_ne X0 d1_16 (pt := 22) (by decide) (pc' := 19) rfl (fun hc16 => ?_) (fun hc16 => ?_)
    · refine g_lloadN X0 d1_22 (pc' := 23) rfl rfl ?_
      refine g_iconst X0 d1_23 (pc' := 24) rfl (v := (2 : Int32)) rfl ?_
      refine g_lshr X0 d1_24 (pc' := 25) rfl ?_
      refine g_l2i X0 d1_25 (pc' := 26) rfl ?_
      refine g_i2b X0 d1_26 (pc' := 27) rfl ?_
      exact g_retN X0 (by simp) rfl d1_27 (by decide) (by decide) ⟨_, rfl, rfl, rfl⟩
    · refine g_bipush X0 d1_19 (pc' := 21) rfl (v := (13 : Int32)) rfl ?_
      exact g_retN X0 (by simp) rfl d1_21 (by decide) (by decide) ⟨_, rfl, rfl, rfl⟩
  · refine g_bipush X0 d1_11 (pc' := 13) rfl (v := (10 : Int32)) rfl ?_
    exact g_retN X0 (by simp) rfl d1_13 (by decide) (by decide) ⟨_, rfl, rfl, rfl⟩

theorem d2_0 : decode method_3_code 0 = .ok (.lload_n 0, 1) := by decide +kernel
theorem d2_1 : decode method_3_code 1 = .ok (.ldc2_w 7, 3) := by decide +kernel
theorem d2_4 : decode method_3_code 4 = .ok (.land, 1) := by decide +kernel
theorem d2_5 : decode method_3_code 5 = .ok (.l2i, 1) := by decide +kernel
theorem d2_6 : decode method_3_code 6 = .ok (.istore_n 2, 1) := by decide +kernel
theorem d2_7 : decode method_3_code 7 = .ok (.iload_n 2, 1) := by decide +kernel
theorem d2_8 : decode method_3_code 8 = .ok (.ifCond .ne 6, 3) := by decide +kernel
theorem d2_11 : decode method_3_code 11 = .ok (.bipush 13, 2) := by decide +kernel
theorem d2_13 : decode method_3_code 13 = .ok (.ireturn, 1) := by decide +kernel
theorem d2_14 : decode method_3_code 14 = .ok (.lload_n 0, 1) := by decide +kernel
theorem d2_15 : decode method_3_code 15 = .ok (.iconst 2, 1) := by decide +kernel
theorem d2_16 : decode method_3_code 16 = .ok (.lshr, 1) := by decide +kernel
theorem d2_17 : decode method_3_code 17 = .ok (.l2i, 1) := by decide +kernel
theorem d2_18 : decode method_3_code 18 = .ok (.i2b, 1) := by decide +kernel
theorem d2_19 : decode method_3_code 19 = .ok (.istore_n 3, 1) := by decide +kernel
theorem d2_20 : decode method_3_code 20 = .ok (.iload_n 3, 1) := by decide +kernel
theorem d2_21 : decode method_3_code 21 = .ok (.bipush 10, 2) := by decide +kernel
theorem d2_23 : decode method_3_code 23 = .ok (.if_icmp .ne 6, 3) := by decide +kernel
theorem d2_26 : decode method_3_code 26 = .ok (.bipush 121, 2) := by decide +kernel
theorem d2_28 : decode method_3_code 28 = .ok (.ireturn, 1) := by decide +kernel
theorem d2_29 : decode method_3_code 29 = .ok (.iload_n 3, 1) := by decide +kernel
theorem d2_30 : decode method_3_code 30 = .ok (.ireturn, 1) := by decide +kernel
theorem ef_2 (m : MethodId) (q : Int64) : entryFrame m #[(.long q)] 4 = mkF m 0 #[.val (.long q), .second, .unset, .unset] [] := by first | (simp [entryFrame, mkF, argsToLocals, Value.category]; done) | rfl
def R2 : Room := ({ frames := 0, cells := 0, slots := 0, locals := 0 } : Room)
set_option maxRecDepth 65536 in
set_option maxHeartbeats 40000000 in
theorem rm2 (l : Launch) (Z : State) (a0 : Array Value) (hw : ∀ d ∈ tables_1, d.before a0 Z = true) (q : Int64) (h0 : Heap) (n0 : Nat) (hO : Old Z n0 h0)  :
    Con l Z (⟨"com/example/measured_term/measuredterm/http/RequestHeadEndPinLaw", "notLf", "(J)B"⟩ : MethodName) method_3_code 4 (some .byte) [] R2 R2.cells R2.slots #[(.long q)] h0 (fun v h L => ∃ z : Int32, v = some (.int z) ∧ nar .byte z = z ∧ z ≠ 10 ∧ h0 = h ∧ L = []) := by
  refine Con.intro (n0 := n0) (plainFor_of_name pn_0) (fun m => ef_2 m q) hO ?_
  intro p e s m below meth c T hs0 X0
  refine g_lloadN X0 d2_0 (pc' := 1) rfl rfl ?_
  refine g_ldc2 X0 (hw _ m5) d2_1 (pc' := 4) rfl ?_
  refine g_land X0 d2_4 (pc' := 5) rfl ?_
  refine g_l2i X0 d2_5 (pc' := 6) rfl ?_
  refine g_istoreN X0 d2_6 (pc' := 7) rfl (L' := #[.val (.long q), .second, .val (.int ((q &&& (3 : Int64)).toInt32)), .unset]) rfl ?_
  refine g_iloadN X0 d2_7 (pc' := 8) rfl rfl ?_
  refine g_if_ne X0 d2_8 (pt := 14) (by decide) (pc' := 11) rfl (fun hc8 => ?_) (fun hc8 => ?_)
  · refine g_lloadN X0 d2_14 (pc' := 15) rfl rfl ?_
    refine g_iconst X0 d2_15 (pc' := 16) rfl (v := (2 : Int32)) rfl ?_
    refine g_lshr X0 d2_16 (pc' := 17) rfl ?_
    refine g_l2i X0 d2_17 (pc' := 18) rfl ?_
    refine g_i2b X0 d2_18 (pc' := 19) rfl ?_
    refine g_istoreN X0 d2_19 (pc' := 20) rfl (L' := #[.val (.long q), .second, .val (.int ((q &&& (3 : Int64)).toInt32)), .val (.int (((q >>> ((2 : Int32) &&& 0x3f).toInt64).toInt32).toInt8.toInt32))]) rfl ?_
    refine g_iloadN X0 d2_20 (pc' := 21) rfl rfl ?_
    refine g_bipush X0 d2_21 (pc' := 23) rfl (v := (10 : Int32)) rfl ?_
    refine g_icmp_ne X0 d2_23 (pt := 29) (by decide) (pc' := 26) rfl (fun hc23 => ?_) (fun hc23 => ?_)
    · refine g_iloadN X0 d2_29 (pc' := 30) rfl rfl ?_
      exact g_retN X0 (by simp) rfl d2_30 (by decide) (by decide) ⟨_, rfl, own_idem _, (by show nar .byte (nar .byte _) ≠ 10; rw [own_idem]; exact hc23), rfl, rfl⟩
    · refine g_bipush X0 d2_26 (pc' := 28) rfl (v := (121 : Int32)) rfl ?_
      exact g_retN X0 (by simp) rfl d2_28 (by decide) (by decide) ⟨_, rfl, own_idem _, (by decide), rfl, rfl⟩
  · refine g_bipush X0 d2_11 (pc' := 13) rfl (v := (13 : Int32)) rfl ?_
    exact g_retN X0 (by simp) rfl d2_13 (by decide) (by decide) ⟨_, rfl, own_idem _, (by decide), rfl, rfl⟩

theorem d3_0 : decode prog_34_method_3_code 0 = .ok (.iload_n 1, 1) := by decide +kernel
theorem d3_1 : decode prog_34_method_3_code 1 = .ok (.istore_n 3, 1) := by decide +kernel
theorem d3_2 : decode prog_34_method_3_code 2 = .ok (.iconst 0, 1) := by decide +kernel
theorem d3_3 : decode prog_34_method_3_code 3 = .ok (.istore 4, 2) := by decide +kernel
theorem d3_5 : decode prog_34_method_3_code 5 = .ok (.iload_n 1, 1) := by decide +kernel
theorem d3_6 : decode prog_34_method_3_code 6 = .ok (.istore 5, 2) := by decide +kernel
theorem d3_8 : decode prog_34_method_3_code 8 = .ok (.iload 5, 2) := by decide +kernel
theorem d3_10 : decode prog_34_method_3_code 10 = .ok (.iload_n 1, 1) := by decide +kernel
theorem d3_11 : decode prog_34_method_3_code 11 = .ok (.iload_n 2, 1) := by decide +kernel
theorem d3_12 : decode prog_34_method_3_code 12 = .ok (.iadd, 1) := by decide +kernel
theorem d3_13 : decode prog_34_method_3_code 13 = .ok (.if_icmp .ge 85, 3) := by decide +kernel
theorem d3_16 : decode prog_34_method_3_code 16 = .ok (.aload_n 0, 1) := by decide +kernel
theorem d3_17 : decode prog_34_method_3_code 17 = .ok (.iload 5, 2) := by decide +kernel
theorem d3_19 : decode prog_34_method_3_code 19 = .ok (.baload, 1) := by decide +kernel
theorem d3_20 : decode prog_34_method_3_code 20 = .ok (.bipush 10, 2) := by decide +kernel
theorem d3_22 : decode prog_34_method_3_code 22 = .ok (.if_icmp .ne 70, 3) := by decide +kernel
theorem d3_25 : decode prog_34_method_3_code 25 = .ok (.iload 5, 2) := by decide +kernel
theorem d3_27 : decode prog_34_method_3_code 27 = .ok (.iload_n 3, 1) := by decide +kernel
theorem d3_28 : decode prog_34_method_3_code 28 = .ok (.if_icmp .le 21, 3) := by decide +kernel
theorem d3_31 : decode prog_34_method_3_code 31 = .ok (.aload_n 0, 1) := by decide +kernel
theorem d3_32 : decode prog_34_method_3_code 32 = .ok (.iload 5, 2) := by decide +kernel
theorem d3_34 : decode prog_34_method_3_code 34 = .ok (.iconst 1, 1) := by decide +kernel
theorem d3_35 : decode prog_34_method_3_code 35 = .ok (.isub, 1) := by decide +kernel
theorem d3_36 : decode prog_34_method_3_code 36 = .ok (.baload, 1) := by decide +kernel
theorem d3_37 : decode prog_34_method_3_code 37 = .ok (.bipush 13, 2) := by decide +kernel
theorem d3_39 : decode prog_34_method_3_code 39 = .ok (.if_icmp .ne 10, 3) := by decide +kernel
theorem d3_42 : decode prog_34_method_3_code 42 = .ok (.iload 5, 2) := by decide +kernel
theorem d3_44 : decode prog_34_method_3_code 44 = .ok (.iconst 1, 1) := by decide +kernel
theorem d3_45 : decode prog_34_method_3_code 45 = .ok (.isub, 1) := by decide +kernel
theorem d3_46 : decode prog_34_method_3_code 46 = .ok (.goto 5, 3) := by decide +kernel
theorem d3_49 : decode prog_34_method_3_code 49 = .ok (.iload 5, 2) := by decide +kernel
theorem d3_51 : decode prog_34_method_3_code 51 = .ok (.istore 6, 2) := by decide +kernel
theorem d3_53 : decode prog_34_method_3_code 53 = .ok (.iload 6, 2) := by decide +kernel
theorem d3_55 : decode prog_34_method_3_code 55 = .ok (.iload_n 3, 1) := by decide +kernel
theorem d3_56 : decode prog_34_method_3_code 56 = .ok (.if_icmp .ne 13, 3) := by decide +kernel
theorem d3_59 : decode prog_34_method_3_code 59 = .ok (.iload 4, 2) := by decide +kernel
theorem d3_61 : decode prog_34_method_3_code 61 = .ok (.ifCond .eq 8, 3) := by decide +kernel
theorem d3_64 : decode prog_34_method_3_code 64 = .ok (.iload 5, 2) := by decide +kernel
theorem d3_66 : decode prog_34_method_3_code 66 = .ok (.iconst 1, 1) := by decide +kernel
theorem d3_67 : decode prog_34_method_3_code 67 = .ok (.iadd, 1) := by decide +kernel
theorem d3_68 : decode prog_34_method_3_code 68 = .ok (.ireturn, 1) := by decide +kernel
theorem d3_69 : decode prog_34_method_3_code 69 = .ok (.iload 4, 2) := by decide +kernel
theorem d3_71 : decode prog_34_method_3_code 71 = .ok (.ifCond .ne 9, 3) := by decide +kernel
theorem d3_74 : decode prog_34_method_3_code 74 = .ok (.iload 6, 2) := by decide +kernel
theorem d3_76 : decode prog_34_method_3_code 76 = .ok (.iload_n 3, 1) := by decide +kernel
theorem d3_77 : decode prog_34_method_3_code 77 = .ok (.if_icmp .le 7, 3) := by decide +kernel
theorem d3_80 : decode prog_34_method_3_code 80 = .ok (.iconst 1, 1) := by decide +kernel
theorem d3_81 : decode prog_34_method_3_code 81 = .ok (.goto 4, 3) := by decide +kernel
theorem d3_84 : decode prog_34_method_3_code 84 = .ok (.iconst 0, 1) := by decide +kernel
theorem d3_85 : decode prog_34_method_3_code 85 = .ok (.istore 4, 2) := by decide +kernel
theorem d3_87 : decode prog_34_method_3_code 87 = .ok (.iload 5, 2) := by decide +kernel
theorem d3_89 : decode prog_34_method_3_code 89 = .ok (.iconst 1, 1) := by decide +kernel
theorem d3_90 : decode prog_34_method_3_code 90 = .ok (.iadd, 1) := by decide +kernel
theorem d3_91 : decode prog_34_method_3_code 91 = .ok (.istore_n 3, 1) := by decide +kernel
theorem d3_92 : decode prog_34_method_3_code 92 = .ok (.iinc 5 1, 3) := by decide +kernel
theorem d3_95 : decode prog_34_method_3_code 95 = .ok (.goto (-87), 3) := by decide +kernel
theorem d3_98 : decode prog_34_method_3_code 98 = .ok (.iconst (-1), 1) := by decide +kernel
theorem d3_99 : decode prog_34_method_3_code 99 = .ok (.ireturn, 1) := by decide +kernel
theorem ef_3 (m : MethodId) (b : Addr) (o : Nat) (n : Nat) : entryFrame m #[(.ref b), (.int (Int32.ofNat o)), (.int (Int32.ofNat n))] 7 = mkF m 0 #[.val (.ref b), .val (.int (Int32.ofNat o)), .val (.int (Int32.ofNat n)), .unset, .unset, .unset, .unset] [] := by first | (simp [entryFrame, mkF, argsToLocals, Value.category]; done) | rfl
def R3 : Room := ({ frames := 0, cells := 0, slots := 0, locals := 0 } : Room)
set_option maxRecDepth 65536 in
set_option maxHeartbeats 40000000 in
theorem rm3 (l : Launch) (Z : State) (a0 : Array Value) (hw : ∀ d ∈ tables_1, d.before a0 Z = true) (b : Addr) (o : Nat) (n : Nat) (h0 : Heap) (n0 : Nat) (hO : Old Z n0 h0) (f : Nat → Int32) (A_b : Arx Z h0 b .byte (own_list f)) (hon : o + n ≤ 28) :
    Con l Z (⟨"com/example/measured_term/measuredterm/http/RequestHead", "end", "([BII)I"⟩ : MethodName) prog_34_method_3_code 7 (some .int) [] R3 R3.cells R3.slots #[(.ref b), (.int (Int32.ofNat o)), (.int (Int32.ofNat n))] h0 (fun v h L => v = some (.int (own_res (own_scan f o n).2.2)) ∧ h0 = h ∧ L = []) := by
  refine Con.intro (n0 := n0) (plainFor_of_name pn_1) (fun m => ef_3 m b o n) hO ?_
  intro p e s m below meth c T hs0 X0
  have loop : ∀ (r k u : Nat) (sn : Bool) (s6 : Slot), k + r = n → own_scan f o k = (u, sn, none) → (s6 = .unset ∨ ∃ w : Value, s6 = .val w ∧ w.category = 1) → Go p e below (Kq s R3.cells R3.slots (fun v h L => v = some (.int (own_res (own_scan f o n).2.2)) ∧ h0 = h ∧ L = [])) (T.setTop (mkF m 8 #[.val (.ref b), .val (.int (Int32.ofNat o)), .val (.int (Int32.ofNat n)), .val (.int (Int32.ofNat u)), .val (.int (own_b sn)), .val (.int (Int32.ofNat (o + k))), s6] [])) := by
    intro r
    induction r with
    | zero =>
      intro k u sn s6 hk hs h6
      obtain rfl : k = n := by omega
      refine g_iload X0 d3_8 (pc' := 10) rfl rfl ?_
      refine g_iloadN X0 d3_10 (pc' := 11) rfl rfl ?_
      refine g_iloadN X0 d3_11 (pc' := 12) rfl rfl ?_
      refine g_iadd X0 d3_12 (pc' := 13) rfl ?_
      refine g_icmp_ge_t X0 d3_13 (pt := 98) (by decide) (by rw [own_addN, own_ltN (by omega) (by omega)]; omega) ?_
      refine g_iconst X0 d3_98 (pc' := 99) rfl (v := (-1 : Int32)) rfl ?_
      exact g_retI X0 rfl d3_99 (by decide) (by decide) ⟨by rw [hs]; rfl, rfl, rfl⟩
    | succ r ih =>
      intro k u sn s6 hk hs h6
      have hu := own_scan_le f o k
      rw [hs] at hu
      have hu1 : o ≤ u := hu.1
      have hu2 : u ≤ o + k := hu.2
      have hnx : own_scan f o (k + 1) = own_step f (o + k) (u, sn, none) := by rw [← hs]; rfl
      have J92 : ∀ (u' : Nat) (sn' : Bool) (s6' : Slot), own_scan f o (k + 1) = (u', sn', none) → (s6' = .unset ∨ ∃ w : Value, s6' = .val w ∧ w.category = 1) → Go p e below (Kq s R3.cells R3.slots (fun v h L => v = some (.int (own_res (own_scan f o n).2.2)) ∧ h0 = h ∧ L = [])) (T.setTop (mkF m 92 #[.val (.ref b), .val (.int (Int32.ofNat o)), .val (.int (Int32.ofNat n)), .val (.int (Int32.ofNat u')), .val (.int (own_b sn')), .val (.int (Int32.ofNat (o + k))), s6'] [])) := by
        intro u' sn' s6' hs' h6'
        refine g_iinc X0 d3_92 (pc' := 95) rfl rfl (L' := #[.val (.ref b), .val (.int (Int32.ofNat o)), .val (.int (Int32.ofNat n)), .val (.int (Int32.ofNat u')), .val (.int (own_b sn')), .val (.int ((Int32.ofNat (o + k)) + (1 : Int32))), s6']) rfl ?_
        refine g_goto X0 d3_95 (pt := 8) (by decide) ?_
        rw [own_succ]
        exact ih (k + 1) u' sn' s6' (by omega) hs' h6'
      have J51 : ∀ en : Nat, f (o + k) = 10 → en = (if u < o + k ∧ f (o + k - 1) = 13 then o + k - 1 else o + k) → Go p e below (Kq s R3.cells R3.slots (fun v h L => v = some (.int (own_res (own_scan f o n).2.2)) ∧ h0 = h ∧ L = [])) (T.setTop (mkF m 51 #[.val (.ref b), .val (.int (Int32.ofNat o)), .val (.int (Int32.ofNat n)), .val (.int (Int32.ofNat u)), .val (.int (own_b sn)), .val (.int (Int32.ofNat (o + k))), s6] [.int (Int32.ofNat en)])) := by
        intro en h10 hen
        have hen1 : u ≤ en ∧ en ≤ o + k := by rw [hen]; split <;> omega
        cases sn
        · show Go p e below _ (State.setTop _ (mkF m 51 #[.val (.ref b), .val (.int (Int32.ofNat o)), .val (.int (Int32.ofNat n)), .val (.int (Int32.ofNat u)), .val (.int (0 : Int32)), .val (.int (Int32.ofNat (o + k))), s6] [(.int (Int32.ofNat en))]))
          refine g_istore X0 d3_51 (pc' := 53) rfl (L' := #[.val (.ref b), .val (.int (Int32.ofNat o)), .val (.int (Int32.ofNat n)), .val (.int (Int32.ofNat u)), .val (.int (0 : Int32)), .val (.int (Int32.ofNat (o + k))), .val (.int (Int32.ofNat en))]) (XS.store1 rfl h6 rfl) ?_
          refine g_iload X0 d3_53 (pc' := 55) rfl rfl ?_
          refine g_iloadN X0 d3_55 (pc' := 56) rfl rfl ?_
          refine g_icmp_ne X0 d3_56 (pt := 69) (by decide) (pc' := 59) rfl (fun hc56 => ?_) (fun hc56 => ?_)
          · have he : ¬ en = u := fun q => hc56 (by rw [q])
            refine g_iload X0 d3_69 (pc' := 71) rfl rfl ?_
            refine g_if_ne_f X0 d3_71 (pc' := 74) rfl (by decide) ?_
            refine g_iload X0 d3_74 (pc' := 76) rfl rfl ?_
            refine g_iloadN X0 d3_76 (pc' := 77) rfl rfl ?_
            refine g_icmp_le_f X0 d3_77 (pc' := 80) rfl (by rw [own_ltN (by omega) (by omega)]; omega) ?_
            refine g_iconst X0 d3_80 (pc' := 81) rfl (v := (1 : Int32)) rfl ?_
            refine g_goto X0 d3_81 (pt := 85) (by decide) ?_
            refine g_istore X0 d3_85 (pc' := 87) rfl (L' := #[.val (.ref b), .val (.int (Int32.ofNat o)), .val (.int (Int32.ofNat n)), .val (.int (Int32.ofNat u)), .val (.int (1 : Int32)), .val (.int (Int32.ofNat (o + k))), .val (.int (Int32.ofNat en))]) rfl ?_
            refine g_iload X0 d3_87 (pc' := 89) rfl rfl ?_
            refine g_iconst X0 d3_89 (pc' := 90) rfl (v := (1 : Int32)) rfl ?_
            refine g_iadd X0 d3_90 (pc' := 91) rfl ?_
            rw [own_succ]
            refine g_istoreN X0 d3_91 (pc' := 92) rfl (L' := #[.val (.ref b), .val (.int (Int32.ofNat o)), .val (.int (Int32.ofNat n)), .val (.int (Int32.ofNat (o + k + 1))), .val (.int (1 : Int32)), .val (.int (Int32.ofNat (o + k))), .val (.int (Int32.ofNat en))]) rfl ?_
            exact J92 (o + k + 1) true _ (by rw [hnx, own_go h10 hen (by simp [he])]; simp; omega) (Or.inr ⟨_, rfl, rfl⟩)
          · have he : en = u := (own_inj (by omega) (by omega)).mp hc56
            refine g_iload X0 d3_59 (pc' := 61) rfl rfl ?_
            refine g_if_eq_t X0 d3_61 (pt := 69) (by decide) (by decide) ?_
            refine g_iload X0 d3_69 (pc' := 71) rfl rfl ?_
            refine g_if_ne_f X0 d3_71 (pc' := 74) rfl (by decide) ?_
            refine g_iload X0 d3_74 (pc' := 76) rfl rfl ?_
            refine g_iloadN X0 d3_76 (pc' := 77) rfl rfl ?_
            refine g_icmp_le_t X0 d3_77 (pt := 84) (by decide) (by rw [own_ltN (by omega) (by omega)]; omega) ?_
            refine g_iconst X0 d3_84 (pc' := 85) rfl (v := (0 : Int32)) rfl ?_
            refine g_istore X0 d3_85 (pc' := 87) rfl (L' := #[.val (.ref b), .val (.int (Int32.ofNat o)), .val (.int (Int32.ofNat n)), .val (.int (Int32.ofNat u)), .val (.int (0 : Int32)), .val (.int (Int32.ofNat (o + k))), .val (.int (Int32.ofNat en))]) rfl ?_
            refine g_iload X0 d3_87 (pc' := 89) rfl rfl ?_
            refine g_iconst X0 d3_89 (pc' := 90) rfl (v := (1 : Int32)) rfl ?_
            refine g_iadd X0 d3_90 (pc' := 91) rfl ?_
            rw [own_succ]
            refine g_istoreN X0 d3_91 (pc' := 92) rfl (L' := #[.val (.ref b), .val (.int (Int32.ofNat o)), .val (.int (Int32.ofNat n)), .val (.int (Int32.ofNat (o + k + 1))), .val (.int (0 : Int32)), .val (.int (Int32.ofNat (o + k))), .val (.int (Int32.ofNat en))]) rfl ?_
            exact J92 (o + k + 1) false _ (by rw [hnx, own_go h10 hen (by simp [he])]; simp [he]) (Or.inr ⟨_, rfl, rfl⟩)
        · show Go p e below _ (State.setTop _ (mkF m 51 #[.val (.ref b), .val (.int (Int32.ofNat o)), .val (.int (Int32.ofNat n)), .val (.int (Int32.ofNat u)), .val (.int (1 : Int32)), .val (.int (Int32.ofNat (o + k))), s6] [(.int (Int32.ofNat en))]))
          refine g_istore X0 d3_51 (pc' := 53) rfl (L' := #[.val (.ref b), .val (.int (Int32.ofNat o)), .val (.int (Int32.ofNat n)), .val (.int (Int32.ofNat u)), .val (.int (1 : Int32)), .val (.int (Int32.ofNat (o + k))), .val (.int (Int32.ofNat en))]) (XS.store1 rfl h6 rfl) ?_
          refine g_iload X0 d3_53 (pc' := 55) rfl rfl ?_
          refine g_iloadN X0 d3_55 (pc' := 56) rfl rfl ?_
          refine g_icmp_ne X0 d3_56 (pt := 69) (by decide) (pc' := 59) rfl (fun hc56 => ?_) (fun hc56 => ?_)
          · have he : ¬ en = u := fun q => hc56 (by rw [q])
            refine g_iload X0 d3_69 (pc' := 71) rfl rfl ?_
            refine g_if_ne_t X0 d3_71 (pt := 80) (by decide) (by decide) ?_
            refine g_iconst X0 d3_80 (pc' := 81) rfl (v := (1 : Int32)) rfl ?_
            refine g_goto X0 d3_81 (pt := 85) (by decide) ?_
            refine g_istore X0 d3_85 (pc' := 87) rfl (L' := #[.val (.ref b), .val (.int (Int32.ofNat o)), .val (.int (Int32.ofNat n)), .val (.int (Int32.ofNat u)), .val (.int (1 : Int32)), .val (.int (Int32.ofNat (o + k))), .val (.int (Int32.ofNat en))]) rfl ?_
            refine g_iload X0 d3_87 (pc' := 89) rfl rfl ?_
            refine g_iconst X0 d3_89 (pc' := 90) rfl (v := (1 : Int32)) rfl ?_
            refine g_iadd X0 d3_90 (pc' := 91) rfl ?_
            rw [own_succ]
            refine g_istoreN X0 d3_91 (pc' := 92) rfl (L' := #[.val (.ref b), .val (.int (Int32.ofNat o)), .val (.int (Int32.ofNat n)), .val (.int (Int32.ofNat (o + k + 1))), .val (.int (1 : Int32)), .val (.int (Int32.ofNat (o + k))), .val (.int (Int32.ofNat en))]) rfl ?_
            exact J92 (o + k + 1) true _ (by rw [hnx, own_go h10 hen (by simp [he])]; simp) (Or.inr ⟨_, rfl, rfl⟩)
          · have he : en = u := (own_inj (by omega) (by omega)).mp hc56
            refine g_iload X0 d3_59 (pc' := 61) rfl rfl ?_
            refine g_if_eq_f X0 d3_61 (pc' := 64) rfl (by decide) ?_
            refine g_iload X0 d3_64 (pc' := 66) rfl rfl ?_
            refine g_iconst X0 d3_66 (pc' := 67) rfl (v := (1 : Int32)) rfl ?_
            refine g_iadd X0 d3_67 (pc' := 68) rfl ?_
            have hres : (own_scan f o n).2.2 = some (o + k + 1) := by
              have q := own_stays (f := f) (o := o) (n := k + 1) (r := o + k + 1) (by rw [hnx]; exact own_ret h10 hen he) (n - (k + 1))
              rwa [show k + 1 + (n - (k + 1)) = n by omega] at q
            exact g_retI X0 rfl d3_68 (by decide) (by decide) ⟨by rw [own_succ, hres]; rfl, rfl, rfl⟩
      refine g_iload X0 d3_8 (pc' := 10) rfl rfl ?_
      refine g_iloadN X0 d3_10 (pc' := 11) rfl rfl ?_
      refine g_iloadN X0 d3_11 (pc' := 12) rfl rfl ?_
      refine g_iadd X0 d3_12 (pc' := 13) rfl ?_
      refine g_icmp_ge_f X0 d3_13 (pc' := 16) rfl (by rw [own_addN, own_ltN (by omega) (by omega)]; omega) ?_
      refine g_aloadN X0 d3_16 (pc' := 17) rfl rfl rfl ?_
      refine g_iload X0 d3_17 (pc' := 19) rfl rfl ?_
      refine g_baload X0 (i := (o + k)) (v := (.int (f (o + k)))) A_b (own_small (by omega)) (own_at f (by omega)) d3_19 (pc' := 20) rfl ?_
      refine g_bipush X0 d3_20 (pc' := 22) rfl (v := (10 : Int32)) rfl ?_
      refine g_icmp_ne X0 d3_22 (pt := 92) (by decide) (pc' := 25) rfl (fun hc22 => ?_) (fun hc22 => ?_)
      · exact J92 u sn s6 (by rw [hnx]; simp [own_step, hc22]) h6
      · refine g_iload X0 d3_25 (pc' := 27) rfl rfl ?_
        refine g_iloadN X0 d3_27 (pc' := 28) rfl rfl ?_
        refine g_icmp_le X0 d3_28 (pt := 49) (by decide) (pc' := 31) rfl (fun hc28 => ?_) (fun hc28 => ?_)
        · have hlt : ¬ u < o + k := fun q => hc28 ((own_ltN (by omega) (by omega)).mpr q)
          refine g_iload X0 d3_49 (pc' := 51) rfl rfl ?_
          exact J51 (o + k) hc22 (by rw [if_neg]; rintro ⟨q, -⟩; exact hlt q)
        · have hlt : u < o + k := (own_ltN (by omega) (by omega)).mp hc28
          refine g_aloadN X0 d3_31 (pc' := 32) rfl rfl rfl ?_
          refine g_iload X0 d3_32 (pc' := 34) rfl rfl ?_
          refine g_iconst X0 d3_34 (pc' := 35) rfl (v := (1 : Int32)) rfl ?_
          refine g_isub X0 d3_35 (pc' := 36) rfl ?_
          refine g_baload X0 (i := (o + k - 1)) (v := (.int (f (o + k - 1)))) A_b (by rw [own_pred (by omega)]; exact own_small (by omega)) (own_at f (by omega)) d3_36 (pc' := 37) rfl ?_
          refine g_bipush X0 d3_37 (pc' := 39) rfl (v := (13 : Int32)) rfl ?_
          refine g_icmp_ne X0 d3_39 (pt := 49) (by decide) (pc' := 42) rfl (fun hc39 => ?_) (fun hc39 => ?_)
          · refine g_iload X0 d3_49 (pc' := 51) rfl rfl ?_
            exact J51 (o + k) hc22 (by rw [if_neg]; rintro ⟨-, q⟩; exact hc39 q)
          · refine g_iload X0 d3_42 (pc' := 44) rfl rfl ?_
            refine g_iconst X0 d3_44 (pc' := 45) rfl (v := (1 : Int32)) rfl ?_
            refine g_isub X0 d3_45 (pc' := 46) rfl ?_
            refine g_goto X0 d3_46 (pt := 51) (by decide) ?_
            rw [own_pred (by omega)]
            exact J51 (o + k - 1) hc22 (by rw [if_pos ⟨hlt, hc39⟩])
  refine g_iloadN X0 d3_0 (pc' := 1) rfl rfl ?_
  refine g_istoreN X0 d3_1 (pc' := 2) rfl (L' := #[.val (.ref b), .val (.int (Int32.ofNat o)), .val (.int (Int32.ofNat n)), .val (.int (Int32.ofNat o)), .unset, .unset, .unset]) rfl ?_
  refine g_iconst X0 d3_2 (pc' := 3) rfl (v := (0 : Int32)) rfl ?_
  refine g_istore X0 d3_3 (pc' := 5) rfl (L' := #[.val (.ref b), .val (.int (Int32.ofNat o)), .val (.int (Int32.ofNat n)), .val (.int (Int32.ofNat o)), .val (.int (0 : Int32)), .unset, .unset]) rfl ?_
  refine g_iloadN X0 d3_5 (pc' := 6) rfl rfl ?_
  refine g_istore X0 d3_6 (pc' := 8) rfl (L' := #[.val (.ref b), .val (.int (Int32.ofNat o)), .val (.int (Int32.ofNat n)), .val (.int (Int32.ofNat o)), .val (.int (0 : Int32)), .val (.int (Int32.ofNat o)), .unset]) rfl ?_
  exact loop n 0 o false _ (by omega) rfl (Or.inl rfl)

theorem ef_0 (m : MethodId) (edges : Int64) (lines : Int64) (shape : Int32) (seed : Int32) : entryFrame m #[(.long edges), (.long lines), (.int shape), (.int seed)] maxLocals = mkF m 0 #[.val (.long edges), .second, .val (.long lines), .second, .val (.int shape), .val (.int seed), .unset, .unset, .unset, .unset, .unset, .unset, .unset, .unset, .unset, .unset, .unset, .unset, .unset, .unset, .unset, .unset, .unset, .unset, .unset, .unset] [] := by first | (simp [entryFrame, mkF, argsToLocals, Value.category, maxLocals]; done) | rfl
set_option maxRecDepth 65536 in
set_option maxHeartbeats 40000000 in
theorem rm0 (l : Launch) (Z : State) (a0 : Array Value) (hw : ∀ d ∈ tables_1, d.before a0 Z = true) (ws : List Jvm.Cond) (edges : Int64) (lines : Int64) (shape : Int32) (seed : Int32) (h0 : Heap) (n0 : Nat) (hO : Old Z n0 h0)  :
    Con l Z x code maxLocals ret ws room_1 16 128 #[(.long edges), (.long lines), (.int shape), (.int seed)] h0 (fun v h L => v = some (.int 1) ∧ Fr n0 L) := by
  refine Con.intro (n0 := n0) (plainFor_of_name pn_0) (fun m => ef_0 m edges lines shape seed) hO ?_
  intro p e s m below meth c T hs0 X0
  refine g_bipush X0 at_0 (pc' := 2) rfl (v := (28 : Int32)) rfl ?_
  refine g_newarray X0 (aty := .byte) (cap := 28) (vs := (own_list (fun _ => (0 : Int32)))) (hw _ m0) (by decide) (by decide) rfl (by decide) at_2 (pc' := 4) rfl (by decide) (by decide) (fun T1 h1 b1 X1 g1 E1 A1 l1 => ?_)
  refine g_astore X1 at_4 (pc' := 6) rfl rfl (L' := #[.val (.long edges), .second, .val (.long lines), .second, .val (.int shape), .val (.int seed), .val (.ref b1), .unset, .unset, .unset, .unset, .unset, .unset, .unset, .unset, .unset, .unset, .unset, .unset, .unset, .unset, .unset, .unset, .unset, .unset, .unset]) rfl ?_
  refine g_iload X1 at_6 (pc' := 8) rfl rfl ?_
  refine g_iconst X1 at_8 (pc' := 9) rfl (v := (3 : Int32)) rfl ?_
  refine g_iand X1 at_9 (pc' := 10) rfl ?_
  obtain ⟨o, ho, hoe⟩ := own_off shape
  rw [hoe]
  refine g_istore X1 at_10 (pc' := 12) rfl (L' := #[.val (.long edges), .second, .val (.long lines), .second, .val (.int shape), .val (.int seed), .val (.ref b1), .val (.int (Int32.ofNat o)), .unset, .unset, .unset, .unset, .unset, .unset, .unset, .unset, .unset, .unset, .unset, .unset, .unset, .unset, .unset, .unset, .unset, .unset]) rfl ?_
  refine g_iload X1 at_12 (pc' := 14) rfl rfl ?_
  refine g_iconst X1 at_14 (pc' := 15) rfl (v := (2 : Int32)) rfl ?_
  refine g_iushr X1 at_15 (pc' := 16) rfl ?_
  refine g_iconst X1 at_16 (pc' := 17) rfl (v := (3 : Int32)) rfl ?_
  refine g_iand X1 at_17 (pc' := 18) rfl ?_
  generalize (((shape.toUInt32 >>> ((2 : Int32) &&& 31).toUInt32).toInt32) &&& (3 : Int32)) = em
  refine g_istore X1 at_18 (pc' := 20) rfl (L' := #[.val (.long edges), .second, .val (.long lines), .second, .val (.int shape), .val (.int seed), .val (.ref b1), .val (.int (Int32.ofNat o)), .val (.int em), .unset, .unset, .unset, .unset, .unset, .unset, .unset, .unset, .unset, .unset, .unset, .unset, .unset, .unset, .unset, .unset, .unset]) rfl ?_
  refine g_iconst X1 at_20 (pc' := 21) rfl (v := (1 : Int32)) rfl ?_
  refine g_iload X1 at_21 (pc' := 23) rfl rfl ?_
  refine g_iconst X1 at_23 (pc' := 24) rfl (v := (4 : Int32)) rfl ?_
  refine g_iushr X1 at_24 (pc' := 25) rfl ?_
  refine g_iconst X1 at_25 (pc' := 26) rfl (v := (3 : Int32)) rfl ?_
  refine g_iand X1 at_26 (pc' := 27) rfl ?_
  refine g_iconst X1 at_27 (pc' := 28) rfl (v := (3 : Int32)) rfl ?_
  refine g_irem X1 at_28 (pc' := 29) rfl (by decide) ?_
  refine g_iadd X1 at_29 (pc' := 30) rfl ?_
  have hrl := own_rl ((shape.toUInt32 >>> ((4 : Int32) &&& 31).toUInt32).toInt32)
  obtain ⟨rl, hrle⟩ : ∃ r, r = ((1 : Int32) + ((((shape.toUInt32 >>> ((4 : Int32) &&& 31).toUInt32).toInt32) &&& (3 : Int32)) % (3 : Int32))) := ⟨_, rfl⟩
  rw [← hrle] at hrl ⊢
  refine g_istore X1 at_30 (pc' := 32) rfl (L' := #[.val (.long edges), .second, .val (.long lines), .second, .val (.int shape), .val (.int seed), .val (.ref b1), .val (.int (Int32.ofNat o)), .val (.int em), .val (.int rl), .unset, .unset, .unset, .unset, .unset, .unset, .unset, .unset, .unset, .unset, .unset, .unset, .unset, .unset, .unset, .unset]) rfl ?_
  refine g_iload X1 at_32 (pc' := 34) rfl rfl ?_
  refine g_bipush X1 at_34 (pc' := 36) rfl (v := (6 : Int32)) rfl ?_
  refine g_iushr X1 at_36 (pc' := 37) rfl ?_
  refine g_iconst X1 at_37 (pc' := 38) rfl (v := (1 : Int32)) rfl ?_
  refine g_iand X1 at_38 (pc' := 39) rfl ?_
  have J47 : ∀ x10 : Int32, Go p e below (Kq s 16 128 (fun v h L => v = some (.int 1) ∧ Fr n0 L)) (T1.setTop (mkF m 47 #[.val (.long edges), .second, .val (.long lines), .second, .val (.int shape), .val (.int seed), .val (.ref b1), .val (.int (Int32.ofNat o)), .val (.int em), .val (.int rl), .unset, .unset, .unset, .unset, .unset, .unset, .unset, .unset, .unset, .unset, .unset, .unset, .unset, .unset, .unset, .unset] [.int x10])) := by
    intro x10
    refine g_istore X1 at_47 (pc' := 49) rfl (L' := #[.val (.long edges), .second, .val (.long lines), .second, .val (.int shape), .val (.int seed), .val (.ref b1), .val (.int (Int32.ofNat o)), .val (.int em), .val (.int rl), .val (.int x10), .unset, .unset, .unset, .unset, .unset, .unset, .unset, .unset, .unset, .unset, .unset, .unset, .unset, .unset, .unset]) rfl ?_
    refine g_iload X1 at_49 (pc' := 51) rfl rfl ?_
    refine g_bipush X1 at_51 (pc' := 53) rfl (v := (7 : Int32)) rfl ?_
    refine g_iushr X1 at_53 (pc' := 54) rfl ?_
    refine g_iconst X1 at_54 (pc' := 55) rfl (v := (1 : Int32)) rfl ?_
    refine g_iand X1 at_55 (pc' := 56) rfl ?_
    have J64 : ∀ x11 : Int32, Go p e below (Kq s 16 128 (fun v h L => v = some (.int 1) ∧ Fr n0 L)) (T1.setTop (mkF m 64 #[.val (.long edges), .second, .val (.long lines), .second, .val (.int shape), .val (.int seed), .val (.ref b1), .val (.int (Int32.ofNat o)), .val (.int em), .val (.int rl), .val (.int x10), .unset, .unset, .unset, .unset, .unset, .unset, .unset, .unset, .unset, .unset, .unset, .unset, .unset, .unset, .unset] [.int x11])) := by
      intro x11
      refine g_istore X1 at_64 (pc' := 66) rfl (L' := #[.val (.long edges), .second, .val (.long lines), .second, .val (.int shape), .val (.int seed), .val (.ref b1), .val (.int (Int32.ofNat o)), .val (.int em), .val (.int rl), .val (.int x10), .val (.int x11), .unset, .unset, .unset, .unset, .unset, .unset, .unset, .unset, .unset, .unset, .unset, .unset, .unset, .unset]) rfl ?_
      refine g_iconst X1 at_66 (pc' := 67) rfl (v := (1 : Int32)) rfl ?_
      refine g_iload X1 at_67 (pc' := 69) rfl rfl ?_
      refine g_bipush X1 at_69 (pc' := 71) rfl (v := (8 : Int32)) rfl ?_
      refine g_iushr X1 at_71 (pc' := 72) rfl ?_
      refine g_iconst X1 at_72 (pc' := 73) rfl (v := (1 : Int32)) rfl ?_
      refine g_iand X1 at_73 (pc' := 74) rfl ?_
      refine g_iadd X1 at_74 (pc' := 75) rfl ?_
      have hhdl := own_hd ((shape.toUInt32 >>> ((8 : Int32) &&& 31).toUInt32).toInt32)
      obtain ⟨hdl, hde⟩ : ∃ r, r = ((1 : Int32) + (((shape.toUInt32 >>> ((8 : Int32) &&& 31).toUInt32).toInt32) &&& (1 : Int32))) := ⟨_, rfl⟩
      rw [← hde] at hhdl ⊢
      refine g_istore X1 at_75 (pc' := 77) rfl (L' := #[.val (.long edges), .second, .val (.long lines), .second, .val (.int shape), .val (.int seed), .val (.ref b1), .val (.int (Int32.ofNat o)), .val (.int em), .val (.int rl), .val (.int x10), .val (.int x11), .val (.int hdl), .unset, .unset, .unset, .unset, .unset, .unset, .unset, .unset, .unset, .unset, .unset, .unset, .unset]) rfl ?_
      refine g_iload X1 at_77 (pc' := 79) rfl rfl ?_
      refine g_bipush X1 at_79 (pc' := 81) rfl (v := (9 : Int32)) rfl ?_
      refine g_iushr X1 at_81 (pc' := 82) rfl ?_
      refine g_iconst X1 at_82 (pc' := 83) rfl (v := (1 : Int32)) rfl ?_
      refine g_iand X1 at_83 (pc' := 84) rfl ?_
      have J92 : ∀ x13 : Int32, Go p e below (Kq s 16 128 (fun v h L => v = some (.int 1) ∧ Fr n0 L)) (T1.setTop (mkF m 92 #[.val (.long edges), .second, .val (.long lines), .second, .val (.int shape), .val (.int seed), .val (.ref b1), .val (.int (Int32.ofNat o)), .val (.int em), .val (.int rl), .val (.int x10), .val (.int x11), .val (.int hdl), .unset, .unset, .unset, .unset, .unset, .unset, .unset, .unset, .unset, .unset, .unset, .unset, .unset] [.int x13])) := by
        intro x13
        refine g_istore X1 at_92 (pc' := 94) rfl (L' := #[.val (.long edges), .second, .val (.long lines), .second, .val (.int shape), .val (.int seed), .val (.ref b1), .val (.int (Int32.ofNat o)), .val (.int em), .val (.int rl), .val (.int x10), .val (.int x11), .val (.int hdl), .val (.int x13), .unset, .unset, .unset, .unset, .unset, .unset, .unset, .unset, .unset, .unset, .unset, .unset]) rfl ?_
        refine g_iload X1 at_94 (pc' := 96) rfl rfl ?_
        refine g_bipush X1 at_96 (pc' := 98) rfl (v := (10 : Int32)) rfl ?_
        refine g_iushr X1 at_98 (pc' := 99) rfl ?_
        refine g_iconst X1 at_99 (pc' := 100) rfl (v := (1 : Int32)) rfl ?_
        refine g_iand X1 at_100 (pc' := 101) rfl ?_
        have J109 : ∀ x14 : Int32, Go p e below (Kq s 16 128 (fun v h L => v = some (.int 1) ∧ Fr n0 L)) (T1.setTop (mkF m 109 #[.val (.long edges), .second, .val (.long lines), .second, .val (.int shape), .val (.int seed), .val (.ref b1), .val (.int (Int32.ofNat o)), .val (.int em), .val (.int rl), .val (.int x10), .val (.int x11), .val (.int hdl), .val (.int x13), .unset, .unset, .unset, .unset, .unset, .unset, .unset, .unset, .unset, .unset, .unset, .unset] [.int x14])) := by
          intro x14
          refine g_istore X1 at_109 (pc' := 111) rfl (L' := #[.val (.long edges), .second, .val (.long lines), .second, .val (.int shape), .val (.int seed), .val (.ref b1), .val (.int (Int32.ofNat o)), .val (.int em), .val (.int rl), .val (.int x10), .val (.int x11), .val (.int hdl), .val (.int x13), .val (.int x14), .unset, .unset, .unset, .unset, .unset, .unset, .unset, .unset, .unset, .unset, .unset]) rfl ?_
          refine g_iload X1 at_111 (pc' := 113) rfl rfl ?_
          refine g_bipush X1 at_113 (pc' := 115) rfl (v := (11 : Int32)) rfl ?_
          refine g_iushr X1 at_115 (pc' := 116) rfl ?_
          refine g_iconst X1 at_116 (pc' := 117) rfl (v := (1 : Int32)) rfl ?_
          refine g_iand X1 at_117 (pc' := 118) rfl ?_
          have J126 : ∀ x15 : Int32, Go p e below (Kq s 16 128 (fun v h L => v = some (.int 1) ∧ Fr n0 L)) (T1.setTop (mkF m 126 #[.val (.long edges), .second, .val (.long lines), .second, .val (.int shape), .val (.int seed), .val (.ref b1), .val (.int (Int32.ofNat o)), .val (.int em), .val (.int rl), .val (.int x10), .val (.int x11), .val (.int hdl), .val (.int x13), .val (.int x14), .unset, .unset, .unset, .unset, .unset, .unset, .unset, .unset, .unset, .unset, .unset] [.int x15])) := by
            intro x15
            refine g_istore X1 at_126 (pc' := 128) rfl (L' := #[.val (.long edges), .second, .val (.long lines), .second, .val (.int shape), .val (.int seed), .val (.ref b1), .val (.int (Int32.ofNat o)), .val (.int em), .val (.int rl), .val (.int x10), .val (.int x11), .val (.int hdl), .val (.int x13), .val (.int x14), .val (.int x15), .unset, .unset, .unset, .unset, .unset, .unset, .unset, .unset, .unset, .unset]) rfl ?_
            refine g_iload X1 at_128 (pc' := 130) rfl rfl ?_
            refine g_bipush X1 at_130 (pc' := 132) rfl (v := (12 : Int32)) rfl ?_
            refine g_iushr X1 at_132 (pc' := 133) rfl ?_
            refine g_iconst X1 at_133 (pc' := 134) rfl (v := (1 : Int32)) rfl ?_
            refine g_iand X1 at_134 (pc' := 135) rfl ?_
            have J143 : ∀ x16 : Int32, Go p e below (Kq s 16 128 (fun v h L => v = some (.int 1) ∧ Fr n0 L)) (T1.setTop (mkF m 143 #[.val (.long edges), .second, .val (.long lines), .second, .val (.int shape), .val (.int seed), .val (.ref b1), .val (.int (Int32.ofNat o)), .val (.int em), .val (.int rl), .val (.int x10), .val (.int x11), .val (.int hdl), .val (.int x13), .val (.int x14), .val (.int x15), .unset, .unset, .unset, .unset, .unset, .unset, .unset, .unset, .unset, .unset] [.int x16])) := by
              intro x16
              refine g_istore X1 at_143 (pc' := 145) rfl (L' := #[.val (.long edges), .second, .val (.long lines), .second, .val (.int shape), .val (.int seed), .val (.ref b1), .val (.int (Int32.ofNat o)), .val (.int em), .val (.int rl), .val (.int x10), .val (.int x11), .val (.int hdl), .val (.int x13), .val (.int x14), .val (.int x15), .val (.int x16), .unset, .unset, .unset, .unset, .unset, .unset, .unset, .unset, .unset]) rfl ?_
              refine g_iload X1 at_145 (pc' := 147) rfl rfl ?_
              refine g_bipush X1 at_147 (pc' := 149) rfl (v := (13 : Int32)) rfl ?_
              refine g_iushr X1 at_149 (pc' := 150) rfl ?_
              refine g_iconst X1 at_150 (pc' := 151) rfl (v := (1 : Int32)) rfl ?_
              refine g_iand X1 at_151 (pc' := 152) rfl ?_
              have J160 : ∀ x17 : Int32, Go p e below (Kq s 16 128 (fun v h L => v = some (.int 1) ∧ Fr n0 L)) (T1.setTop (mkF m 160 #[.val (.long edges), .second, .val (.long lines), .second, .val (.int shape), .val (.int seed), .val (.ref b1), .val (.int (Int32.ofNat o)), .val (.int em), .val (.int rl), .val (.int x10), .val (.int x11), .val (.int hdl), .val (.int x13), .val (.int x14), .val (.int x15), .val (.int x16), .unset, .unset, .unset, .unset, .unset, .unset, .unset, .unset, .unset] [.int x17])) := by
                intro x17
                refine g_istore X1 at_160 (pc' := 162) rfl (L' := #[.val (.long edges), .second, .val (.long lines), .second, .val (.int shape), .val (.int seed), .val (.ref b1), .val (.int (Int32.ofNat o)), .val (.int em), .val (.int rl), .val (.int x10), .val (.int x11), .val (.int hdl), .val (.int x13), .val (.int x14), .val (.int x15), .val (.int x16), .val (.int x17), .unset, .unset, .unset, .unset, .unset, .unset, .unset, .unset]) rfl ?_
                refine g_aload X1 at_162 (pc' := 164) rfl rfl rfl ?_
                refine g_iconst X1 at_164 (pc' := 165) rfl (v := (0 : Int32)) rfl ?_
                refine g_lloadN X1 at_165 (pc' := 166) rfl rfl ?_
                refine g_callS X1 (y := (⟨"com/example/measured_term/measuredterm/http/RequestHeadEndPinLaw", "any", "(J)B"⟩ : MethodName)) [(.long edges)] (hw _ m1) (hw _ m2) (hw _ m3) (hw _ m4) (hw _ m3) (rm1 l Z a0 hw edges h1 n0 X1.old) (by decide) (by decide) (by decide) (by decide) (by decide) rfl pd_0 rfl (rest := [(.int (0 : Int32)), (.ref b1)]) rfl (W := 2) rfl at_166 (pc' := 169) rfl ?_
                rintro _ T2 _ _ Y2 ⟨z2, rfl, rfl, rfl⟩
                have X2 := Y2 X1.old (Fr.nil _)
                show Go p e below _ (State.setTop _ (mkF m 169 #[.val (.long edges), .second, .val (.long lines), .second, .val (.int shape), .val (.int seed), .val (.ref b1), .val (.int (Int32.ofNat o)), .val (.int em), .val (.int rl), .val (.int x10), .val (.int x11), .val (.int hdl), .val (.int x13), .val (.int x14), .val (.int x15), .val (.int x16), .val (.int x17), .unset, .unset, .unset, .unset, .unset, .unset, .unset, .unset] [(.int z2), (.int (0 : Int32)), (.ref b1)]))
                refine g_bastore X2 (i := 0) A1 (by decide) (by rw [own_len]; decide) l1 at_169 (pc' := 170) rfl (fun T3 h3 X3 W3 A3 => ?_)
                rw [own_lset] at A3
                refine g_aload X3 at_170 (pc' := 172) rfl rfl rfl ?_
                refine g_iconst X3 at_172 (pc' := 173) rfl (v := (1 : Int32)) rfl ?_
                refine g_lloadN X3 at_173 (pc' := 174) rfl rfl ?_
                refine g_bipush X3 at_174 (pc' := 176) rfl (v := (10 : Int32)) rfl ?_
                refine g_lushr X3 at_176 (pc' := 177) rfl ?_
                refine g_callS X3 (y := (⟨"com/example/measured_term/measuredterm/http/RequestHeadEndPinLaw", "any", "(J)B"⟩ : MethodName)) [(.long ((edges.toUInt64 >>> ((10 : Int32) &&& 0x3f).toInt64.toUInt64).toInt64))] (hw _ m1) (hw _ m2) (hw _ m3) (hw _ m4) (hw _ m3) (rm1 l Z a0 hw ((edges.toUInt64 >>> ((10 : Int32) &&& 0x3f).toInt64.toUInt64).toInt64) h3 n0 X3.old) (by decide) (by decide) (by decide) (by decide) (by decide) rfl pd_0 rfl (rest := [(.int (1 : Int32)), (.ref b1)]) rfl (W := 2) rfl at_177 (pc' := 180) rfl ?_
                rintro _ T4 _ _ Y4 ⟨z4, rfl, rfl, rfl⟩
                have X4 := Y4 X3.old (Fr.nil _)
                show Go p e below _ (State.setTop _ (mkF m 180 #[.val (.long edges), .second, .val (.long lines), .second, .val (.int shape), .val (.int seed), .val (.ref b1), .val (.int (Int32.ofNat o)), .val (.int em), .val (.int rl), .val (.int x10), .val (.int x11), .val (.int hdl), .val (.int x13), .val (.int x14), .val (.int x15), .val (.int x16), .val (.int x17), .unset, .unset, .unset, .unset, .unset, .unset, .unset, .unset] [(.int z4), (.int (1 : Int32)), (.ref b1)]))
                refine g_bastore X4 (i := 1) A3 (by decide) (by rw [own_len]; decide) l1 at_180 (pc' := 181) rfl (fun T5 h5 X5 W5 A5 => ?_)
                rw [own_lset] at A5
                refine g_aload X5 at_181 (pc' := 183) rfl rfl rfl ?_
                refine g_iconst X5 at_183 (pc' := 184) rfl (v := (2 : Int32)) rfl ?_
                refine g_lloadN X5 at_184 (pc' := 185) rfl rfl ?_
                refine g_bipush X5 at_185 (pc' := 187) rfl (v := (20 : Int32)) rfl ?_
                refine g_lushr X5 at_187 (pc' := 188) rfl ?_
                refine g_callS X5 (y := (⟨"com/example/measured_term/measuredterm/http/RequestHeadEndPinLaw", "any", "(J)B"⟩ : MethodName)) [(.long ((edges.toUInt64 >>> ((20 : Int32) &&& 0x3f).toInt64.toUInt64).toInt64))] (hw _ m1) (hw _ m2) (hw _ m3) (hw _ m4) (hw _ m3) (rm1 l Z a0 hw ((edges.toUInt64 >>> ((20 : Int32) &&& 0x3f).toInt64.toUInt64).toInt64) h5 n0 X5.old) (by decide) (by decide) (by decide) (by decide) (by decide) rfl pd_0 rfl (rest := [(.int (2 : Int32)), (.ref b1)]) rfl (W := 2) rfl at_188 (pc' := 191) rfl ?_
                rintro _ T6 _ _ Y6 ⟨z6, rfl, rfl, rfl⟩
                have X6 := Y6 X5.old (Fr.nil _)
                show Go p e below _ (State.setTop _ (mkF m 191 #[.val (.long edges), .second, .val (.long lines), .second, .val (.int shape), .val (.int seed), .val (.ref b1), .val (.int (Int32.ofNat o)), .val (.int em), .val (.int rl), .val (.int x10), .val (.int x11), .val (.int hdl), .val (.int x13), .val (.int x14), .val (.int x15), .val (.int x16), .val (.int x17), .unset, .unset, .unset, .unset, .unset, .unset, .unset, .unset] [(.int z6), (.int (2 : Int32)), (.ref b1)]))
                refine g_bastore X6 (i := 2) A5 (by decide) (by rw [own_len]; decide) l1 at_191 (pc' := 192) rfl (fun T7 h7 X7 W7 A7 => ?_)
                rw [own_lset] at A7
                refine g_iload X7 at_192 (pc' := 194) rfl rfl ?_
                refine g_istore X7 at_194 (pc' := 196) rfl (L' := #[.val (.long edges), .second, .val (.long lines), .second, .val (.int shape), .val (.int seed), .val (.ref b1), .val (.int (Int32.ofNat o)), .val (.int em), .val (.int rl), .val (.int x10), .val (.int x11), .val (.int hdl), .val (.int x13), .val (.int x14), .val (.int x15), .val (.int x16), .val (.int x17), .val (.int (Int32.ofNat o)), .unset, .unset, .unset, .unset, .unset, .unset, .unset]) rfl ?_
                have hp := Ph.start (own_set (own_set (own_set (fun _ => (0 : Int32)) 0 (nar .byte z2)) 1 (nar .byte z4)) 2 (nar .byte z6)) o
                have J504 : ∀ (T : State) (locs : List Loc) (h : Heap) (f : Nat → Int32) (q : Nat) (c0 c1 c2 : Int32) (s22 s23 : Slot), St Z n0 p l e room_1 s m #[(.long edges), (.long lines), (.int shape), (.int seed)] below meth c x.cls x.name code maxLocals ret T locs 1 28 h → Arx Z h b1 .byte (own_list f) → (s22 = .unset ∨ ∃ w : Value, s22 = .val w ∧ w.category = 1) → (s23 = .unset ∨ ∃ w : Value, s23 = .val w ∧ w.category = 1) → o < q → q ≤ o + 17 → (own_scan f o (q - o)).2.2 = some q → (own_scan f o (q - 1 - o)).2.2 = none → Go p e below (Kq s 16 128 (fun v h L => v = some (.int 1) ∧ Fr n0 L)) (T.setTop (mkF m 504 #[.val (.long edges), .second, .val (.long lines), .second, .val (.int shape), .val (.int seed), .val (.ref b1), .val (.int (Int32.ofNat o)), .val (.int em), .val (.int rl), .val (.int x10), .val (.int x11), .val (.int hdl), .val (.int x13), .val (.int x14), .val (.int x15), .val (.int x16), .val (.int x17), .val (.int (Int32.ofNat q)), .val (.int c0), .val (.int c1), .val (.int c2), s22, s23, .unset, .unset] [])) := by
                  intro T locs h f q c0 c1 c2 s22 s23 X A h22 h23 hoq hq17 hr1 hr2
                  refine g_iload X at_504 (pc' := 506) rfl rfl ?_
                  refine g_istore X at_506 (pc' := 508) rfl (L' := #[.val (.long edges), .second, .val (.long lines), .second, .val (.int shape), .val (.int seed), .val (.ref b1), .val (.int (Int32.ofNat o)), .val (.int em), .val (.int rl), .val (.int x10), .val (.int x11), .val (.int hdl), .val (.int x13), .val (.int x14), .val (.int x15), .val (.int x16), .val (.int x17), .val (.int (Int32.ofNat q)), .val (.int c0), .val (.int c1), .val (.int c2), .val (.int (Int32.ofNat q)), s23, .unset, .unset]) (XS.store1 rfl h22 rfl) ?_
                  refine g_aload X at_508 (pc' := 510) rfl rfl rfl ?_
                  refine g_iload X at_510 (pc' := 512) rfl rfl ?_
                  refine g_lloadN X at_512 (pc' := 513) rfl rfl ?_
                  refine g_bipush X at_513 (pc' := 515) rfl (v := (30 : Int32)) rfl ?_
                  refine g_lushr X at_515 (pc' := 516) rfl ?_
                  refine g_callS X (y := (⟨"com/example/measured_term/measuredterm/http/RequestHeadEndPinLaw", "any", "(J)B"⟩ : MethodName)) [(.long ((edges.toUInt64 >>> ((30 : Int32) &&& 0x3f).toInt64.toUInt64).toInt64))] (hw _ m1) (hw _ m2) (hw _ m3) (hw _ m4) (hw _ m3) (rm1 l Z a0 hw ((edges.toUInt64 >>> ((30 : Int32) &&& 0x3f).toInt64.toUInt64).toInt64) h n0 X.old) (by decide) (by decide) (by decide) (by decide) (by decide) rfl pd_0 rfl (rest := [(.int (Int32.ofNat q)), (.ref b1)]) rfl (W := 2) rfl at_516 (pc' := 519) rfl ?_
                  rintro _ T8 _ _ Y8 ⟨z8, rfl, rfl, rfl⟩
                  have X8 := Y8 X.old (Fr.nil _)
                  show Go p e below _ (State.setTop _ (mkF m 519 #[.val (.long edges), .second, .val (.long lines), .second, .val (.int shape), .val (.int seed), .val (.ref b1), .val (.int (Int32.ofNat o)), .val (.int em), .val (.int rl), .val (.int x10), .val (.int x11), .val (.int hdl), .val (.int x13), .val (.int x14), .val (.int x15), .val (.int x16), .val (.int x17), .val (.int (Int32.ofNat q)), .val (.int c0), .val (.int c1), .val (.int c2), .val (.int (Int32.ofNat q)), s23, .unset, .unset] [(.int z8), (.int (Int32.ofNat q)), (.ref b1)]))
                  refine g_bastore X8 (i := q) A (own_small (by omega)) (by rw [own_len]; omega) l1 at_519 (pc' := 520) rfl (fun T9 h9 X9 W9 A9 => ?_)
                  rw [own_lset] at A9
                  refine g_aload X9 at_520 (pc' := 522) rfl rfl rfl ?_
                  refine g_iload X9 at_522 (pc' := 524) rfl rfl ?_
                  refine g_iconst X9 at_524 (pc' := 525) rfl (v := (1 : Int32)) rfl ?_
                  refine g_iadd X9 at_525 (pc' := 526) rfl ?_
                  refine g_lloadN X9 at_526 (pc' := 527) rfl rfl ?_
                  refine g_bipush X9 at_527 (pc' := 529) rfl (v := (40 : Int32)) rfl ?_
                  refine g_lushr X9 at_529 (pc' := 530) rfl ?_
                  refine g_callS X9 (y := (⟨"com/example/measured_term/measuredterm/http/RequestHeadEndPinLaw", "any", "(J)B"⟩ : MethodName)) [(.long ((edges.toUInt64 >>> ((40 : Int32) &&& 0x3f).toInt64.toUInt64).toInt64))] (hw _ m1) (hw _ m2) (hw _ m3) (hw _ m4) (hw _ m3) (rm1 l Z a0 hw ((edges.toUInt64 >>> ((40 : Int32) &&& 0x3f).toInt64.toUInt64).toInt64) h9 n0 X9.old) (by decide) (by decide) (by decide) (by decide) (by decide) rfl pd_0 rfl (rest := [(.int ((Int32.ofNat q) + (1 : Int32))), (.ref b1)]) rfl (W := 2) rfl at_530 (pc' := 533) rfl ?_
                  rintro _ T10 _ _ Y10 ⟨z10, rfl, rfl, rfl⟩
                  have X10 := Y10 X9.old (Fr.nil _)
                  show Go p e below _ (State.setTop _ (mkF m 533 #[.val (.long edges), .second, .val (.long lines), .second, .val (.int shape), .val (.int seed), .val (.ref b1), .val (.int (Int32.ofNat o)), .val (.int em), .val (.int rl), .val (.int x10), .val (.int x11), .val (.int hdl), .val (.int x13), .val (.int x14), .val (.int x15), .val (.int x16), .val (.int x17), .val (.int (Int32.ofNat q)), .val (.int c0), .val (.int c1), .val (.int c2), .val (.int (Int32.ofNat q)), s23, .unset, .unset] [(.int z10), (.int ((Int32.ofNat q) + (1 : Int32))), (.ref b1)]))
                  refine g_bastore X10 (i := (q + 1)) A9 (by rw [own_succ]; exact own_small (by omega)) (by rw [own_len]; omega) l1 at_533 (pc' := 534) rfl (fun T11 h11 X11 W11 A11 => ?_)
                  rw [own_lset] at A11
                  refine g_iload X11 at_534 (pc' := 536) rfl rfl ?_
                  refine g_bipush X11 at_536 (pc' := 538) rfl (v := (31 : Int32)) rfl ?_
                  refine g_iand X11 at_538 (pc' := 539) rfl ?_
                  refine g_bipush X11 at_539 (pc' := 541) rfl (v := (29 : Int32)) rfl ?_
                  refine g_iload X11 at_541 (pc' := 543) rfl rfl ?_
                  refine g_isub X11 at_543 (pc' := 544) rfl ?_
                  refine g_irem X11 at_544 (pc' := 545) rfl (own_nz ho) ?_
                  obtain ⟨n, hon, hne⟩ := own_rem seed ho
                  rw [hne]
                  refine g_istore X11 at_545 (pc' := 547) rfl (L' := #[.val (.long edges), .second, .val (.long lines), .second, .val (.int shape), .val (.int seed), .val (.ref b1), .val (.int (Int32.ofNat o)), .val (.int em), .val (.int rl), .val (.int x10), .val (.int x11), .val (.int hdl), .val (.int x13), .val (.int x14), .val (.int x15), .val (.int x16), .val (.int x17), .val (.int (Int32.ofNat q)), .val (.int c0), .val (.int c1), .val (.int c2), .val (.int (Int32.ofNat q)), .val (.int (Int32.ofNat n)), .unset, .unset]) (XS.store1 rfl h23 rfl) ?_
                  refine g_aload X11 at_547 (pc' := 549) rfl rfl rfl ?_
                  refine g_iload X11 at_549 (pc' := 551) rfl rfl ?_
                  refine g_iload X11 at_551 (pc' := 553) rfl rfl ?_
                  refine g_callS X11 (y := (⟨"com/example/measured_term/measuredterm/http/RequestHead", "end", "([BII)I"⟩ : MethodName)) [(.ref b1), (.int (Int32.ofNat o)), (.int (Int32.ofNat n))] (hw _ m9) (hw _ m10) (hw _ m11) (hw _ m12) (hw _ m11) (rm3 l Z a0 hw b1 o n h11 n0 X11.old (own_set (own_set f q (nar .byte z8)) (q + 1) (nar .byte z10)) A11 hon) (by decide) (by decide) (by decide) (by decide) (by decide) rfl pd_1 rfl (rest := []) rfl (W := 0) rfl at_553 (pc' := 556) rfl ?_
                  rintro _ T12 _ _ Y12 ⟨rfl, rfl, rfl⟩
                  have X12 := Y12 X11.old (Fr.nil _)
                  have hfin : (own_scan (own_set (own_set f q (nar .byte z8)) (q + 1) (nar .byte z10)) o n).2.2 = if q ≤ o + n then some q else none := own_final hoq hr1 hr2 (fun j hj => by rw [own_set_ne _ _ (by omega), own_set_ne _ _ (by omega)])
                  show Go p e below _ (State.setTop _ (mkF m 556 #[.val (.long edges), .second, .val (.long lines), .second, .val (.int shape), .val (.int seed), .val (.ref b1), .val (.int (Int32.ofNat o)), .val (.int em), .val (.int rl), .val (.int x10), .val (.int x11), .val (.int hdl), .val (.int x13), .val (.int x14), .val (.int x15), .val (.int x16), .val (.int x17), .val (.int (Int32.ofNat q)), .val (.int c0), .val (.int c1), .val (.int c2), .val (.int (Int32.ofNat q)), .val (.int (Int32.ofNat n)), .unset, .unset] [(.int (own_res (own_scan (own_set (own_set f q (nar .byte z8)) (q + 1) (nar .byte z10)) o n).2.2))]))
                  refine g_istore X12 at_556 (pc' := 558) rfl (L' := #[.val (.long edges), .second, .val (.long lines), .second, .val (.int shape), .val (.int seed), .val (.ref b1), .val (.int (Int32.ofNat o)), .val (.int em), .val (.int rl), .val (.int x10), .val (.int x11), .val (.int hdl), .val (.int x13), .val (.int x14), .val (.int x15), .val (.int x16), .val (.int x17), .val (.int (Int32.ofNat q)), .val (.int c0), .val (.int c1), .val (.int c2), .val (.int (Int32.ofNat q)), .val (.int (Int32.ofNat n)), .val (.int (own_res (own_scan (own_set (own_set f q (nar .byte z8)) (q + 1) (nar .byte z10)) o n).2.2)), .unset]) rfl ?_
                  refine g_iload X12 at_558 (pc' := 560) rfl rfl ?_
                  refine g_iload X12 at_560 (pc' := 562) rfl rfl ?_
                  refine g_iadd X12 at_562 (pc' := 563) rfl ?_
                  refine g_iload X12 at_563 (pc' := 565) rfl rfl ?_
                  refine g_icmp_lt X12 at_565 (pt := 573) (by decide) (pc' := 568) rfl (fun hc565 => ?_) (fun hc565 => ?_)
                  · refine g_iconst X12 at_573 (pc' := 574) rfl (v := (-1 : Int32)) rfl ?_
                    refine g_istore X12 at_574 (pc' := 576) rfl (L' := #[.val (.long edges), .second, .val (.long lines), .second, .val (.int shape), .val (.int seed), .val (.ref b1), .val (.int (Int32.ofNat o)), .val (.int em), .val (.int rl), .val (.int x10), .val (.int x11), .val (.int hdl), .val (.int x13), .val (.int x14), .val (.int x15), .val (.int x16), .val (.int x17), .val (.int (Int32.ofNat q)), .val (.int c0), .val (.int c1), .val (.int c2), .val (.int (Int32.ofNat q)), .val (.int (Int32.ofNat n)), .val (.int (own_res (own_scan (own_set (own_set f q (nar .byte z8)) (q + 1) (nar .byte z10)) o n).2.2)), .val (.int (-1 : Int32))]) rfl ?_
                    refine g_iload X12 at_576 (pc' := 578) rfl rfl ?_
                    refine g_iload X12 at_578 (pc' := 580) rfl rfl ?_
                    refine g_icmp_ne_f X12 at_580 (pc' := 583) rfl (by rw [hfin, if_neg (by rw [own_addN, own_ltN (by omega) (by omega)] at hc565; omega)]; rfl) ?_
                    refine g_iconst X12 at_583 (pc' := 584) rfl (v := (1 : Int32)) rfl ?_
                    refine g_goto X12 at_584 (pt := 588) (by decide) ?_
                    exact g_retN X12 (Or.inl rfl) rfl at_588 (by decide) (by decide) ⟨rfl, X12.fr⟩
                  · refine g_iload X12 at_568 (pc' := 570) rfl rfl ?_
                    refine g_goto X12 at_570 (pt := 574) (by decide) ?_
                    refine g_istore X12 at_574 (pc' := 576) rfl (L' := #[.val (.long edges), .second, .val (.long lines), .second, .val (.int shape), .val (.int seed), .val (.ref b1), .val (.int (Int32.ofNat o)), .val (.int em), .val (.int rl), .val (.int x10), .val (.int x11), .val (.int hdl), .val (.int x13), .val (.int x14), .val (.int x15), .val (.int x16), .val (.int x17), .val (.int (Int32.ofNat q)), .val (.int c0), .val (.int c1), .val (.int c2), .val (.int (Int32.ofNat q)), .val (.int (Int32.ofNat n)), .val (.int (own_res (own_scan (own_set (own_set f q (nar .byte z8)) (q + 1) (nar .byte z10)) o n).2.2)), .val (.int (Int32.ofNat q))]) rfl ?_
                    refine g_iload X12 at_576 (pc' := 578) rfl rfl ?_
                    refine g_iload X12 at_578 (pc' := 580) rfl rfl ?_
                    refine g_icmp_ne_f X12 at_580 (pc' := 583) rfl (by rw [hfin, if_pos (by rw [own_addN, own_ltN (by omega) (by omega)] at hc565; omega)]; rfl) ?_
                    refine g_iconst X12 at_583 (pc' := 584) rfl (v := (1 : Int32)) rfl ?_
                    refine g_goto X12 at_584 (pt := 588) (by decide) ?_
                    exact g_retN X12 (Or.inl rfl) rfl at_588 (by decide) (by decide) ⟨rfl, X12.fr⟩
                have J479 : ∀ (T : State) (locs : List Loc) (h : Heap) (f : Nat → Int32) (q : Nat) (c0 c1 c2 : Int32) (s22 s23 : Slot), St Z n0 p l e room_1 s m #[(.long edges), (.long lines), (.int shape), (.int seed)] below meth c x.cls x.name code maxLocals ret T locs 1 28 h → Arx Z h b1 .byte (own_list f) → (s22 = .unset ∨ ∃ w : Value, s22 = .val w ∧ w.category = 1) → (s23 = .unset ∨ ∃ w : Value, s23 = .val w ∧ w.category = 1) → Ph f o q true → q ≤ o + 15 → Go p e below (Kq s 16 128 (fun v h L => v = some (.int 1) ∧ Fr n0 L)) (T.setTop (mkF m 479 #[.val (.long edges), .second, .val (.long lines), .second, .val (.int shape), .val (.int seed), .val (.ref b1), .val (.int (Int32.ofNat o)), .val (.int em), .val (.int rl), .val (.int x10), .val (.int x11), .val (.int hdl), .val (.int x13), .val (.int x14), .val (.int x15), .val (.int x16), .val (.int x17), .val (.int (Int32.ofNat q)), .val (.int c0), .val (.int c1), .val (.int c2), s22, s23, .unset, .unset] [])) := by
                  intro T locs h f q c0 c1 c2 s22 s23 X A h22 h23 hp hq
                  refine g_iload X at_479 (pc' := 481) rfl rfl ?_
                  refine g_if_eq X at_481 (pt := 494) (by decide) (pc' := 484) rfl (fun hc481 => ?_) (fun hc481 => ?_)
                  · refine g_aload X at_494 (pc' := 496) rfl rfl rfl ?_
                    refine g_iload X at_496 (pc' := 498) rfl rfl ?_
                    refine g_bipush X at_498 (pc' := 500) rfl (v := (10 : Int32)) rfl ?_
                    refine g_bastore X (i := q) A (own_small (by omega)) (by rw [own_len]; omega) l1 at_500 (pc' := 501) rfl (fun T13 h13 X13 W13 A13 => ?_)
                    rw [own_lset] at A13
                    refine g_iinc X13 at_501 (pc' := 504) rfl rfl (L' := #[.val (.long edges), .second, .val (.long lines), .second, .val (.int shape), .val (.int seed), .val (.ref b1), .val (.int (Int32.ofNat o)), .val (.int em), .val (.int rl), .val (.int x10), .val (.int x11), .val (.int hdl), .val (.int x13), .val (.int x14), .val (.int x15), .val (.int x16), .val (.int x17), .val (.int ((Int32.ofNat q) + (1 : Int32))), .val (.int c0), .val (.int c1), .val (.int c2), s22, s23, .unset, .unset]) rfl ?_
                    rw [own_succ]
                    have hph := hp.1
                    exact J504 _ _ _ _ ((q + 1)) _ _ _ _ _ X13 A13 h22 h23 (by omega) (by omega) (own_endB hp).1 (own_endB hp).2
                  · refine g_aload X at_484 (pc' := 486) rfl rfl rfl ?_
                    refine g_iload X at_486 (pc' := 488) rfl rfl ?_
                    refine g_bipush X at_488 (pc' := 490) rfl (v := (13 : Int32)) rfl ?_
                    refine g_bastore X (i := q) A (own_small (by omega)) (by rw [own_len]; omega) l1 at_490 (pc' := 491) rfl (fun T14 h14 X14 W14 A14 => ?_)
                    rw [own_lset] at A14
                    refine g_iinc X14 at_491 (pc' := 494) rfl rfl (L' := #[.val (.long edges), .second, .val (.long lines), .second, .val (.int shape), .val (.int seed), .val (.ref b1), .val (.int (Int32.ofNat o)), .val (.int em), .val (.int rl), .val (.int x10), .val (.int x11), .val (.int hdl), .val (.int x13), .val (.int x14), .val (.int x15), .val (.int x16), .val (.int x17), .val (.int ((Int32.ofNat q) + (1 : Int32))), .val (.int c0), .val (.int c1), .val (.int c2), s22, s23, .unset, .unset]) rfl ?_
                    rw [own_succ]
                    refine g_aload X14 at_494 (pc' := 496) rfl rfl rfl ?_
                    refine g_iload X14 at_496 (pc' := 498) rfl rfl ?_
                    refine g_bipush X14 at_498 (pc' := 500) rfl (v := (10 : Int32)) rfl ?_
                    refine g_bastore X14 (i := (q + 1)) A14 (own_small (by omega)) (by rw [own_len]; omega) l1 at_500 (pc' := 501) rfl (fun T15 h15 X15 W15 A15 => ?_)
                    rw [own_lset] at A15
                    refine g_iinc X15 at_501 (pc' := 504) rfl rfl (L' := #[.val (.long edges), .second, .val (.long lines), .second, .val (.int shape), .val (.int seed), .val (.ref b1), .val (.int (Int32.ofNat o)), .val (.int em), .val (.int rl), .val (.int x10), .val (.int x11), .val (.int hdl), .val (.int x13), .val (.int x14), .val (.int x15), .val (.int x16), .val (.int x17), .val (.int ((Int32.ofNat (q + 1)) + (1 : Int32))), .val (.int c0), .val (.int c1), .val (.int c2), s22, s23, .unset, .unset]) rfl ?_
                    rw [own_succ]
                    have hph := hp.1
                    exact J504 _ _ _ _ (((q + 1) + 1)) _ _ _ _ _ X15 A15 h22 h23 (by omega) (by omega) (own_endA hp).1 (own_endA hp).2
                have J392 : ∀ (T : State) (locs : List Loc) (h : Heap) (f : Nat → Int32) (q : Nat) (c0 c1 c2 : Int32), St Z n0 p l e room_1 s m #[(.long edges), (.long lines), (.int shape), (.int seed)] below meth c x.cls x.name code maxLocals ret T locs 1 28 h → Arx Z h b1 .byte (own_list f) → Ph f o q true → q ≤ o + 11 → Go p e below (Kq s 16 128 (fun v h L => v = some (.int 1) ∧ Fr n0 L)) (T.setTop (mkF m 392 #[.val (.long edges), .second, .val (.long lines), .second, .val (.int shape), .val (.int seed), .val (.ref b1), .val (.int (Int32.ofNat o)), .val (.int em), .val (.int rl), .val (.int x10), .val (.int x11), .val (.int hdl), .val (.int x13), .val (.int x14), .val (.int x15), .val (.int x16), .val (.int x17), .val (.int (Int32.ofNat q)), .val (.int c0), .val (.int c1), .val (.int c2), .unset, .unset, .unset, .unset] [])) := by
                  intro T locs h f q c0 c1 c2 X A hp hq
                  refine g_iload X at_392 (pc' := 394) rfl rfl ?_
                  refine g_if_eq X at_394 (pt := 479) (by decide) (pc' := 397) rfl (fun hc394 => ?_) (fun hc394 => ?_)
                  · exact J479 _ _ _ _ q _ _ _ _ _ X A (Or.inl rfl) (Or.inl rfl) hp (by omega)
                  · refine g_lloadN X at_397 (pc' := 398) rfl rfl ?_
                    refine g_bipush X at_398 (pc' := 400) rfl (v := (30 : Int32)) rfl ?_
                    refine g_lushr X at_400 (pc' := 401) rfl ?_
                    refine g_callS X (y := (⟨"com/example/measured_term/measuredterm/http/RequestHeadEndPinLaw", "notLf", "(J)B"⟩ : MethodName)) [(.long ((lines.toUInt64 >>> ((30 : Int32) &&& 0x3f).toInt64.toUInt64).toInt64))] (hw _ m6) (hw _ m7) (hw _ m3) (hw _ m8) (hw _ m3) (rm2 l Z a0 hw ((lines.toUInt64 >>> ((30 : Int32) &&& 0x3f).toInt64.toUInt64).toInt64) h n0 X.old) (by decide) (by decide) (by decide) (by decide) (by decide) rfl pd_0 rfl (rest := []) rfl (W := 0) rfl at_401 (pc' := 404) rfl ?_
                    rintro _ T16 _ _ Y16 ⟨z16, rfl, q16, t16, rfl, rfl⟩
                    have X16 := Y16 X.old (Fr.nil _)
                    have n_h0 := q16; have t_h0 := t16
                    show Go p e below _ (State.setTop _ (mkF m 404 #[.val (.long edges), .second, .val (.long lines), .second, .val (.int shape), .val (.int seed), .val (.ref b1), .val (.int (Int32.ofNat o)), .val (.int em), .val (.int rl), .val (.int x10), .val (.int x11), .val (.int hdl), .val (.int x13), .val (.int x14), .val (.int x15), .val (.int x16), .val (.int x17), .val (.int (Int32.ofNat q)), .val (.int c0), .val (.int c1), .val (.int c2), .unset, .unset, .unset, .unset] [(.int z16)]))
                    refine g_istore X16 at_404 (pc' := 406) rfl (L' := #[.val (.long edges), .second, .val (.long lines), .second, .val (.int shape), .val (.int seed), .val (.ref b1), .val (.int (Int32.ofNat o)), .val (.int em), .val (.int rl), .val (.int x10), .val (.int x11), .val (.int hdl), .val (.int x13), .val (.int x14), .val (.int x15), .val (.int x16), .val (.int x17), .val (.int (Int32.ofNat q)), .val (.int c0), .val (.int c1), .val (.int c2), .val (.int z16), .unset, .unset, .unset]) rfl ?_
                    refine g_lloadN X16 at_406 (pc' := 407) rfl rfl ?_
                    refine g_bipush X16 at_407 (pc' := 409) rfl (v := (40 : Int32)) rfl ?_
                    refine g_lushr X16 at_409 (pc' := 410) rfl ?_
                    refine g_callS X16 (y := (⟨"com/example/measured_term/measuredterm/http/RequestHeadEndPinLaw", "notLf", "(J)B"⟩ : MethodName)) [(.long ((lines.toUInt64 >>> ((40 : Int32) &&& 0x3f).toInt64.toUInt64).toInt64))] (hw _ m6) (hw _ m7) (hw _ m3) (hw _ m8) (hw _ m3) (rm2 l Z a0 hw ((lines.toUInt64 >>> ((40 : Int32) &&& 0x3f).toInt64.toUInt64).toInt64) h n0 X16.old) (by decide) (by decide) (by decide) (by decide) (by decide) rfl pd_0 rfl (rest := []) rfl (W := 0) rfl at_410 (pc' := 413) rfl ?_
                    rintro _ T17 _ _ Y17 ⟨z17, rfl, q17, t17, rfl, rfl⟩
                    have X17 := Y17 X16.old (Fr.nil _)
                    have n_h1 := q17; have t_h1 := t17
                    show Go p e below _ (State.setTop _ (mkF m 413 #[.val (.long edges), .second, .val (.long lines), .second, .val (.int shape), .val (.int seed), .val (.ref b1), .val (.int (Int32.ofNat o)), .val (.int em), .val (.int rl), .val (.int x10), .val (.int x11), .val (.int hdl), .val (.int x13), .val (.int x14), .val (.int x15), .val (.int x16), .val (.int x17), .val (.int (Int32.ofNat q)), .val (.int c0), .val (.int c1), .val (.int c2), .val (.int z16), .unset, .unset, .unset] [(.int z17)]))
                    refine g_istore X17 at_413 (pc' := 415) rfl (L' := #[.val (.long edges), .second, .val (.long lines), .second, .val (.int shape), .val (.int seed), .val (.ref b1), .val (.int (Int32.ofNat o)), .val (.int em), .val (.int rl), .val (.int x10), .val (.int x11), .val (.int hdl), .val (.int x13), .val (.int x14), .val (.int x15), .val (.int x16), .val (.int x17), .val (.int (Int32.ofNat q)), .val (.int c0), .val (.int c1), .val (.int c2), .val (.int z16), .val (.int z17), .unset, .unset]) rfl ?_
                    refine g_aload X17 at_415 (pc' := 417) rfl rfl rfl ?_
                    refine g_iload X17 at_417 (pc' := 419) rfl rfl ?_
                    refine g_iload X17 at_419 (pc' := 421) rfl rfl ?_
                    refine g_bastore X17 (i := q) A (own_small (by omega)) (by rw [own_len]; omega) l1 at_421 (pc' := 422) rfl (fun T18 h18 X18 W18 A18 => ?_)
                    rw [own_lset] at A18
                    rw [n_h0] at A18
                    refine g_iinc X18 at_422 (pc' := 425) rfl rfl (L' := #[.val (.long edges), .second, .val (.long lines), .second, .val (.int shape), .val (.int seed), .val (.ref b1), .val (.int (Int32.ofNat o)), .val (.int em), .val (.int rl), .val (.int x10), .val (.int x11), .val (.int hdl), .val (.int x13), .val (.int x14), .val (.int x15), .val (.int x16), .val (.int x17), .val (.int ((Int32.ofNat q) + (1 : Int32))), .val (.int c0), .val (.int c1), .val (.int c2), .val (.int z16), .val (.int z17), .unset, .unset]) rfl ?_
                    rw [own_succ]
                    have J469 : ∀ (T' : State) (locs' : List Loc) (h' : Heap) (f2 : Nat → Int32) (r : Nat), St Z n0 p l e room_1 s m #[(.long edges), (.long lines), (.int shape), (.int seed)] below meth c x.cls x.name code maxLocals ret T' locs' 1 28 h' → Arx Z h' b1 .byte (own_list f2) → Ln f2 o q r true → (q + 2 ≤ r ∨ f2 q ≠ 13) → r ≤ q + 3 → Go p e below (Kq s 16 128 (fun v h L => v = some (.int 1) ∧ Fr n0 L)) (T'.setTop (mkF m 469 #[.val (.long edges), .second, .val (.long lines), .second, .val (.int shape), .val (.int seed), .val (.ref b1), .val (.int (Int32.ofNat o)), .val (.int em), .val (.int rl), .val (.int x10), .val (.int x11), .val (.int hdl), .val (.int x13), .val (.int x14), .val (.int x15), .val (.int x16), .val (.int x17), .val (.int (Int32.ofNat r)), .val (.int c0), .val (.int c1), .val (.int c2), .val (.int z16), .val (.int z17), .unset, .unset] [])) := by
                      intro T' locs' h' f2 r X' A' hl hd hb
                      have hl1 := hl.2.1
                      refine g_aload X' at_469 (pc' := 471) rfl rfl rfl ?_
                      refine g_iload X' at_471 (pc' := 473) rfl rfl ?_
                      refine g_bipush X' at_473 (pc' := 475) rfl (v := (10 : Int32)) rfl ?_
                      refine g_bastore X' (i := r) A' (own_small (by omega)) (by rw [own_len]; omega) l1 at_475 (pc' := 476) rfl (fun T19 h19 X19 W19 A19 => ?_)
                      rw [own_lset] at A19
                      refine g_iinc X19 at_476 (pc' := 479) rfl rfl (L' := #[.val (.long edges), .second, .val (.long lines), .second, .val (.int shape), .val (.int seed), .val (.ref b1), .val (.int (Int32.ofNat o)), .val (.int em), .val (.int rl), .val (.int x10), .val (.int x11), .val (.int hdl), .val (.int x13), .val (.int x14), .val (.int x15), .val (.int x16), .val (.int x17), .val (.int ((Int32.ofNat r) + (1 : Int32))), .val (.int c0), .val (.int c1), .val (.int c2), .val (.int z16), .val (.int z17), .unset, .unset]) rfl ?_
                      rw [own_succ]
                      exact J479 _ _ _ _ ((r + 1)) _ _ _ _ _ X19 A19 (Or.inr ⟨_, rfl, rfl⟩) (Or.inr ⟨_, rfl, rfl⟩) (hl.done hd) (by omega)
                    have J441 : ∀ (T' : State) (locs' : List Loc) (h' : Heap) (f2 : Nat → Int32) (r : Nat), St Z n0 p l e room_1 s m #[(.long edges), (.long lines), (.int shape), (.int seed)] below meth c x.cls x.name code maxLocals ret T' locs' 1 28 h' → Arx Z h' b1 .byte (own_list f2) → Ln f2 o q r true → ((r = q + 1 ∧ f2 q = z16 ∧ hdl = 1) ∨ q + 2 ≤ r) → r ≤ q + 2 → Go p e below (Kq s 16 128 (fun v h L => v = some (.int 1) ∧ Fr n0 L)) (T'.setTop (mkF m 441 #[.val (.long edges), .second, .val (.long lines), .second, .val (.int shape), .val (.int seed), .val (.ref b1), .val (.int (Int32.ofNat o)), .val (.int em), .val (.int rl), .val (.int x10), .val (.int x11), .val (.int hdl), .val (.int x13), .val (.int x14), .val (.int x15), .val (.int x16), .val (.int x17), .val (.int (Int32.ofNat r)), .val (.int c0), .val (.int c1), .val (.int c2), .val (.int z16), .val (.int z17), .unset, .unset] [])) := by
                      intro T' locs' h' f2 r X' A' hl hd_ hb
                      have hl1 := hl.2.1
                      refine g_iload X' at_441 (pc' := 443) rfl rfl ?_
                      refine g_if_ne X' at_443 (pt := 459) (by decide) (pc' := 446) rfl (fun hc443 => ?_) (fun hc443 => ?_)
                      · refine g_aload X' at_459 (pc' := 461) rfl rfl rfl ?_
                        refine g_iload X' at_461 (pc' := 463) rfl rfl ?_
                        refine g_bipush X' at_463 (pc' := 465) rfl (v := (13 : Int32)) rfl ?_
                        refine g_bastore X' (i := r) A' (own_small (by omega)) (by rw [own_len]; omega) l1 at_465 (pc' := 466) rfl (fun T20 h20 X20 W20 A20 => ?_)
                        rw [own_lset] at A20
                        refine g_iinc X20 at_466 (pc' := 469) rfl rfl (L' := #[.val (.long edges), .second, .val (.long lines), .second, .val (.int shape), .val (.int seed), .val (.ref b1), .val (.int (Int32.ofNat o)), .val (.int em), .val (.int rl), .val (.int x10), .val (.int x11), .val (.int hdl), .val (.int x13), .val (.int x14), .val (.int x15), .val (.int x16), .val (.int x17), .val (.int ((Int32.ofNat r) + (1 : Int32))), .val (.int c0), .val (.int c1), .val (.int c2), .val (.int z16), .val (.int z17), .unset, .unset]) rfl ?_
                        rw [own_succ]
                        exact J469 _ _ _ _ ((r + 1)) X20 A20 (hl.more (by decide)) (Or.inl (by omega)) (by omega)
                      · refine g_iload X' at_446 (pc' := 448) rfl rfl ?_
                        refine g_iconst X' at_448 (pc' := 449) rfl (v := (1 : Int32)) rfl ?_
                        refine g_icmp_ne X' at_449 (pt := 469) (by decide) (pc' := 452) rfl (fun hc449 => ?_) (fun hc449 => ?_)
                        · exact J469 _ _ _ _ r X' A' hl (hd_.elim (fun z => absurd z.2.2 hc449) Or.inl) (by omega)
                        · refine g_iload X' at_452 (pc' := 454) rfl rfl ?_
                          refine g_bipush X' at_454 (pc' := 456) rfl (v := (13 : Int32)) rfl ?_
                          refine g_icmp_ne X' at_456 (pt := 469) (by decide) (pc' := 459) rfl (fun hc456 => ?_) (fun hc456 => ?_)
                          · exact J469 _ _ _ _ r X' A' hl (hd_.elim (fun z => Or.inr (by rw [z.2.1]; exact hc456)) Or.inl) (by omega)
                          · refine g_aload X' at_459 (pc' := 461) rfl rfl rfl ?_
                            refine g_iload X' at_461 (pc' := 463) rfl rfl ?_
                            refine g_bipush X' at_463 (pc' := 465) rfl (v := (13 : Int32)) rfl ?_
                            refine g_bastore X' (i := r) A' (own_small (by omega)) (by rw [own_len]; omega) l1 at_465 (pc' := 466) rfl (fun T21 h21 X21 W21 A21 => ?_)
                            rw [own_lset] at A21
                            refine g_iinc X21 at_466 (pc' := 469) rfl rfl (L' := #[.val (.long edges), .second, .val (.long lines), .second, .val (.int shape), .val (.int seed), .val (.ref b1), .val (.int (Int32.ofNat o)), .val (.int em), .val (.int rl), .val (.int x10), .val (.int x11), .val (.int hdl), .val (.int x13), .val (.int x14), .val (.int x15), .val (.int x16), .val (.int x17), .val (.int ((Int32.ofNat r) + (1 : Int32))), .val (.int c0), .val (.int c1), .val (.int c2), .val (.int z16), .val (.int z17), .unset, .unset]) rfl ?_
                            rw [own_succ]
                            exact J469 _ _ _ _ ((r + 1)) X21 A21 (hl.more (by decide)) (Or.inl (by omega)) (by omega)
                    refine g_iload X18 at_425 (pc' := 427) rfl rfl ?_
                    refine g_iconst X18 at_427 (pc' := 428) rfl (v := (1 : Int32)) rfl ?_
                    refine g_icmp_le X18 at_428 (pt := 441) (by decide) (pc' := 431) rfl (fun hc428 => ?_) (fun hc428 => ?_)
                    · exact J441 _ _ _ _ ((q + 1)) X18 A18 (Ln.start hp t_h0) (Or.inl ⟨rfl, own_set_at _ _ _, own_one hhdl hc428⟩) (by omega)
                    · refine g_aload X18 at_431 (pc' := 433) rfl rfl rfl ?_
                      refine g_iload X18 at_433 (pc' := 435) rfl rfl ?_
                      refine g_iload X18 at_435 (pc' := 437) rfl rfl ?_
                      refine g_bastore X18 (i := (q + 1)) A18 (own_small (by omega)) (by rw [own_len]; omega) l1 at_437 (pc' := 438) rfl (fun T22 h22 X22 W22 A22 => ?_)
                      rw [own_lset] at A22
                      rw [n_h1] at A22
                      refine g_iinc X22 at_438 (pc' := 441) rfl rfl (L' := #[.val (.long edges), .second, .val (.long lines), .second, .val (.int shape), .val (.int seed), .val (.ref b1), .val (.int (Int32.ofNat o)), .val (.int em), .val (.int rl), .val (.int x10), .val (.int x11), .val (.int hdl), .val (.int x13), .val (.int x14), .val (.int x15), .val (.int x16), .val (.int x17), .val (.int ((Int32.ofNat (q + 1)) + (1 : Int32))), .val (.int c0), .val (.int c1), .val (.int c2), .val (.int z16), .val (.int z17), .unset, .unset]) rfl ?_
                      rw [own_succ]
                      exact J441 _ _ _ _ (((q + 1) + 1)) X22 A22 ((Ln.start hp t_h0).more t_h1) (Or.inr (by omega)) (by omega)
                have J288 : ∀ (T : State) (locs : List Loc) (h : Heap) (f : Nat → Int32) (q : Nat), St Z n0 p l e room_1 s m #[(.long edges), (.long lines), (.int shape), (.int seed)] below meth c x.cls x.name code maxLocals ret T locs 1 28 h → Arx Z h b1 .byte (own_list f) → Ph f o q false → q ≤ o + 6 → Go p e below (Kq s 16 128 (fun v h L => v = some (.int 1) ∧ Fr n0 L)) (T.setTop (mkF m 288 #[.val (.long edges), .second, .val (.long lines), .second, .val (.int shape), .val (.int seed), .val (.ref b1), .val (.int (Int32.ofNat o)), .val (.int em), .val (.int rl), .val (.int x10), .val (.int x11), .val (.int hdl), .val (.int x13), .val (.int x14), .val (.int x15), .val (.int x16), .val (.int x17), .val (.int (Int32.ofNat q)), .unset, .unset, .unset, .unset, .unset, .unset, .unset] [])) := by
                  intro T locs h f q X A hp hq
                  refine g_lloadN X at_288 (pc' := 289) rfl rfl ?_
                  refine g_callS X (y := (⟨"com/example/measured_term/measuredterm/http/RequestHeadEndPinLaw", "notLf", "(J)B"⟩ : MethodName)) [(.long lines)] (hw _ m6) (hw _ m7) (hw _ m3) (hw _ m8) (hw _ m3) (rm2 l Z a0 hw lines h n0 X.old) (by decide) (by decide) (by decide) (by decide) (by decide) rfl pd_0 rfl (rest := []) rfl (W := 0) rfl at_289 (pc' := 292) rfl ?_
                  rintro _ T23 _ _ Y23 ⟨z23, rfl, q23, t23, rfl, rfl⟩
                  have X23 := Y23 X.old (Fr.nil _)
                  have n_c0 := q23; have t_c0 := t23
                  show Go p e below _ (State.setTop _ (mkF m 292 #[.val (.long edges), .second, .val (.long lines), .second, .val (.int shape), .val (.int seed), .val (.ref b1), .val (.int (Int32.ofNat o)), .val (.int em), .val (.int rl), .val (.int x10), .val (.int x11), .val (.int hdl), .val (.int x13), .val (.int x14), .val (.int x15), .val (.int x16), .val (.int x17), .val (.int (Int32.ofNat q)), .unset, .unset, .unset, .unset, .unset, .unset, .unset] [(.int z23)]))
                  refine g_istore X23 at_292 (pc' := 294) rfl (L' := #[.val (.long edges), .second, .val (.long lines), .second, .val (.int shape), .val (.int seed), .val (.ref b1), .val (.int (Int32.ofNat o)), .val (.int em), .val (.int rl), .val (.int x10), .val (.int x11), .val (.int hdl), .val (.int x13), .val (.int x14), .val (.int x15), .val (.int x16), .val (.int x17), .val (.int (Int32.ofNat q)), .val (.int z23), .unset, .unset, .unset, .unset, .unset, .unset]) rfl ?_
                  refine g_lloadN X23 at_294 (pc' := 295) rfl rfl ?_
                  refine g_bipush X23 at_295 (pc' := 297) rfl (v := (10 : Int32)) rfl ?_
                  refine g_lushr X23 at_297 (pc' := 298) rfl ?_
                  refine g_callS X23 (y := (⟨"com/example/measured_term/measuredterm/http/RequestHeadEndPinLaw", "notLf", "(J)B"⟩ : MethodName)) [(.long ((lines.toUInt64 >>> ((10 : Int32) &&& 0x3f).toInt64.toUInt64).toInt64))] (hw _ m6) (hw _ m7) (hw _ m3) (hw _ m8) (hw _ m3) (rm2 l Z a0 hw ((lines.toUInt64 >>> ((10 : Int32) &&& 0x3f).toInt64.toUInt64).toInt64) h n0 X23.old) (by decide) (by decide) (by decide) (by decide) (by decide) rfl pd_0 rfl (rest := []) rfl (W := 0) rfl at_298 (pc' := 301) rfl ?_
                  rintro _ T24 _ _ Y24 ⟨z24, rfl, q24, t24, rfl, rfl⟩
                  have X24 := Y24 X23.old (Fr.nil _)
                  have n_c1 := q24; have t_c1 := t24
                  show Go p e below _ (State.setTop _ (mkF m 301 #[.val (.long edges), .second, .val (.long lines), .second, .val (.int shape), .val (.int seed), .val (.ref b1), .val (.int (Int32.ofNat o)), .val (.int em), .val (.int rl), .val (.int x10), .val (.int x11), .val (.int hdl), .val (.int x13), .val (.int x14), .val (.int x15), .val (.int x16), .val (.int x17), .val (.int (Int32.ofNat q)), .val (.int z23), .unset, .unset, .unset, .unset, .unset, .unset] [(.int z24)]))
                  refine g_istore X24 at_301 (pc' := 303) rfl (L' := #[.val (.long edges), .second, .val (.long lines), .second, .val (.int shape), .val (.int seed), .val (.ref b1), .val (.int (Int32.ofNat o)), .val (.int em), .val (.int rl), .val (.int x10), .val (.int x11), .val (.int hdl), .val (.int x13), .val (.int x14), .val (.int x15), .val (.int x16), .val (.int x17), .val (.int (Int32.ofNat q)), .val (.int z23), .val (.int z24), .unset, .unset, .unset, .unset, .unset]) rfl ?_
                  refine g_lloadN X24 at_303 (pc' := 304) rfl rfl ?_
                  refine g_bipush X24 at_304 (pc' := 306) rfl (v := (20 : Int32)) rfl ?_
                  refine g_lushr X24 at_306 (pc' := 307) rfl ?_
                  refine g_callS X24 (y := (⟨"com/example/measured_term/measuredterm/http/RequestHeadEndPinLaw", "notLf", "(J)B"⟩ : MethodName)) [(.long ((lines.toUInt64 >>> ((20 : Int32) &&& 0x3f).toInt64.toUInt64).toInt64))] (hw _ m6) (hw _ m7) (hw _ m3) (hw _ m8) (hw _ m3) (rm2 l Z a0 hw ((lines.toUInt64 >>> ((20 : Int32) &&& 0x3f).toInt64.toUInt64).toInt64) h n0 X24.old) (by decide) (by decide) (by decide) (by decide) (by decide) rfl pd_0 rfl (rest := []) rfl (W := 0) rfl at_307 (pc' := 310) rfl ?_
                  rintro _ T25 _ _ Y25 ⟨z25, rfl, q25, t25, rfl, rfl⟩
                  have X25 := Y25 X24.old (Fr.nil _)
                  have n_c2 := q25; have t_c2 := t25
                  show Go p e below _ (State.setTop _ (mkF m 310 #[.val (.long edges), .second, .val (.long lines), .second, .val (.int shape), .val (.int seed), .val (.ref b1), .val (.int (Int32.ofNat o)), .val (.int em), .val (.int rl), .val (.int x10), .val (.int x11), .val (.int hdl), .val (.int x13), .val (.int x14), .val (.int x15), .val (.int x16), .val (.int x17), .val (.int (Int32.ofNat q)), .val (.int z23), .val (.int z24), .unset, .unset, .unset, .unset, .unset] [(.int z25)]))
                  refine g_istore X25 at_310 (pc' := 312) rfl (L' := #[.val (.long edges), .second, .val (.long lines), .second, .val (.int shape), .val (.int seed), .val (.ref b1), .val (.int (Int32.ofNat o)), .val (.int em), .val (.int rl), .val (.int x10), .val (.int x11), .val (.int hdl), .val (.int x13), .val (.int x14), .val (.int x15), .val (.int x16), .val (.int x17), .val (.int (Int32.ofNat q)), .val (.int z23), .val (.int z24), .val (.int z25), .unset, .unset, .unset, .unset]) rfl ?_
                  refine g_aload X25 at_312 (pc' := 314) rfl rfl rfl ?_
                  refine g_iload X25 at_314 (pc' := 316) rfl rfl ?_
                  refine g_iload X25 at_316 (pc' := 318) rfl rfl ?_
                  refine g_bastore X25 (i := q) A (own_small (by omega)) (by rw [own_len]; omega) l1 at_318 (pc' := 319) rfl (fun T26 h26 X26 W26 A26 => ?_)
                  rw [own_lset] at A26
                  rw [n_c0] at A26
                  refine g_iinc X26 at_319 (pc' := 322) rfl rfl (L' := #[.val (.long edges), .second, .val (.long lines), .second, .val (.int shape), .val (.int seed), .val (.ref b1), .val (.int (Int32.ofNat o)), .val (.int em), .val (.int rl), .val (.int x10), .val (.int x11), .val (.int hdl), .val (.int x13), .val (.int x14), .val (.int x15), .val (.int x16), .val (.int x17), .val (.int ((Int32.ofNat q) + (1 : Int32))), .val (.int z23), .val (.int z24), .val (.int z25), .unset, .unset, .unset, .unset]) rfl ?_
                  rw [own_succ]
                  have J382 : ∀ (T' : State) (locs' : List Loc) (h' : Heap) (f2 : Nat → Int32) (r : Nat), St Z n0 p l e room_1 s m #[(.long edges), (.long lines), (.int shape), (.int seed)] below meth c x.cls x.name code maxLocals ret T' locs' 1 28 h' → Arx Z h' b1 .byte (own_list f2) → Ln f2 o q r false → (q + 2 ≤ r ∨ f2 q ≠ 13) → r ≤ q + 4 → Go p e below (Kq s 16 128 (fun v h L => v = some (.int 1) ∧ Fr n0 L)) (T'.setTop (mkF m 382 #[.val (.long edges), .second, .val (.long lines), .second, .val (.int shape), .val (.int seed), .val (.ref b1), .val (.int (Int32.ofNat o)), .val (.int em), .val (.int rl), .val (.int x10), .val (.int x11), .val (.int hdl), .val (.int x13), .val (.int x14), .val (.int x15), .val (.int x16), .val (.int x17), .val (.int (Int32.ofNat r)), .val (.int z23), .val (.int z24), .val (.int z25), .unset, .unset, .unset, .unset] [])) := by
                    intro T' locs' h' f2 r X' A' hl hd hb
                    have hl1 := hl.2.1
                    refine g_aload X' at_382 (pc' := 384) rfl rfl rfl ?_
                    refine g_iload X' at_384 (pc' := 386) rfl rfl ?_
                    refine g_bipush X' at_386 (pc' := 388) rfl (v := (10 : Int32)) rfl ?_
                    refine g_bastore X' (i := r) A' (own_small (by omega)) (by rw [own_len]; omega) l1 at_388 (pc' := 389) rfl (fun T27 h27 X27 W27 A27 => ?_)
                    rw [own_lset] at A27
                    refine g_iinc X27 at_389 (pc' := 392) rfl rfl (L' := #[.val (.long edges), .second, .val (.long lines), .second, .val (.int shape), .val (.int seed), .val (.ref b1), .val (.int (Int32.ofNat o)), .val (.int em), .val (.int rl), .val (.int x10), .val (.int x11), .val (.int hdl), .val (.int x13), .val (.int x14), .val (.int x15), .val (.int x16), .val (.int x17), .val (.int ((Int32.ofNat r) + (1 : Int32))), .val (.int z23), .val (.int z24), .val (.int z25), .unset, .unset, .unset, .unset]) rfl ?_
                    rw [own_succ]
                    exact J392 _ _ _ _ ((r + 1)) _ _ _ X27 A27 (hl.done hd) (by omega)
                  have J354 : ∀ (T' : State) (locs' : List Loc) (h' : Heap) (f2 : Nat → Int32) (r : Nat), St Z n0 p l e room_1 s m #[(.long edges), (.long lines), (.int shape), (.int seed)] below meth c x.cls x.name code maxLocals ret T' locs' 1 28 h' → Arx Z h' b1 .byte (own_list f2) → Ln f2 o q r false → ((r = q + 1 ∧ f2 q = z23 ∧ rl = 1) ∨ q + 2 ≤ r) → r ≤ q + 3 → Go p e below (Kq s 16 128 (fun v h L => v = some (.int 1) ∧ Fr n0 L)) (T'.setTop (mkF m 354 #[.val (.long edges), .second, .val (.long lines), .second, .val (.int shape), .val (.int seed), .val (.ref b1), .val (.int (Int32.ofNat o)), .val (.int em), .val (.int rl), .val (.int x10), .val (.int x11), .val (.int hdl), .val (.int x13), .val (.int x14), .val (.int x15), .val (.int x16), .val (.int x17), .val (.int (Int32.ofNat r)), .val (.int z23), .val (.int z24), .val (.int z25), .unset, .unset, .unset, .unset] [])) := by
                    intro T' locs' h' f2 r X' A' hl hd hb
                    have hl1 := hl.2.1
                    refine g_iload X' at_354 (pc' := 356) rfl rfl ?_
                    refine g_if_ne X' at_356 (pt := 372) (by decide) (pc' := 359) rfl (fun hc356 => ?_) (fun hc356 => ?_)
                    · refine g_aload X' at_372 (pc' := 374) rfl rfl rfl ?_
                      refine g_iload X' at_374 (pc' := 376) rfl rfl ?_
                      refine g_bipush X' at_376 (pc' := 378) rfl (v := (13 : Int32)) rfl ?_
                      refine g_bastore X' (i := r) A' (own_small (by omega)) (by rw [own_len]; omega) l1 at_378 (pc' := 379) rfl (fun T28 h28 X28 W28 A28 => ?_)
                      rw [own_lset] at A28
                      refine g_iinc X28 at_379 (pc' := 382) rfl rfl (L' := #[.val (.long edges), .second, .val (.long lines), .second, .val (.int shape), .val (.int seed), .val (.ref b1), .val (.int (Int32.ofNat o)), .val (.int em), .val (.int rl), .val (.int x10), .val (.int x11), .val (.int hdl), .val (.int x13), .val (.int x14), .val (.int x15), .val (.int x16), .val (.int x17), .val (.int ((Int32.ofNat r) + (1 : Int32))), .val (.int z23), .val (.int z24), .val (.int z25), .unset, .unset, .unset, .unset]) rfl ?_
                      rw [own_succ]
                      exact J382 _ _ _ _ ((r + 1)) X28 A28 (hl.more (by decide)) (Or.inl (by omega)) (by omega)
                    · refine g_iload X' at_359 (pc' := 361) rfl rfl ?_
                      refine g_iconst X' at_361 (pc' := 362) rfl (v := (1 : Int32)) rfl ?_
                      refine g_icmp_ne X' at_362 (pt := 382) (by decide) (pc' := 365) rfl (fun hc362 => ?_) (fun hc362 => ?_)
                      · exact J382 _ _ _ _ r X' A' hl (hd.elim (fun z => absurd z.2.2 hc362) Or.inl) (by omega)
                      · refine g_iload X' at_365 (pc' := 367) rfl rfl ?_
                        refine g_bipush X' at_367 (pc' := 369) rfl (v := (13 : Int32)) rfl ?_
                        refine g_icmp_ne X' at_369 (pt := 382) (by decide) (pc' := 372) rfl (fun hc369 => ?_) (fun hc369 => ?_)
                        · exact J382 _ _ _ _ r X' A' hl (hd.elim (fun z => Or.inr (by rw [z.2.1]; exact hc369)) Or.inl) (by omega)
                        · refine g_aload X' at_372 (pc' := 374) rfl rfl rfl ?_
                          refine g_iload X' at_374 (pc' := 376) rfl rfl ?_
                          refine g_bipush X' at_376 (pc' := 378) rfl (v := (13 : Int32)) rfl ?_
                          refine g_bastore X' (i := r) A' (own_small (by omega)) (by rw [own_len]; omega) l1 at_378 (pc' := 379) rfl (fun T29 h29 X29 W29 A29 => ?_)
                          rw [own_lset] at A29
                          refine g_iinc X29 at_379 (pc' := 382) rfl rfl (L' := #[.val (.long edges), .second, .val (.long lines), .second, .val (.int shape), .val (.int seed), .val (.ref b1), .val (.int (Int32.ofNat o)), .val (.int em), .val (.int rl), .val (.int x10), .val (.int x11), .val (.int hdl), .val (.int x13), .val (.int x14), .val (.int x15), .val (.int x16), .val (.int x17), .val (.int ((Int32.ofNat r) + (1 : Int32))), .val (.int z23), .val (.int z24), .val (.int z25), .unset, .unset, .unset, .unset]) rfl ?_
                          rw [own_succ]
                          exact J382 _ _ _ _ ((r + 1)) X29 A29 (hl.more (by decide)) (Or.inl (by omega)) (by omega)
                  have J338 : ∀ (T' : State) (locs' : List Loc) (h' : Heap) (f2 : Nat → Int32) (r : Nat), St Z n0 p l e room_1 s m #[(.long edges), (.long lines), (.int shape), (.int seed)] below meth c x.cls x.name code maxLocals ret T' locs' 1 28 h' → Arx Z h' b1 .byte (own_list f2) → Ln f2 o q r false → ((r = q + 1 ∧ f2 q = z23 ∧ rl = 1) ∨ q + 2 ≤ r) → r ≤ q + 2 → Go p e below (Kq s 16 128 (fun v h L => v = some (.int 1) ∧ Fr n0 L)) (T'.setTop (mkF m 338 #[.val (.long edges), .second, .val (.long lines), .second, .val (.int shape), .val (.int seed), .val (.ref b1), .val (.int (Int32.ofNat o)), .val (.int em), .val (.int rl), .val (.int x10), .val (.int x11), .val (.int hdl), .val (.int x13), .val (.int x14), .val (.int x15), .val (.int x16), .val (.int x17), .val (.int (Int32.ofNat r)), .val (.int z23), .val (.int z24), .val (.int z25), .unset, .unset, .unset, .unset] [])) := by
                    intro T' locs' h' f2 r X' A' hl hd hb
                    have hl1 := hl.2.1
                    refine g_iload X' at_338 (pc' := 340) rfl rfl ?_
                    refine g_iconst X' at_340 (pc' := 341) rfl (v := (2 : Int32)) rfl ?_
                    refine g_icmp_le X' at_341 (pt := 354) (by decide) (pc' := 344) rfl (fun hc341 => ?_) (fun hc341 => ?_)
                    · exact J354 _ _ _ _ r X' A' hl hd (by omega)
                    · refine g_aload X' at_344 (pc' := 346) rfl rfl rfl ?_
                      refine g_iload X' at_346 (pc' := 348) rfl rfl ?_
                      refine g_iload X' at_348 (pc' := 350) rfl rfl ?_
                      refine g_bastore X' (i := r) A' (own_small (by omega)) (by rw [own_len]; omega) l1 at_350 (pc' := 351) rfl (fun T30 h30 X30 W30 A30 => ?_)
                      rw [own_lset] at A30
                      rw [n_c2] at A30
                      refine g_iinc X30 at_351 (pc' := 354) rfl rfl (L' := #[.val (.long edges), .second, .val (.long lines), .second, .val (.int shape), .val (.int seed), .val (.ref b1), .val (.int (Int32.ofNat o)), .val (.int em), .val (.int rl), .val (.int x10), .val (.int x11), .val (.int hdl), .val (.int x13), .val (.int x14), .val (.int x15), .val (.int x16), .val (.int x17), .val (.int ((Int32.ofNat r) + (1 : Int32))), .val (.int z23), .val (.int z24), .val (.int z25), .unset, .unset, .unset, .unset]) rfl ?_
                      rw [own_succ]
                      exact J354 _ _ _ _ ((r + 1)) X30 A30 (hl.more t_c2) (Or.inr (by omega)) (by omega)
                  refine g_iload X26 at_322 (pc' := 324) rfl rfl ?_
                  refine g_iconst X26 at_324 (pc' := 325) rfl (v := (1 : Int32)) rfl ?_
                  refine g_icmp_le X26 at_325 (pt := 338) (by decide) (pc' := 328) rfl (fun hc325 => ?_) (fun hc325 => ?_)
                  · exact J338 _ _ _ _ ((q + 1)) X26 A26 (Ln.start hp t_c0) (Or.inl ⟨rfl, own_set_at _ _ _, own_one hrl hc325⟩) (by omega)
                  · refine g_aload X26 at_328 (pc' := 330) rfl rfl rfl ?_
                    refine g_iload X26 at_330 (pc' := 332) rfl rfl ?_
                    refine g_iload X26 at_332 (pc' := 334) rfl rfl ?_
                    refine g_bastore X26 (i := (q + 1)) A26 (own_small (by omega)) (by rw [own_len]; omega) l1 at_334 (pc' := 335) rfl (fun T31 h31 X31 W31 A31 => ?_)
                    rw [own_lset] at A31
                    rw [n_c1] at A31
                    refine g_iinc X31 at_335 (pc' := 338) rfl rfl (L' := #[.val (.long edges), .second, .val (.long lines), .second, .val (.int shape), .val (.int seed), .val (.ref b1), .val (.int (Int32.ofNat o)), .val (.int em), .val (.int rl), .val (.int x10), .val (.int x11), .val (.int hdl), .val (.int x13), .val (.int x14), .val (.int x15), .val (.int x16), .val (.int x17), .val (.int ((Int32.ofNat (q + 1)) + (1 : Int32))), .val (.int z23), .val (.int z24), .val (.int z25), .unset, .unset, .unset, .unset]) rfl ?_
                    rw [own_succ]
                    exact J338 _ _ _ _ (((q + 1) + 1)) X31 A31 ((Ln.start hp t_c0).more t_c1) (Or.inr (by omega)) (by omega)
                have J257 : ∀ (T : State) (locs : List Loc) (h : Heap) (f : Nat → Int32) (q : Nat), St Z n0 p l e room_1 s m #[(.long edges), (.long lines), (.int shape), (.int seed)] below meth c x.cls x.name code maxLocals ret T locs 1 28 h → Arx Z h b1 .byte (own_list f) → Ph f o q false → q ≤ o + 4 → Go p e below (Kq s 16 128 (fun v h L => v = some (.int 1) ∧ Fr n0 L)) (T.setTop (mkF m 257 #[.val (.long edges), .second, .val (.long lines), .second, .val (.int shape), .val (.int seed), .val (.ref b1), .val (.int (Int32.ofNat o)), .val (.int em), .val (.int rl), .val (.int x10), .val (.int x11), .val (.int hdl), .val (.int x13), .val (.int x14), .val (.int x15), .val (.int x16), .val (.int x17), .val (.int (Int32.ofNat q)), .unset, .unset, .unset, .unset, .unset, .unset, .unset] [])) := by
                  intro T locs h f q X A hp hq
                  refine g_iload X at_257 (pc' := 259) rfl rfl ?_
                  refine g_iconst X at_259 (pc' := 260) rfl (v := (2 : Int32)) rfl ?_
                  refine g_icmp_le X at_260 (pt := 288) (by decide) (pc' := 263) rfl (fun hc260 => ?_) (fun hc260 => ?_)
                  · exact J288 _ _ _ _ q X A hp (by omega)
                  · refine g_iload X at_263 (pc' := 265) rfl rfl ?_
                    refine g_if_eq X at_265 (pt := 278) (by decide) (pc' := 268) rfl (fun hc265 => ?_) (fun hc265 => ?_)
                    · refine g_aload X at_278 (pc' := 280) rfl rfl rfl ?_
                      refine g_iload X at_280 (pc' := 282) rfl rfl ?_
                      refine g_bipush X at_282 (pc' := 284) rfl (v := (10 : Int32)) rfl ?_
                      refine g_bastore X (i := q) A (own_small (by omega)) (by rw [own_len]; omega) l1 at_284 (pc' := 285) rfl (fun T32 h32 X32 W32 A32 => ?_)
                      rw [own_lset] at A32
                      refine g_iinc X32 at_285 (pc' := 288) rfl rfl (L' := #[.val (.long edges), .second, .val (.long lines), .second, .val (.int shape), .val (.int seed), .val (.ref b1), .val (.int (Int32.ofNat o)), .val (.int em), .val (.int rl), .val (.int x10), .val (.int x11), .val (.int hdl), .val (.int x13), .val (.int x14), .val (.int x15), .val (.int x16), .val (.int x17), .val (.int ((Int32.ofNat q) + (1 : Int32))), .unset, .unset, .unset, .unset, .unset, .unset, .unset]) rfl ?_
                      rw [own_succ]
                      exact J288 _ _ _ _ ((q + 1)) X32 A32 (own_empB hp) (by omega)
                    · refine g_aload X at_268 (pc' := 270) rfl rfl rfl ?_
                      refine g_iload X at_270 (pc' := 272) rfl rfl ?_
                      refine g_bipush X at_272 (pc' := 274) rfl (v := (13 : Int32)) rfl ?_
                      refine g_bastore X (i := q) A (own_small (by omega)) (by rw [own_len]; omega) l1 at_274 (pc' := 275) rfl (fun T33 h33 X33 W33 A33 => ?_)
                      rw [own_lset] at A33
                      refine g_iinc X33 at_275 (pc' := 278) rfl rfl (L' := #[.val (.long edges), .second, .val (.long lines), .second, .val (.int shape), .val (.int seed), .val (.ref b1), .val (.int (Int32.ofNat o)), .val (.int em), .val (.int rl), .val (.int x10), .val (.int x11), .val (.int hdl), .val (.int x13), .val (.int x14), .val (.int x15), .val (.int x16), .val (.int x17), .val (.int ((Int32.ofNat q) + (1 : Int32))), .unset, .unset, .unset, .unset, .unset, .unset, .unset]) rfl ?_
                      rw [own_succ]
                      refine g_aload X33 at_278 (pc' := 280) rfl rfl rfl ?_
                      refine g_iload X33 at_280 (pc' := 282) rfl rfl ?_
                      refine g_bipush X33 at_282 (pc' := 284) rfl (v := (10 : Int32)) rfl ?_
                      refine g_bastore X33 (i := (q + 1)) A33 (own_small (by omega)) (by rw [own_len]; omega) l1 at_284 (pc' := 285) rfl (fun T34 h34 X34 W34 A34 => ?_)
                      rw [own_lset] at A34
                      refine g_iinc X34 at_285 (pc' := 288) rfl rfl (L' := #[.val (.long edges), .second, .val (.long lines), .second, .val (.int shape), .val (.int seed), .val (.ref b1), .val (.int (Int32.ofNat o)), .val (.int em), .val (.int rl), .val (.int x10), .val (.int x11), .val (.int hdl), .val (.int x13), .val (.int x14), .val (.int x15), .val (.int x16), .val (.int x17), .val (.int ((Int32.ofNat (q + 1)) + (1 : Int32))), .unset, .unset, .unset, .unset, .unset, .unset, .unset]) rfl ?_
                      rw [own_succ]
                      exact J288 _ _ _ _ (((q + 1) + 1)) X34 A34 (own_empA hp) (by omega)
                have J226 : ∀ (T : State) (locs : List Loc) (h : Heap) (f : Nat → Int32) (q : Nat), St Z n0 p l e room_1 s m #[(.long edges), (.long lines), (.int shape), (.int seed)] below meth c x.cls x.name code maxLocals ret T locs 1 28 h → Arx Z h b1 .byte (own_list f) → Ph f o q false → q ≤ o + 2 → Go p e below (Kq s 16 128 (fun v h L => v = some (.int 1) ∧ Fr n0 L)) (T.setTop (mkF m 226 #[.val (.long edges), .second, .val (.long lines), .second, .val (.int shape), .val (.int seed), .val (.ref b1), .val (.int (Int32.ofNat o)), .val (.int em), .val (.int rl), .val (.int x10), .val (.int x11), .val (.int hdl), .val (.int x13), .val (.int x14), .val (.int x15), .val (.int x16), .val (.int x17), .val (.int (Int32.ofNat q)), .unset, .unset, .unset, .unset, .unset, .unset, .unset] [])) := by
                  intro T locs h f q X A hp hq
                  refine g_iload X at_226 (pc' := 228) rfl rfl ?_
                  refine g_iconst X at_228 (pc' := 229) rfl (v := (1 : Int32)) rfl ?_
                  refine g_icmp_le X at_229 (pt := 257) (by decide) (pc' := 232) rfl (fun hc229 => ?_) (fun hc229 => ?_)
                  · exact J257 _ _ _ _ q X A hp (by omega)
                  · refine g_iload X at_232 (pc' := 234) rfl rfl ?_
                    refine g_if_eq X at_234 (pt := 247) (by decide) (pc' := 237) rfl (fun hc234 => ?_) (fun hc234 => ?_)
                    · refine g_aload X at_247 (pc' := 249) rfl rfl rfl ?_
                      refine g_iload X at_249 (pc' := 251) rfl rfl ?_
                      refine g_bipush X at_251 (pc' := 253) rfl (v := (10 : Int32)) rfl ?_
                      refine g_bastore X (i := q) A (own_small (by omega)) (by rw [own_len]; omega) l1 at_253 (pc' := 254) rfl (fun T35 h35 X35 W35 A35 => ?_)
                      rw [own_lset] at A35
                      refine g_iinc X35 at_254 (pc' := 257) rfl rfl (L' := #[.val (.long edges), .second, .val (.long lines), .second, .val (.int shape), .val (.int seed), .val (.ref b1), .val (.int (Int32.ofNat o)), .val (.int em), .val (.int rl), .val (.int x10), .val (.int x11), .val (.int hdl), .val (.int x13), .val (.int x14), .val (.int x15), .val (.int x16), .val (.int x17), .val (.int ((Int32.ofNat q) + (1 : Int32))), .unset, .unset, .unset, .unset, .unset, .unset, .unset]) rfl ?_
                      rw [own_succ]
                      exact J257 _ _ _ _ ((q + 1)) X35 A35 (own_empB hp) (by omega)
                    · refine g_aload X at_237 (pc' := 239) rfl rfl rfl ?_
                      refine g_iload X at_239 (pc' := 241) rfl rfl ?_
                      refine g_bipush X at_241 (pc' := 243) rfl (v := (13 : Int32)) rfl ?_
                      refine g_bastore X (i := q) A (own_small (by omega)) (by rw [own_len]; omega) l1 at_243 (pc' := 244) rfl (fun T36 h36 X36 W36 A36 => ?_)
                      rw [own_lset] at A36
                      refine g_iinc X36 at_244 (pc' := 247) rfl rfl (L' := #[.val (.long edges), .second, .val (.long lines), .second, .val (.int shape), .val (.int seed), .val (.ref b1), .val (.int (Int32.ofNat o)), .val (.int em), .val (.int rl), .val (.int x10), .val (.int x11), .val (.int hdl), .val (.int x13), .val (.int x14), .val (.int x15), .val (.int x16), .val (.int x17), .val (.int ((Int32.ofNat q) + (1 : Int32))), .unset, .unset, .unset, .unset, .unset, .unset, .unset]) rfl ?_
                      rw [own_succ]
                      refine g_aload X36 at_247 (pc' := 249) rfl rfl rfl ?_
                      refine g_iload X36 at_249 (pc' := 251) rfl rfl ?_
                      refine g_bipush X36 at_251 (pc' := 253) rfl (v := (10 : Int32)) rfl ?_
                      refine g_bastore X36 (i := (q + 1)) A36 (own_small (by omega)) (by rw [own_len]; omega) l1 at_253 (pc' := 254) rfl (fun T37 h37 X37 W37 A37 => ?_)
                      rw [own_lset] at A37
                      refine g_iinc X37 at_254 (pc' := 257) rfl rfl (L' := #[.val (.long edges), .second, .val (.long lines), .second, .val (.int shape), .val (.int seed), .val (.ref b1), .val (.int (Int32.ofNat o)), .val (.int em), .val (.int rl), .val (.int x10), .val (.int x11), .val (.int hdl), .val (.int x13), .val (.int x14), .val (.int x15), .val (.int x16), .val (.int x17), .val (.int ((Int32.ofNat (q + 1)) + (1 : Int32))), .unset, .unset, .unset, .unset, .unset, .unset, .unset]) rfl ?_
                      rw [own_succ]
                      exact J257 _ _ _ _ (((q + 1) + 1)) X37 A37 (own_empA hp) (by omega)
                refine g_iload X7 at_196 (pc' := 198) rfl rfl ?_
                refine g_if_le X7 at_198 (pt := 226) (by decide) (pc' := 201) rfl (fun hc198 => ?_) (fun hc198 => ?_)
                · exact J226 _ _ _ _ o X7 A7 hp (by omega)
                · refine g_iload X7 at_201 (pc' := 203) rfl rfl ?_
                  refine g_if_eq X7 at_203 (pt := 216) (by decide) (pc' := 206) rfl (fun hc203 => ?_) (fun hc203 => ?_)
                  · refine g_aload X7 at_216 (pc' := 218) rfl rfl rfl ?_
                    refine g_iload X7 at_218 (pc' := 220) rfl rfl ?_
                    refine g_bipush X7 at_220 (pc' := 222) rfl (v := (10 : Int32)) rfl ?_
                    refine g_bastore X7 (i := o) A7 (own_small (by omega)) (by rw [own_len]; omega) l1 at_222 (pc' := 223) rfl (fun T38 h38 X38 W38 A38 => ?_)
                    rw [own_lset] at A38
                    refine g_iinc X38 at_223 (pc' := 226) rfl rfl (L' := #[.val (.long edges), .second, .val (.long lines), .second, .val (.int shape), .val (.int seed), .val (.ref b1), .val (.int (Int32.ofNat o)), .val (.int em), .val (.int rl), .val (.int x10), .val (.int x11), .val (.int hdl), .val (.int x13), .val (.int x14), .val (.int x15), .val (.int x16), .val (.int x17), .val (.int ((Int32.ofNat o) + (1 : Int32))), .unset, .unset, .unset, .unset, .unset, .unset, .unset]) rfl ?_
                    rw [own_succ]
                    exact J226 _ _ _ _ ((o + 1)) X38 A38 (own_empB hp) (by omega)
                  · refine g_aload X7 at_206 (pc' := 208) rfl rfl rfl ?_
                    refine g_iload X7 at_208 (pc' := 210) rfl rfl ?_
                    refine g_bipush X7 at_210 (pc' := 212) rfl (v := (13 : Int32)) rfl ?_
                    refine g_bastore X7 (i := o) A7 (own_small (by omega)) (by rw [own_len]; omega) l1 at_212 (pc' := 213) rfl (fun T39 h39 X39 W39 A39 => ?_)
                    rw [own_lset] at A39
                    refine g_iinc X39 at_213 (pc' := 216) rfl rfl (L' := #[.val (.long edges), .second, .val (.long lines), .second, .val (.int shape), .val (.int seed), .val (.ref b1), .val (.int (Int32.ofNat o)), .val (.int em), .val (.int rl), .val (.int x10), .val (.int x11), .val (.int hdl), .val (.int x13), .val (.int x14), .val (.int x15), .val (.int x16), .val (.int x17), .val (.int ((Int32.ofNat o) + (1 : Int32))), .unset, .unset, .unset, .unset, .unset, .unset, .unset]) rfl ?_
                    rw [own_succ]
                    refine g_aload X39 at_216 (pc' := 218) rfl rfl rfl ?_
                    refine g_iload X39 at_218 (pc' := 220) rfl rfl ?_
                    refine g_bipush X39 at_220 (pc' := 222) rfl (v := (10 : Int32)) rfl ?_
                    refine g_bastore X39 (i := (o + 1)) A39 (own_small (by omega)) (by rw [own_len]; omega) l1 at_222 (pc' := 223) rfl (fun T40 h40 X40 W40 A40 => ?_)
                    rw [own_lset] at A40
                    refine g_iinc X40 at_223 (pc' := 226) rfl rfl (L' := #[.val (.long edges), .second, .val (.long lines), .second, .val (.int shape), .val (.int seed), .val (.ref b1), .val (.int (Int32.ofNat o)), .val (.int em), .val (.int rl), .val (.int x10), .val (.int x11), .val (.int hdl), .val (.int x13), .val (.int x14), .val (.int x15), .val (.int x16), .val (.int x17), .val (.int ((Int32.ofNat (o + 1)) + (1 : Int32))), .unset, .unset, .unset, .unset, .unset, .unset, .unset]) rfl ?_
                    rw [own_succ]
                    exact J226 _ _ _ _ (((o + 1) + 1)) X40 A40 (own_empA hp) (by omega)
              refine g_if_eq X1 at_152 (pt := 159) (by decide) (pc' := 155) rfl (fun hc152 => ?_) (fun hc152 => ?_)
              · refine g_iconst X1 at_159 (pc' := 160) rfl (v := (0 : Int32)) rfl ?_
                exact J160 _
              · refine g_iconst X1 at_155 (pc' := 156) rfl (v := (1 : Int32)) rfl ?_
                refine g_goto X1 at_156 (pt := 160) (by decide) ?_
                exact J160 _
            refine g_if_eq X1 at_135 (pt := 142) (by decide) (pc' := 138) rfl (fun hc135 => ?_) (fun hc135 => ?_)
            · refine g_iconst X1 at_142 (pc' := 143) rfl (v := (0 : Int32)) rfl ?_
              exact J143 _
            · refine g_iconst X1 at_138 (pc' := 139) rfl (v := (1 : Int32)) rfl ?_
              refine g_goto X1 at_139 (pt := 143) (by decide) ?_
              exact J143 _
          refine g_if_eq X1 at_118 (pt := 125) (by decide) (pc' := 121) rfl (fun hc118 => ?_) (fun hc118 => ?_)
          · refine g_iconst X1 at_125 (pc' := 126) rfl (v := (0 : Int32)) rfl ?_
            exact J126 _
          · refine g_iconst X1 at_121 (pc' := 122) rfl (v := (1 : Int32)) rfl ?_
            refine g_goto X1 at_122 (pt := 126) (by decide) ?_
            exact J126 _
        refine g_if_eq X1 at_101 (pt := 108) (by decide) (pc' := 104) rfl (fun hc101 => ?_) (fun hc101 => ?_)
        · refine g_iconst X1 at_108 (pc' := 109) rfl (v := (0 : Int32)) rfl ?_
          exact J109 _
        · refine g_iconst X1 at_104 (pc' := 105) rfl (v := (1 : Int32)) rfl ?_
          refine g_goto X1 at_105 (pt := 109) (by decide) ?_
          exact J109 _
      refine g_if_eq X1 at_84 (pt := 91) (by decide) (pc' := 87) rfl (fun hc84 => ?_) (fun hc84 => ?_)
      · refine g_iconst X1 at_91 (pc' := 92) rfl (v := (0 : Int32)) rfl ?_
        exact J92 _
      · refine g_iconst X1 at_87 (pc' := 88) rfl (v := (1 : Int32)) rfl ?_
        refine g_goto X1 at_88 (pt := 92) (by decide) ?_
        exact J92 _
    refine g_if_eq X1 at_56 (pt := 63) (by decide) (pc' := 59) rfl (fun hc56 => ?_) (fun hc56 => ?_)
    · refine g_iconst X1 at_63 (pc' := 64) rfl (v := (0 : Int32)) rfl ?_
      exact J64 _
    · refine g_iconst X1 at_59 (pc' := 60) rfl (v := (1 : Int32)) rfl ?_
      refine g_goto X1 at_60 (pt := 64) (by decide) ?_
      exact J64 _
  refine g_if_eq X1 at_39 (pt := 46) (by decide) (pc' := 42) rfl (fun hc39 => ?_) (fun hc39 => ?_)
  · refine g_iconst X1 at_46 (pc' := 47) rfl (v := (0 : Int32)) rfl ?_
    exact J47 _
  · refine g_iconst X1 at_42 (pc' := 43) rfl (v := (1 : Int32)) rfl ?_
    refine g_goto X1 at_43 (pt := 47) (by decide) ?_
    exact J47 _

set_option maxRecDepth 65536 in
set_option maxHeartbeats 40000000 in
theorem comes_1 {Post : Tables → Env → Array Value → State → Outcome → State → Prop} (hpost : ∀ tb e args s v u, (limb_1_1.after args s (.returned v) u = true ∧ limb_1_2.after args s (.returned v) u = true ∧ True) → FrameEnd s (.returned v) u (Jvm.fieldLocs frame_1_writes args s ++ Jvm.arrayLocs frame_1_arrays args s ++ Jvm.staticLocs frame_1_statics s) 16 128 → Post tb e args s (.returned v) u) :
    ArmFor flags0 classFile x code maxLocals ret World_1 tables_1 room_1 Calls_1 rest_1 Pre_1 Post := by
  intro l hfl _ _ p e ha hc hk s m args below hf hA hF happ hP
  obtain ⟨hcalls, hrest, hpre⟩ := hP
  obtain ⟨-, -, -, hnamed, -, -, -, hat⟩ := (Spec.applies_iff hf).mp happ
  obtain ⟨hg, hn⟩ := and_e (Cond.before_iff.mp (show (Jvm.Cond.and given_1 narrow_1).before args s = true from hpre))
  obtain ⟨hcount, hg⟩ := and_e hg
  obtain ⟨k0, hg⟩ := and_e hg
  obtain ⟨k1, hg⟩ := and_e hg
  obtain ⟨k2, hg⟩ := and_e hg
  have k3 := hg
  obtain ⟨w0, w1, w2, w3, rfl⟩ : ∃ w0 w1 w2 w3 : Value, args = #[w0, w1, w2, w3] := by
    have hs : args.size = 4 := by simpa [Cond.value, given_1] using hcount
    obtain ⟨L⟩ := args
    match L, hs with
    | [w0, w1, w2, w3], _ => exact ⟨w0, w1, w2, w3, rfl⟩
  have hw := fun d (hd : d ∈ tables_1) => atoms_spec (ws := Jvm.Cond.code x code maxLocals ret :: tables_1) hat d (List.mem_cons_of_mem _ hd)
  obtain ⟨i0, e0⟩ := isL_v k0
  obtain rfl : w0 = (.long i0) := Option.some.inj e0
  obtain ⟨i1, e1⟩ := isL_v k1
  obtain rfl : w1 = (.long i1) := Option.some.inj e1
  obtain ⟨i2, e2⟩ := is_v k2
  obtain rfl : w2 = (.int i2) := Option.some.inj e2
  obtain ⟨i3, e3⟩ := is_v k3
  obtain rfl : w3 = (.int i3) := Option.some.inj e3
  obtain ⟨n, o, h1, h2, h3, _, L, rfl, ⟨rfl, N⟩, hq⟩ := rm0 l s _ hw tables_1 i0 i1 i2 i3 s.heap s.heap.size (Old.start s)  p e ha hc hk s m _ below hf ((Spec.applies_iff_loose hf).mp happ).1 ⟨rfl, State.Warmed39.refl s, rfl⟩ trivial
  refine ⟨n, _, h1, h2, h3, hpost _ _ _ _ _ _ ⟨Cond.after_iff.mpr rfl, Cond.after_iff.mpr (eq_i res_at (Term.int_eval (1)) rfl), trivial⟩ ⟨hq.1, hq.2.1, (hq.2.2.sift fun y hy => Or.inr (N y hy)).mono (by decide) (by decide)⟩⟩
theorem main_1_1 : Claimed_1_1 := comes_1 fun _ _ _ _ _ _ h hF => ⟨h.1, hF⟩
theorem main_1_2 : Claimed_1_2 := comes_1 fun _ _ _ _ _ _ h hF => ⟨h.2.1, hF⟩
end Jvm.Pilot.@@N@@
namespace Jvm.Pilot.@@N@@
open Jvm Jvm.ClassFile Sem Op Lib Jvm.Free Jvm.Stand Jvm.Pilot.@@N@@.Jvm.D
/-! MADE BY PROGRAM (witnessworld.py) out of the Statement's table words and the real class files: 9 classes; the members and pool entries that the words name. The judged class is class 1, her method 3. -/
namespace start1
open Jvm.ClassFile
def u (s : String) : CpInfo := .utf8 (stringToUtf16 s)
/-- a pool by its gaps: so many unusable entries, then the entry; so many at the end -/
def gap : Nat → List CpInfo → List CpInfo
  | 0, r => r
  | n + 1, r => .unusable :: gap n r
def poolList (es : List (Nat × CpInfo)) (last : Nat) : List CpInfo := es.foldr (fun e r => gap e.1 (e.2 :: r)) (gap last [])
def pool (es : List (Nat × CpInfo)) (last : Nat) : Array CpInfo := ⟨poolList es last⟩
def fileOf (pool : Array CpInfo) (this : Nat) (attrs : Array Attribute := #[]) (ms : Array MethodInfo := #[]) (fl : Nat := 33) (sup : Nat := 0) (ifs : Array Nat := #[]) (fds : Array FieldInfo := #[]) : ClassFile where
  minorVersion := 0
  majorVersion := 65
  constantPool := pool
  accessFlags := fl
  thisClass := this
  superClass := sup
  interfaces := ifs
  fields := fds
  methods := ms
  attributes := attrs
def plain (name : String) (sup : Option ClassId) : Class where
  name := name
  kind := .ordinary
  loader := none
  accessFlags := 33
  super := sup
  interfaces := #[]
  cf := none
  fields := #[]
  methods := #[]
  instanceTypes := #[]
  staticTypes := #[]
  resolved := #[]
  callSites := []
  init := .initialized
  statics := none
  mirror := none

def pool0 : Array CpInfo := pool [(5, u "<init>"), (0, u "()V"), (1, .class_ 10), (1, u "java/lang/Object")] 113

def k0m0 : Method := { name := "<init>", desc := "()V", sig := { parameters := [], returnType := none }, accessFlags := 1, code := none }
/-- java/lang/Object -/
def k0 : Class := { plain "java/lang/Object" none with
  accessFlags := 33
  interfaces := #[]
  cf := some (fileOf pool0 8 #[] #[{ accessFlags := 1, nameIndex := 5, descriptorIndex := 6, attributes := #[] }] 33 0 #[] #[])
  fields := #[]
  methods := #[k0m0]
  instanceTypes := #[]
  staticTypes := #[]
  resolved := Array.replicate 124 none
  statics := none }

def pool1 : Array CpInfo := pool [(2, .class_ 4), (1, u "java/lang/Object"), (0, u "<init>"), (0, u "()V"), (0, .long 3), (1, .methodref 10 11), (0, .class_ 12), (0, .nameAndType 13 14), (0, u "com/example/measured_term/measuredterm/http/RequestHeadEndPinLaw"), (0, u "any"), (0, u "(J)B"), (0, .methodref 10 16), (0, .nameAndType 17 14), (0, u "notLf"), (0, .methodref 19 20), (0, .class_ 21), (0, .nameAndType 22 23), (0, u "com/example/measured_term/measuredterm/http/RequestHead"), (0, u "end"), (0, u "([BII)I"), (3, u "law"), (0, u "(JJII)Z")] 4

def k1m0 : Method := { name := "<init>", desc := "()V", sig := { parameters := [], returnType := none }, accessFlags := 2, code := none }
def k1c1 : Code := { maxStack := 4, maxLocals := 3, code := method_2_code, exceptionTable := #[], attributes := #[] }
def k1m1 : Method := { name := "any", desc := "(J)B", sig := { parameters := [.long], returnType := some .byte }, accessFlags := 10, code := some k1c1 }
def k1c2 : Code := { maxStack := 4, maxLocals := 4, code := method_3_code, exceptionTable := #[], attributes := #[] }
def k1m2 : Method := { name := "notLf", desc := "(J)B", sig := { parameters := [.long], returnType := some .byte }, accessFlags := 10, code := some k1c2 }
def k1c3 : Code := { maxStack := 5, maxLocals := 26, code := code, exceptionTable := #[], attributes := #[] }
def k1m3 : Method := { name := "law", desc := "(JJII)Z", sig := { parameters := [.long, .long, .int, .int], returnType := some .boolean }, accessFlags := 9, code := some k1c3 }
/-- com/example/measured_term/measuredterm/http/RequestHeadEndPinLaw -/
def k1 : Class := { plain "com/example/measured_term/measuredterm/http/RequestHeadEndPinLaw" (some 0) with
  accessFlags := 49
  interfaces := #[]
  cf := some (fileOf pool1 10 #[] #[{ accessFlags := 2, nameIndex := 5, descriptorIndex := 6, attributes := #[] }, { accessFlags := 10, nameIndex := 13, descriptorIndex := 14, attributes := #[] }, { accessFlags := 10, nameIndex := 17, descriptorIndex := 14, attributes := #[] }, { accessFlags := 9, nameIndex := 27, descriptorIndex := 28, attributes := #[] }] 49 2 #[] #[])
  fields := #[]
  methods := #[k1m0, k1m1, k1m2, k1m3]
  instanceTypes := #[]
  staticTypes := #[]
  resolved := Array.replicate 33 none
  statics := none }

def pool2 : Array CpInfo := pool [(2, .class_ 4), (1, u "java/lang/Object"), (5, .class_ 12), (1, u "com/example/measured_term/measuredterm/http/RequestHead"), (0, u "contentLength"), (0, u "J"), (2, u "bytes"), (0, u "[B"), (41, u "refusal"), (0, u "Lcom/example/measured_term/measuredterm/http/ContainerError;"), (11, u "method"), (0, u "Ljava/lang/String;"), (2, u "path"), (2, u "query"), (13, u "chunked"), (0, u "Z"), (2, u "http11"), (2, u "expectsContinue"), (2, u "keepAlive"), (104, u "headerLines"), (0, u "I"), (113, u "MAX_BYTES"), (2, u "ASTERISK"), (0, u "TOKEN_SIGNS"), (0, u "NOT_IN_TARGET"), (0, u "LENGTH_DIGITS"), (6, u "end"), (0, u "([BII)I")] 63

def k2c0 : Code := { maxStack := 3, maxLocals := 7, code := prog_34_method_3_code, exceptionTable := #[], attributes := #[] }
def k2m0 : Method := { name := "end", desc := "([BII)I", sig := { parameters := [(.array .byte), .int, .int], returnType := some .int }, accessFlags := 8, code := some k2c0 }
/-- com/example/measured_term/measuredterm/http/RequestHead -/
def k2 : Class := { plain "com/example/measured_term/measuredterm/http/RequestHead" (some 0) with
  accessFlags := 32
  interfaces := #[]
  cf := some (fileOf pool2 10 #[] #[{ accessFlags := 8, nameIndex := 337, descriptorIndex := 338, attributes := #[] }] 32 2 #[] #[{ accessFlags := 24, nameIndex := 324, descriptorIndex := 210, attributes := #[] }, { accessFlags := 24, nameIndex := 327, descriptorIndex := 74, attributes := #[] }, { accessFlags := 26, nameIndex := 328, descriptorIndex := 74, attributes := #[] }, { accessFlags := 26, nameIndex := 329, descriptorIndex := 74, attributes := #[] }, { accessFlags := 26, nameIndex := 330, descriptorIndex := 210, attributes := #[] }, { accessFlags := 18, nameIndex := 17, descriptorIndex := 18, attributes := #[] }, { accessFlags := 2, nameIndex := 73, descriptorIndex := 74, attributes := #[] }, { accessFlags := 2, nameIndex := 77, descriptorIndex := 74, attributes := #[] }, { accessFlags := 2, nameIndex := 80, descriptorIndex := 74, attributes := #[] }, { accessFlags := 2, nameIndex := 98, descriptorIndex := 95, attributes := #[] }, { accessFlags := 2, nameIndex := 209, descriptorIndex := 210, attributes := #[] }, { accessFlags := 2, nameIndex := 60, descriptorIndex := 61, attributes := #[] }, { accessFlags := 2, nameIndex := 13, descriptorIndex := 14, attributes := #[] }, { accessFlags := 2, nameIndex := 94, descriptorIndex := 95, attributes := #[] }, { accessFlags := 2, nameIndex := 101, descriptorIndex := 95, attributes := #[] }, { accessFlags := 2, nameIndex := 104, descriptorIndex := 95, attributes := #[] }])
  fields := #[{ name := "MAX_BYTES", type := .int, accessFlags := 24, slot := 0, constantValue := 0 }, { name := "ASTERISK", type := (.object "java/lang/String"), accessFlags := 24, slot := 1, constantValue := 0 }, { name := "TOKEN_SIGNS", type := (.object "java/lang/String"), accessFlags := 26, slot := 2, constantValue := 0 }, { name := "NOT_IN_TARGET", type := (.object "java/lang/String"), accessFlags := 26, slot := 3, constantValue := 0 }, { name := "LENGTH_DIGITS", type := .int, accessFlags := 26, slot := 4, constantValue := 0 }, { name := "bytes", type := (.array .byte), accessFlags := 18, slot := 0, constantValue := 0 }, { name := "method", type := (.object "java/lang/String"), accessFlags := 2, slot := 1, constantValue := 0 }, { name := "path", type := (.object "java/lang/String"), accessFlags := 2, slot := 2, constantValue := 0 }, { name := "query", type := (.object "java/lang/String"), accessFlags := 2, slot := 3, constantValue := 0 }, { name := "http11", type := .boolean, accessFlags := 2, slot := 4, constantValue := 0 }, { name := "headerLines", type := .int, accessFlags := 2, slot := 5, constantValue := 0 }, { name := "refusal", type := (.object "com/example/measured_term/measuredterm/http/ContainerError"), accessFlags := 2, slot := 6, constantValue := 0 }, { name := "contentLength", type := .long, accessFlags := 2, slot := 7, constantValue := 0 }, { name := "chunked", type := .boolean, accessFlags := 2, slot := 8, constantValue := 0 }, { name := "expectsContinue", type := .boolean, accessFlags := 2, slot := 9, constantValue := 0 }, { name := "keepAlive", type := .boolean, accessFlags := 2, slot := 10, constantValue := 0 }]
  methods := #[k2m0]
  instanceTypes := #[(.array .byte), (.object "java/lang/String"), (.object "java/lang/String"), (.object "java/lang/String"), .boolean, .int, (.object "com/example/measured_term/measuredterm/http/ContainerError"), .long, .boolean, .boolean, .boolean]
  staticTypes := #[.int, (.object "java/lang/String"), (.object "java/lang/String"), (.object "java/lang/String"), .int]
  resolved := Array.replicate 402 none
  statics := none }

def pool3 : Array CpInfo := pool [(1, u "java/lang/Cloneable"), (0, .class_ 1), (0, u "java/lang/Object"), (0, .class_ 3)] 3

/-- java/lang/Cloneable -/
def k3 : Class := { plain "java/lang/Cloneable" (some 0) with
  accessFlags := 1537
  interfaces := #[]
  cf := some (fileOf pool3 2 #[] #[] 1537 4 #[] #[])
  fields := #[]
  methods := #[]
  instanceTypes := #[]
  staticTypes := #[]
  resolved := Array.replicate 8 none
  statics := none }

def pool4 : Array CpInfo := pool [(1, u "java/io/Serializable"), (0, .class_ 1), (0, u "java/lang/Object"), (0, .class_ 3)] 3

/-- java/io/Serializable -/
def k4 : Class := { plain "java/io/Serializable" (some 0) with
  accessFlags := 1537
  interfaces := #[]
  cf := some (fileOf pool4 2 #[] #[] 1537 4 #[] #[])
  fields := #[]
  methods := #[]
  instanceTypes := #[]
  staticTypes := #[]
  resolved := Array.replicate 8 none
  statics := none }

/-- the primitive byte -/
def k5 : Class := { plain "byte" none with kind := .primitive 'B', accessFlags := 0x411 }
/-- [B -/
def k6 : Class := { plain "[B" (some 0) with kind := .array 5 .byte, interfaces := #[3, 4], accessFlags := 1041 }

/-- the primitive int -/
def k7 : Class := { plain "int" none with kind := .primitive 'I', accessFlags := 0x411 }
/-- [I -/
def k8 : Class := { plain "[I" (some 0) with kind := .array 7 .int, interfaces := #[3, 4], accessFlags := 1041 }

def heap : Heap := #[]
def classes : Array Class := #[k0, k1, k2, k3, k4, k5, k6, k7, k8]
def interned : List (Array UInt16 × Addr) := []
def slotsUsed : Nat := 0
def theMethod : MethodId := ⟨1, 3⟩
def args0 : Array Value := #[.long 3, .long 4, .int 5, .int 6]
def aboutOver (below : List Frame) : State where
  vm := { classes := classes, interned := interned.toArray }
  heap := heap
  slotsUsed := slotsUsed
  threads := #[{ frames := .invoking theMethod args0 :: below }]
def below0 : List Frame := [.native { method := ⟨0, 0⟩, args := #[] }]
def about1 : State := aboutOver below0
def p0 : Program := .bare "" "" ""
def e0 : Env := launch0.env 0 0 0
theorem w_frames : about1.frames = Frame.invoking theMethod args0 :: below0 := rfl
set_option maxRecDepth 65536 in
theorem w_args : argsFit about1.vm theMethod args0 = true := by decide +kernel
set_option maxRecDepth 65536 in
theorem w_heap : heapFits about1 = true := by decide +kernel
set_option maxRecDepth 65536 in
theorem w_runnable : about1.curStatus? = some .runnable := by decide +kernel
set_option maxRecDepth 65536 in
theorem w_alone : about1.alone = true := by decide +kernel
set_option maxRecDepth 65536 in
theorem w_named : about1.methodNamed? x = some theMethod := by decide +kernel
set_option maxRecDepth 65536 in
theorem w_hears : about1.hears theMethod below0 = true := by decide +kernel
set_option maxRecDepth 65536 in
theorem w_ripe : about1.ripe theMethod args0 below0 = true := by decide +kernel
theorem w_running : about1.status = .running := rfl
set_option maxRecDepth 65536 in
theorem w_room : about1.hasRoom e0.platform room_1 = true :=
  launch0.hasRoom_least _ room_1 (by decide +kernel) (by decide +kernel) (by decide +kernel) (by decide +kernel) (by decide +kernel) (by decide +kernel)
theorem allAtoms_all (ts : List Jvm.Cond) (a : Array Jvm.Value) (st : Jvm.State) : (allAtoms ts).before a st = ts.all (fun c => c.before a st) := by
  induction ts with
  | nil => rfl
  | cons c t ih =>
    show (Jvm.Cond.and c (allAtoms t)).before a st = _
    rw [Jvm.Cond.before_and, ih, List.all_cons]
def words1 : List Jvm.Cond := Jvm.Cond.code x code maxLocals ret :: tables_1
/-- a 'code' word, met by the world's own term for the bytes: nothing is compared byte by byte -/
theorem code_word {y : MethodName} {bytes : ByteArray} {mx : Nat} {rt : Option FieldType} {a : Array Value} {s : State} {m : MethodId} {meth : Method} {c : Code} (h1 : s.methodNamed? y = some m) (h2 : s.vm.method? m = some meth) (h3 : meth.code = some c) (h4 : c.code = bytes)
    (h5 : (c.maxLocals == mx && c.exceptionTable.isEmpty && decide (c.maxStack ≤ mostOperands) && decide (meth.sig.returnType = rt) && !meth.locks && decide (parseMethodDescriptor y.desc = some meth.sig)) = true) : (Jvm.Cond.code y bytes mx rt).before a s = true := by
  simp only [Bool.and_eq_true, beq_iff_eq, Bool.not_eq_true', decide_eq_true_eq] at h5
  obtain ⟨⟨⟨⟨⟨g1, g2⟩, g3⟩, g4⟩, g5⟩, g6⟩ := h5
  simp [Cond.before, Cond.holds, Cond.value, h1, h2, h3, h4, g1, g2, g3, g4, g5, g6]
def isCode : Jvm.Cond → Bool
  | .code _ _ _ _ => true
  | _ => false
theorem all_split {L : List Jvm.Cond} {P : Jvm.Cond → Bool} (h1 : L.all (fun c => isCode c || P c) = true) (h2 : ∀ c ∈ L.filter isCode, P c = true) : L.all P = true := by
  refine List.all_eq_true.mpr fun c hc => ?_
  have h := List.all_eq_true.mp h1 c hc
  rcases Bool.eq_false_or_eq_true (isCode c) with hi | hi
  · exact h2 c (List.mem_filter.mpr ⟨hc, hi⟩)
  · simpa [hi] using h
set_option maxRecDepth 65536 in
theorem w_c0 : (Jvm.Cond.code x code maxLocals ret).before args0 about1 = true := code_word (m := ⟨1, 3⟩) (meth := k1m3) (c := k1c3) (by decide +kernel) rfl rfl rfl (by decide +kernel)
set_option maxRecDepth 65536 in
theorem w_c1 : (Jvm.Cond.code ({ cls := "com/example/measured_term/measuredterm/http/RequestHeadEndPinLaw", name := "any", desc := "(J)B" } : Jvm.MethodName) method_2_code (3 : Nat) (Option.some Jvm.ClassFile.FieldType.byte)).before args0 about1 = true := code_word (m := ⟨1, 1⟩) (meth := k1m1) (c := k1c1) (by decide +kernel) rfl rfl rfl (by decide +kernel)
set_option maxRecDepth 65536 in
theorem w_c2 : (Jvm.Cond.code ({ cls := "com/example/measured_term/measuredterm/http/RequestHeadEndPinLaw", name := "notLf", desc := "(J)B" } : Jvm.MethodName) method_3_code (4 : Nat) (Option.some Jvm.ClassFile.FieldType.byte)).before args0 about1 = true := code_word (m := ⟨1, 2⟩) (meth := k1m2) (c := k1c2) (by decide +kernel) rfl rfl rfl (by decide +kernel)
set_option maxRecDepth 65536 in
theorem w_c3 : (Jvm.Cond.code ({ cls := "com/example/measured_term/measuredterm/http/RequestHead", name := "end", desc := "([BII)I" } : Jvm.MethodName) prog_34_method_3_code (7 : Nat) (Option.some Jvm.ClassFile.FieldType.int)).before args0 about1 = true := code_word (m := ⟨2, 0⟩) (meth := k2m0) (c := k2c0) (by decide +kernel) rfl rfl rfl (by decide +kernel)
def codes1 : List Jvm.Cond := [Jvm.Cond.code x code maxLocals ret, Jvm.Cond.code ({ cls := "com/example/measured_term/measuredterm/http/RequestHeadEndPinLaw", name := "any", desc := "(J)B" } : Jvm.MethodName) method_2_code (3 : Nat) (Option.some Jvm.ClassFile.FieldType.byte), Jvm.Cond.code ({ cls := "com/example/measured_term/measuredterm/http/RequestHeadEndPinLaw", name := "notLf", desc := "(J)B" } : Jvm.MethodName) method_3_code (4 : Nat) (Option.some Jvm.ClassFile.FieldType.byte), Jvm.Cond.code ({ cls := "com/example/measured_term/measuredterm/http/RequestHead", name := "end", desc := "([BII)I" } : Jvm.MethodName) prog_34_method_3_code (7 : Nat) (Option.some Jvm.ClassFile.FieldType.int)]
set_option maxRecDepth 65536 in
theorem codes_eq : words1.filter isCode = codes1 := rfl
theorem w_codes : ∀ c ∈ words1.filter isCode, c.before args0 about1 = true := by
  rw [codes_eq]
  intro c hc
  simp only [codes1, List.mem_cons, List.not_mem_nil, or_false] at hc
  rcases hc with rfl | rfl | rfl | rfl
  · exact w_c0
  · exact w_c1
  · exact w_c2
  · exact w_c3
set_option maxRecDepth 65536 in
theorem w_t1 : words1.all (fun c => isCode c || c.before args0 about1) = true := by decide +kernel
theorem w_tables : (allAtoms (Jvm.Cond.code x code maxLocals ret :: tables_1)).before args0 about1 = true := by
  rw [allAtoms_all]
  show words1.all (fun c => c.before args0 about1) = true
  refine all_split ?_ w_codes
  rw [w_t1]
set_option maxRecDepth 65536 in
theorem w_case : (Jvm.Cond.and given_1 narrow_1).before args0 about1 = true := by decide +kernel
theorem w_applies : (headSpec (Jvm.Cond.code x code maxLocals ret :: tables_1) room_1).applies x e0.platform about1 = true :=
  (Spec.applies_iff w_frames).mpr ⟨w_running, w_runnable, w_alone, w_named, w_hears, w_ripe, w_room, w_tables⟩
theorem atStart : AtStart classFile x code maxLocals ret World_1 tables_1 room_1 Calls_1 rest_1 Pre_1 launch0 p0 e0 about1 theMethod args0 below0 :=
  ⟨lists_1, trivial, launch0.admits_env _ _ _, launch0.least_env, fairChoices_fair.cas, fairChoices_fair.clock, w_frames, w_args, w_heap, w_applies, trivial, trivial, w_case⟩
end start1
theorem witness_1 : WitnessClaimed_1 := ⟨start1.p0, start1.e0, start1.about1, start1.theMethod, start1.args0, start1.below0, start1.atStart⟩
end Jvm.Pilot.@@N@@
