import JvmDerived
import JvmDerived.Pilot.@@N@@Statement
import JvmDerived.Pilot.@@N@@Code
set_option linter.unusedVariables false
set_option linter.unusedSimpArgs false
namespace Jvm.Pilot.@@N@@
open Jvm Jvm.ClassFile Sem Op Lib Jvm.Free Jvm.Stand Jvm.LawKit Jvm.RoadKit Bundle Jvm.Pilot.@@N@@.Jvm.D
section Own
variable {p : Program} {l : Launch} {e : Env} {R : Room} {s : State} {m : MethodId} {args : Array Value} {below : List Frame} {meth : Method} {c : Code} {T T' : State} {locs : List Loc} {cells slots C N : Nat} {Q : Option Value → Heap → List Loc → Prop} {g g' : JFrame}
/-- from T with the frame g on top the invocation of s comes to its end: it returns, and Q holds of what it returns, of the heap and of the places written -/
def Go (p : Program) (e : Env) (below : List Frame) (s : State) (C N : Nat) (Q : Option Value → Heap → List Loc → Prop) (T : State) (g : JFrame) : Prop :=
  ∃ s₂ o, Steps p.tables e below (T.setTop g) s₂ ∧ s₂.status = .running ∧ Ended s₂ below o ∧ ∃ v L, o = .returned v ∧ Q v s₂.heap L ∧ FrameEnd s o s₂ L C N
theorem Go.st (h : ∀ t, Steps p.tables e below (T'.setTop g') t → Steps p.tables e below (T.setTop g) t) (k : Go p e below s C N Q T' g') : Go p e below s C N Q T g := by
  obtain ⟨s2, o, h1, h2⟩ := k
  exact ⟨s2, o, h _ h1, h2⟩
theorem Go.enter (q : g = g') (k : Go p e below s C N Q T g') : ∃ s₂ o, Steps p.tables e below (T.setTop g) s₂ ∧ s₂.status = .running ∧ Ended s₂ below o ∧ ∃ v L, o = .returned v ∧ Q v s₂.heap L ∧ FrameEnd s o s₂ L C N := by
  subst q; exact k
theorem Go.fin (X : Stand p l e R s m args below meth c T locs cells slots) (hlk : meth.locks = false) {v : Option Value} (hv : meth.sig.returnType = none → v = none) (hC : cells ≤ C) (hN : slots ≤ N) (hq : Q v T.heap locs)
    (hs : ∀ fs, (∀ (f : JFrame) (acts : List Action), f.method = m → f.locked = none → f.entered = [] → (doReturn e (T.setTop f) acts v).1 = T.setFrames fs) → Steps p.tables e below (T.setTop g) (T.setFrames fs)) : Go p e below s C N Q T g := by
  obtain ⟨fs, hr, hrun, hended, hW, hsame⟩ := X.leave hv hlk
  exact ⟨_, _, hs fs hr, hrun, hended, _, _, rfl, hq, ⟨_, rfl⟩, hW, hsame.mono hC hN⟩
end Own

section OwnG
variable {p : Program} {l : Launch} {e : Env} {R : Room} {s : State} {m : MethodId} {args : Array Value} {below : List Frame} {meth : Method} {c : Code} {T : State} {locs : List Loc} {cells slots C N : Nat} {Q : Option Value → Heap → List Loc → Prop} {pc pc' : Nat} {L L' : Array Slot} {S : List Value}
theorem G_iloadN (X : Stand p l e R s m args below meth c T locs cells slots) (hx : p.tables.exec = Jvm.exec) {k : Fin 4} {v : Int32} (hp : pc + 1 = pc') (hd : decode c.code pc = .ok (.iload_n k, 1)) (hl : L[k.val]? = some (.val (.int v))) (h : Go p e below s C N Q T (mkF m pc' L (.int v :: S))) : Go p e below s C N Q T (mkF m pc L S) := by
  subst hp; exact Go.st (fun _ k => XS.iloadN X.here hx rfl hd hl k) h
theorem G_iload (X : Stand p l e R s m args below meth c T locs cells slots) (hx : p.tables.exec = Jvm.exec) {k : Nat} {v : Int32} (hp : pc + 2 = pc') (hd : decode c.code pc = .ok (.iload k, 2)) (hl : L[k]? = some (.val (.int v))) (h : Go p e below s C N Q T (mkF m pc' L (.int v :: S))) : Go p e below s C N Q T (mkF m pc L S) := by
  subst hp; exact Go.st (fun _ k => XS.iload X.here hx rfl hd hl k) h
theorem G_istoreN (X : Stand p l e R s m args below meth c T locs cells slots) (hx : p.tables.exec = Jvm.exec) {k : Fin 4} {v : Int32} (hp : pc + 1 = pc') (hd : decode c.code pc = .ok (.istore_n k, 1)) (hl : storeLocals L k.val (.int v) = some L') (h : Go p e below s C N Q T (mkF m pc' L' S)) : Go p e below s C N Q T (mkF m pc L (.int v :: S)) := by
  subst hp; exact Go.st (fun _ k => XS.istoreN X.here hx rfl hd rfl hl k) h
theorem G_istore (X : Stand p l e R s m args below meth c T locs cells slots) (hx : p.tables.exec = Jvm.exec) {k : Nat} {v : Int32} (hp : pc + 2 = pc') (hd : decode c.code pc = .ok (.istore k, 2)) (hl : storeLocals L k (.int v) = some L') (h : Go p e below s C N Q T (mkF m pc' L' S)) : Go p e below s C N Q T (mkF m pc L (.int v :: S)) := by
  subst hp; exact Go.st (fun _ k => XS.istore X.here hx rfl hd rfl hl k) h
theorem G_lloadN (X : Stand p l e R s m args below meth c T locs cells slots) (hx : p.tables.exec = Jvm.exec) {k : Fin 4} {v : Int64} (hp : pc + 1 = pc') (hd : decode c.code pc = .ok (.lload_n k, 1)) (hl : L[k.val]? = some (.val (.long v))) (h : Go p e below s C N Q T (mkF m pc' L (.long v :: S))) : Go p e below s C N Q T (mkF m pc L S) := by
  subst hp; exact Go.st (fun _ k => XS.lloadN X.here hx rfl hd hl k) h
theorem G_lload (X : Stand p l e R s m args below meth c T locs cells slots) (hx : p.tables.exec = Jvm.exec) {k : Nat} {v : Int64} (hp : pc + 2 = pc') (hd : decode c.code pc = .ok (.lload k, 2)) (hl : L[k]? = some (.val (.long v))) (h : Go p e below s C N Q T (mkF m pc' L (.long v :: S))) : Go p e below s C N Q T (mkF m pc L S) := by
  subst hp; exact Go.st (fun _ k => XS.lload X.here hx rfl hd hl k) h
theorem G_lstoreN (X : Stand p l e R s m args below meth c T locs cells slots) (hx : p.tables.exec = Jvm.exec) {k : Fin 4} {v : Int64} (hp : pc + 1 = pc') (hd : decode c.code pc = .ok (.lstore_n k, 1)) (hl : storeLocals L k.val (.long v) = some L') (h : Go p e below s C N Q T (mkF m pc' L' S)) : Go p e below s C N Q T (mkF m pc L (.long v :: S)) := by
  subst hp; exact Go.st (fun _ k => XS.lstoreN X.here hx rfl hd rfl hl k) h
theorem G_lstore (X : Stand p l e R s m args below meth c T locs cells slots) (hx : p.tables.exec = Jvm.exec) {k : Nat} {v : Int64} (hp : pc + 2 = pc') (hd : decode c.code pc = .ok (.lstore k, 2)) (hl : storeLocals L k (.long v) = some L') (h : Go p e below s C N Q T (mkF m pc' L' S)) : Go p e below s C N Q T (mkF m pc L (.long v :: S)) := by
  subst hp; exact Go.st (fun _ k => XS.lstore X.here hx rfl hd rfl hl k) h
theorem G_aloadN (X : Stand p l e R s m args below meth c T locs cells slots) (hx : p.tables.exec = Jvm.exec) {k : Fin 4} {v : Value} (hp : pc + 1 = pc') (hd : decode c.code pc = .ok (.aload_n k, 1)) (hl : L[k.val]? = some (.val v)) (hv : v.isRef = true) (h : Go p e below s C N Q T (mkF m pc' L (v :: S))) : Go p e below s C N Q T (mkF m pc L S) := by
  subst hp; exact Go.st (fun _ k => XS.aloadN X.here hx rfl hd hl hv k) h
theorem G_aload (X : Stand p l e R s m args below meth c T locs cells slots) (hx : p.tables.exec = Jvm.exec) {k : Nat} {v : Value} (hp : pc + 2 = pc') (hd : decode c.code pc = .ok (.aload k, 2)) (hl : L[k]? = some (.val v)) (hv : v.isRef = true) (h : Go p e below s C N Q T (mkF m pc' L (v :: S))) : Go p e below s C N Q T (mkF m pc L S) := by
  subst hp; exact Go.st (fun _ k => XS.aload X.here hx rfl hd hl hv k) h
theorem G_astoreN (X : Stand p l e R s m args below meth c T locs cells slots) (hx : p.tables.exec = Jvm.exec) {k : Fin 4} {v : Value} (hp : pc + 1 = pc') (hd : decode c.code pc = .ok (.astore_n k, 1)) (hv : v.isRef = true) (hl : storeLocals L k.val v = some L') (h : Go p e below s C N Q T (mkF m pc' L' S)) : Go p e below s C N Q T (mkF m pc L (v :: S)) := by
  subst hp; exact Go.st (fun _ k => XS.astoreN X.here hx rfl hd rfl hv hl k) h
theorem G_astore (X : Stand p l e R s m args below meth c T locs cells slots) (hx : p.tables.exec = Jvm.exec) {k : Nat} {v : Value} (hp : pc + 2 = pc') (hd : decode c.code pc = .ok (.astore k, 2)) (hv : v.isRef = true) (hl : storeLocals L k v = some L') (h : Go p e below s C N Q T (mkF m pc' L' S)) : Go p e below s C N Q T (mkF m pc L (v :: S)) := by
  subst hp; exact Go.st (fun _ k => XS.astore X.here hx rfl hd rfl hv hl k) h
theorem G_iconst (X : Stand p l e R s m args below meth c T locs cells slots) (hx : p.tables.exec = Jvm.exec) {i : Int} {z : Int32} (hp : pc + 1 = pc') (hd : decode c.code pc = .ok (.iconst i, 1)) (hz : Int32.ofInt i = z) (h : Go p e below s C N Q T (mkF m pc' L (.int z :: S))) : Go p e below s C N Q T (mkF m pc L S) := by
  subst hp; exact Go.st (fun _ k => XS.iconst X.here hx rfl hd (by rw [hz]; exact k)) h
theorem G_bipush (X : Stand p l e R s m args below meth c T locs cells slots) (hx : p.tables.exec = Jvm.exec) {i : Int} {z : Int32} (hp : pc + 2 = pc') (hd : decode c.code pc = .ok (.bipush i, 2)) (hz : (Int8.ofInt i).toInt32 = z) (h : Go p e below s C N Q T (mkF m pc' L (.int z :: S))) : Go p e below s C N Q T (mkF m pc L S) := by
  subst hp; exact Go.st (fun _ k => XS.bipush X.here hx rfl hd (by rw [hz]; exact k)) h
theorem G_sipush (X : Stand p l e R s m args below meth c T locs cells slots) (hx : p.tables.exec = Jvm.exec) {i : Int} {z : Int32} (hp : pc + 3 = pc') (hd : decode c.code pc = .ok (.sipush i, 3)) (hz : (Int16.ofInt i).toInt32 = z) (h : Go p e below s C N Q T (mkF m pc' L (.int z :: S))) : Go p e below s C N Q T (mkF m pc L S) := by
  subst hp; exact Go.st (fun _ k => XS.sipush X.here hx rfl hd (by rw [hz]; exact k)) h
theorem G_lconst (X : Stand p l e R s m args below meth c T locs cells slots) (hx : p.tables.exec = Jvm.exec) {i : Fin 2} {z : Int64} (hp : pc + 1 = pc') (hd : decode c.code pc = .ok (.lconst i, 1)) (hz : Int64.ofNat i = z) (h : Go p e below s C N Q T (mkF m pc' L (.long z :: S))) : Go p e below s C N Q T (mkF m pc L S) := by
  subst hp; exact Go.st (fun _ k => XS.lconst X.here hx rfl hd (by rw [hz]; exact k)) h
theorem G_aconstNull (X : Stand p l e R s m args below meth c T locs cells slots) (hx : p.tables.exec = Jvm.exec)  (hp : pc + 1 = pc') (hd : decode c.code pc = .ok (.aconst_null, 1))  (h : Go p e below s C N Q T (mkF m pc' L (.null :: S))) : Go p e below s C N Q T (mkF m pc L S) := by
  subst hp; exact Go.st (fun _ k => XS.aconstNull X.here hx rfl hd k) h
theorem G_iadd (X : Stand p l e R s m args below meth c T locs cells slots) (hx : p.tables.exec = Jvm.exec) {x y : Int32} (hp : pc + 1 = pc') (hd : decode c.code pc = .ok (.iadd, 1))  (h : Go p e below s C N Q T (mkF m pc' L (.int (x + y) :: S))) : Go p e below s C N Q T (mkF m pc L (.int y :: .int x :: S)) := by
  subst hp; exact Go.st (fun _ k => XS.iadd X.here hx rfl hd rfl k) h
theorem G_isub (X : Stand p l e R s m args below meth c T locs cells slots) (hx : p.tables.exec = Jvm.exec) {x y : Int32} (hp : pc + 1 = pc') (hd : decode c.code pc = .ok (.isub, 1))  (h : Go p e below s C N Q T (mkF m pc' L (.int (x - y) :: S))) : Go p e below s C N Q T (mkF m pc L (.int y :: .int x :: S)) := by
  subst hp; exact Go.st (fun _ k => XS.isub X.here hx rfl hd rfl k) h
theorem G_imul (X : Stand p l e R s m args below meth c T locs cells slots) (hx : p.tables.exec = Jvm.exec) {x y : Int32} (hp : pc + 1 = pc') (hd : decode c.code pc = .ok (.imul, 1))  (h : Go p e below s C N Q T (mkF m pc' L (.int (x * y) :: S))) : Go p e below s C N Q T (mkF m pc L (.int y :: .int x :: S)) := by
  subst hp; exact Go.st (fun _ k => XS.imul X.here hx rfl hd rfl k) h
theorem G_iand (X : Stand p l e R s m args below meth c T locs cells slots) (hx : p.tables.exec = Jvm.exec) {x y : Int32} (hp : pc + 1 = pc') (hd : decode c.code pc = .ok (.iand, 1))  (h : Go p e below s C N Q T (mkF m pc' L (.int (x &&& y) :: S))) : Go p e below s C N Q T (mkF m pc L (.int y :: .int x :: S)) := by
  subst hp; exact Go.st (fun _ k => XS.iand X.here hx rfl hd rfl k) h
theorem G_ior (X : Stand p l e R s m args below meth c T locs cells slots) (hx : p.tables.exec = Jvm.exec) {x y : Int32} (hp : pc + 1 = pc') (hd : decode c.code pc = .ok (.ior, 1))  (h : Go p e below s C N Q T (mkF m pc' L (.int (x ||| y) :: S))) : Go p e below s C N Q T (mkF m pc L (.int y :: .int x :: S)) := by
  subst hp; exact Go.st (fun _ k => XS.ior X.here hx rfl hd rfl k) h
theorem G_ixor (X : Stand p l e R s m args below meth c T locs cells slots) (hx : p.tables.exec = Jvm.exec) {x y : Int32} (hp : pc + 1 = pc') (hd : decode c.code pc = .ok (.ixor, 1))  (h : Go p e below s C N Q T (mkF m pc' L (.int (x ^^^ y) :: S))) : Go p e below s C N Q T (mkF m pc L (.int y :: .int x :: S)) := by
  subst hp; exact Go.st (fun _ k => XS.ixor X.here hx rfl hd rfl k) h
theorem G_ishl (X : Stand p l e R s m args below meth c T locs cells slots) (hx : p.tables.exec = Jvm.exec) {x y : Int32} (hp : pc + 1 = pc') (hd : decode c.code pc = .ok (.ishl, 1))  (h : Go p e below s C N Q T (mkF m pc' L (.int (x <<< (y &&& 31)) :: S))) : Go p e below s C N Q T (mkF m pc L (.int y :: .int x :: S)) := by
  subst hp; exact Go.st (fun _ k => XS.ishl X.here hx rfl hd rfl k) h
theorem G_ishr (X : Stand p l e R s m args below meth c T locs cells slots) (hx : p.tables.exec = Jvm.exec) {x y : Int32} (hp : pc + 1 = pc') (hd : decode c.code pc = .ok (.ishr, 1))  (h : Go p e below s C N Q T (mkF m pc' L (.int (x >>> (y &&& 31)) :: S))) : Go p e below s C N Q T (mkF m pc L (.int y :: .int x :: S)) := by
  subst hp; exact Go.st (fun _ k => XS.ishr X.here hx rfl hd rfl k) h
theorem G_iushr (X : Stand p l e R s m args below meth c T locs cells slots) (hx : p.tables.exec = Jvm.exec) {x y : Int32} (hp : pc + 1 = pc') (hd : decode c.code pc = .ok (.iushr, 1))  (h : Go p e below s C N Q T (mkF m pc' L (.int ((x.toUInt32 >>> (y &&& 31).toUInt32).toInt32) :: S))) : Go p e below s C N Q T (mkF m pc L (.int y :: .int x :: S)) := by
  subst hp; exact Go.st (fun _ k => XS.iushr X.here hx rfl hd rfl k) h
theorem G_ladd (X : Stand p l e R s m args below meth c T locs cells slots) (hx : p.tables.exec = Jvm.exec) {x y : Int64} (hp : pc + 1 = pc') (hd : decode c.code pc = .ok (.ladd, 1))  (h : Go p e below s C N Q T (mkF m pc' L (.long (x + y) :: S))) : Go p e below s C N Q T (mkF m pc L (.long y :: .long x :: S)) := by
  subst hp; exact Go.st (fun _ k => XS.ladd X.here hx rfl hd rfl k) h
theorem G_lsub (X : Stand p l e R s m args below meth c T locs cells slots) (hx : p.tables.exec = Jvm.exec) {x y : Int64} (hp : pc + 1 = pc') (hd : decode c.code pc = .ok (.lsub, 1))  (h : Go p e below s C N Q T (mkF m pc' L (.long (x - y) :: S))) : Go p e below s C N Q T (mkF m pc L (.long y :: .long x :: S)) := by
  subst hp; exact Go.st (fun _ k => XS.lsub X.here hx rfl hd rfl k) h
theorem G_lmul (X : Stand p l e R s m args below meth c T locs cells slots) (hx : p.tables.exec = Jvm.exec) {x y : Int64} (hp : pc + 1 = pc') (hd : decode c.code pc = .ok (.lmul, 1))  (h : Go p e below s C N Q T (mkF m pc' L (.long (x * y) :: S))) : Go p e below s C N Q T (mkF m pc L (.long y :: .long x :: S)) := by
  subst hp; exact Go.st (fun _ k => XS.lmul X.here hx rfl hd rfl k) h
theorem G_land (X : Stand p l e R s m args below meth c T locs cells slots) (hx : p.tables.exec = Jvm.exec) {x y : Int64} (hp : pc + 1 = pc') (hd : decode c.code pc = .ok (.land, 1))  (h : Go p e below s C N Q T (mkF m pc' L (.long (x &&& y) :: S))) : Go p e below s C N Q T (mkF m pc L (.long y :: .long x :: S)) := by
  subst hp; exact Go.st (fun _ k => XS.land X.here hx rfl hd rfl k) h
theorem G_lor (X : Stand p l e R s m args below meth c T locs cells slots) (hx : p.tables.exec = Jvm.exec) {x y : Int64} (hp : pc + 1 = pc') (hd : decode c.code pc = .ok (.lor, 1))  (h : Go p e below s C N Q T (mkF m pc' L (.long (x ||| y) :: S))) : Go p e below s C N Q T (mkF m pc L (.long y :: .long x :: S)) := by
  subst hp; exact Go.st (fun _ k => XS.lor X.here hx rfl hd rfl k) h
theorem G_lxor (X : Stand p l e R s m args below meth c T locs cells slots) (hx : p.tables.exec = Jvm.exec) {x y : Int64} (hp : pc + 1 = pc') (hd : decode c.code pc = .ok (.lxor, 1))  (h : Go p e below s C N Q T (mkF m pc' L (.long (x ^^^ y) :: S))) : Go p e below s C N Q T (mkF m pc L (.long y :: .long x :: S)) := by
  subst hp; exact Go.st (fun _ k => XS.lxor X.here hx rfl hd rfl k) h
theorem G_lshl (X : Stand p l e R s m args below meth c T locs cells slots) (hx : p.tables.exec = Jvm.exec) {x : Int64} {y : Int32} (hp : pc + 1 = pc') (hd : decode c.code pc = .ok (.lshl, 1))  (h : Go p e below s C N Q T (mkF m pc' L (.long (x <<< (y &&& 0x3f).toInt64) :: S))) : Go p e below s C N Q T (mkF m pc L (.int y :: .long x :: S)) := by
  subst hp; exact Go.st (fun _ k => XS.lshl X.here hx rfl hd rfl k) h
theorem G_lshr (X : Stand p l e R s m args below meth c T locs cells slots) (hx : p.tables.exec = Jvm.exec) {x : Int64} {y : Int32} (hp : pc + 1 = pc') (hd : decode c.code pc = .ok (.lshr, 1))  (h : Go p e below s C N Q T (mkF m pc' L (.long (x >>> (y &&& 0x3f).toInt64) :: S))) : Go p e below s C N Q T (mkF m pc L (.int y :: .long x :: S)) := by
  subst hp; exact Go.st (fun _ k => XS.lshr X.here hx rfl hd rfl k) h
theorem G_lushr (X : Stand p l e R s m args below meth c T locs cells slots) (hx : p.tables.exec = Jvm.exec) {x : Int64} {y : Int32} (hp : pc + 1 = pc') (hd : decode c.code pc = .ok (.lushr, 1))  (h : Go p e below s C N Q T (mkF m pc' L (.long ((x.toUInt64 >>> (y &&& 0x3f).toInt64.toUInt64).toInt64) :: S))) : Go p e below s C N Q T (mkF m pc L (.int y :: .long x :: S)) := by
  subst hp; exact Go.st (fun _ k => XS.lushr X.here hx rfl hd rfl k) h
theorem G_idiv (X : Stand p l e R s m args below meth c T locs cells slots) (hx : p.tables.exec = Jvm.exec) {x y : Int32} (hp : pc + 1 = pc') (hd : decode c.code pc = .ok (.idiv, 1)) (hy : y ≠ 0) (h : Go p e below s C N Q T (mkF m pc' L (.int (x / y) :: S))) : Go p e below s C N Q T (mkF m pc L (.int y :: .int x :: S)) := by
  subst hp; exact Go.st (fun _ k => XS.idiv X.here hx rfl hd rfl hy k) h
theorem G_irem (X : Stand p l e R s m args below meth c T locs cells slots) (hx : p.tables.exec = Jvm.exec) {x y : Int32} (hp : pc + 1 = pc') (hd : decode c.code pc = .ok (.irem, 1)) (hy : y ≠ 0) (h : Go p e below s C N Q T (mkF m pc' L (.int (x % y) :: S))) : Go p e below s C N Q T (mkF m pc L (.int y :: .int x :: S)) := by
  subst hp; exact Go.st (fun _ k => iremM X hx rfl hd rfl hy k) h
theorem G_ldiv (X : Stand p l e R s m args below meth c T locs cells slots) (hx : p.tables.exec = Jvm.exec) {x y : Int64} (hp : pc + 1 = pc') (hd : decode c.code pc = .ok (.ldiv, 1)) (hy : y ≠ 0) (h : Go p e below s C N Q T (mkF m pc' L (.long (x / y) :: S))) : Go p e below s C N Q T (mkF m pc L (.long y :: .long x :: S)) := by
  subst hp; exact Go.st (fun _ k => XS.ldiv X.here hx rfl hd rfl hy k) h
theorem G_lrem (X : Stand p l e R s m args below meth c T locs cells slots) (hx : p.tables.exec = Jvm.exec) {x y : Int64} (hp : pc + 1 = pc') (hd : decode c.code pc = .ok (.lrem, 1)) (hy : y ≠ 0) (h : Go p e below s C N Q T (mkF m pc' L (.long (x % y) :: S))) : Go p e below s C N Q T (mkF m pc L (.long y :: .long x :: S)) := by
  subst hp; exact Go.st (fun _ k => XS.lrem X.here hx rfl hd rfl hy (by rw [lrem_mod]; exact k)) h
theorem G_ineg (X : Stand p l e R s m args below meth c T locs cells slots) (hx : p.tables.exec = Jvm.exec) {x : Int32} (hp : pc + 1 = pc') (hd : decode c.code pc = .ok (.ineg, 1))  (h : Go p e below s C N Q T (mkF m pc' L (.int (-x) :: S))) : Go p e below s C N Q T (mkF m pc L (.int x :: S)) := by
  subst hp; exact Go.st (fun _ k => XS.ineg X.here hx rfl hd rfl k) h
theorem G_lneg (X : Stand p l e R s m args below meth c T locs cells slots) (hx : p.tables.exec = Jvm.exec) {x : Int64} (hp : pc + 1 = pc') (hd : decode c.code pc = .ok (.lneg, 1))  (h : Go p e below s C N Q T (mkF m pc' L (.long (-x) :: S))) : Go p e below s C N Q T (mkF m pc L (.long x :: S)) := by
  subst hp; exact Go.st (fun _ k => XS.lneg X.here hx rfl hd rfl k) h
theorem G_i2l (X : Stand p l e R s m args below meth c T locs cells slots) (hx : p.tables.exec = Jvm.exec) {x : Int32} (hp : pc + 1 = pc') (hd : decode c.code pc = .ok (.i2l, 1))  (h : Go p e below s C N Q T (mkF m pc' L (.long (x.toInt64) :: S))) : Go p e below s C N Q T (mkF m pc L (.int x :: S)) := by
  subst hp; exact Go.st (fun _ k => XS.i2l X.here hx rfl hd rfl k) h
theorem G_l2i (X : Stand p l e R s m args below meth c T locs cells slots) (hx : p.tables.exec = Jvm.exec) {x : Int64} (hp : pc + 1 = pc') (hd : decode c.code pc = .ok (.l2i, 1))  (h : Go p e below s C N Q T (mkF m pc' L (.int (x.toInt32) :: S))) : Go p e below s C N Q T (mkF m pc L (.long x :: S)) := by
  subst hp; exact Go.st (fun _ k => XS.l2i X.here hx rfl hd rfl k) h
theorem G_i2b (X : Stand p l e R s m args below meth c T locs cells slots) (hx : p.tables.exec = Jvm.exec) {x : Int32} (hp : pc + 1 = pc') (hd : decode c.code pc = .ok (.i2b, 1))  (h : Go p e below s C N Q T (mkF m pc' L (.int (x.toInt8.toInt32) :: S))) : Go p e below s C N Q T (mkF m pc L (.int x :: S)) := by
  subst hp; exact Go.st (fun _ k => XS.i2b X.here hx rfl hd rfl k) h
theorem G_i2s (X : Stand p l e R s m args below meth c T locs cells slots) (hx : p.tables.exec = Jvm.exec) {x : Int32} (hp : pc + 1 = pc') (hd : decode c.code pc = .ok (.i2s, 1))  (h : Go p e below s C N Q T (mkF m pc' L (.int (x.toInt16.toInt32) :: S))) : Go p e below s C N Q T (mkF m pc L (.int x :: S)) := by
  subst hp; exact Go.st (fun _ k => XS.i2s X.here hx rfl hd rfl k) h
theorem G_i2c (X : Stand p l e R s m args below meth c T locs cells slots) (hx : p.tables.exec = Jvm.exec) {x : Int32} (hp : pc + 1 = pc') (hd : decode c.code pc = .ok (.i2c, 1))  (h : Go p e below s C N Q T (mkF m pc' L (.int (x.toUInt32.toUInt16.toUInt32.toInt32) :: S))) : Go p e below s C N Q T (mkF m pc L (.int x :: S)) := by
  subst hp; exact Go.st (fun _ k => XS.i2c X.here hx rfl hd rfl k) h
theorem G_lcmp (X : Stand p l e R s m args below meth c T locs cells slots) (hx : p.tables.exec = Jvm.exec) {x y : Int64} (hp : pc + 1 = pc') (hd : decode c.code pc = .ok (.lcmp, 1))  (h : Go p e below s C N Q T (mkF m pc' L (.int (lcmpW x y) :: S))) : Go p e below s C N Q T (mkF m pc L (.long y :: .long x :: S)) := by
  subst hp; exact Go.st (fun _ k => XS.lcmp X.here hx rfl hd rfl k) h
theorem G_iinc (X : Stand p l e R s m args below meth c T locs cells slots) (hx : p.tables.exec = Jvm.exec) {k : Nat} {cst : Int} {x z : Int32} (hp : pc + 3 = pc') (hd : decode c.code pc = .ok (.iinc k cst, 3)) (hl : L[k]? = some (.val (.int x))) (hz : x + Int32.ofInt cst = z) (hl' : storeLocals L k (.int z) = some L') (h : Go p e below s C N Q T (mkF m pc' L' S)) : Go p e below s C N Q T (mkF m pc L S) := by
  subst hp; exact Go.st (fun _ k => XS.iinc X.here hx rfl hd hl (by rw [hz]; exact hl') k) h
theorem G_dup (X : Stand p l e R s m args below meth c T locs cells slots) (hx : p.tables.exec = Jvm.exec) {x : Value} (hp : pc + 1 = pc') (hd : decode c.code pc = .ok (.dup, 1)) (hc : x.category = 1) (h : Go p e below s C N Q T (mkF m pc' L (x :: x :: S))) : Go p e below s C N Q T (mkF m pc L (x :: S)) := by
  subst hp; exact Go.st (fun _ k => XS.dup X.here hx rfl hd rfl hc k) h
theorem G_pop (X : Stand p l e R s m args below meth c T locs cells slots) (hx : p.tables.exec = Jvm.exec) {x : Value} (hp : pc + 1 = pc') (hd : decode c.code pc = .ok (.pop, 1)) (hc : x.category = 1) (h : Go p e below s C N Q T (mkF m pc' L S)) : Go p e below s C N Q T (mkF m pc L (x :: S)) := by
  subst hp; exact Go.st (fun _ k => XS.pop X.here hx rfl hd rfl hc k) h
theorem G_dupX1 (X : Stand p l e R s m args below meth c T locs cells slots) (hx : p.tables.exec = Jvm.exec) {x y : Value} (hp : pc + 1 = pc') (hd : decode c.code pc = .ok (.dup_x1, 1)) (hc : x.category = 1) (hc' : y.category = 1) (h : Go p e below s C N Q T (mkF m pc' L (x :: y :: x :: S))) : Go p e below s C N Q T (mkF m pc L (x :: y :: S)) := by
  subst hp; exact Go.st (fun _ k => XS.dupX1 X.here hx rfl hd rfl hc hc' k) h
theorem G_goto (X : Stand p l e R s m args below meth c T locs cells slots) (hx : p.tables.exec = Jvm.exec)  {o : Int} (hd : decode c.code pc = .ok (.goto o, 3))  (ho : 0 ≤ (pc : Int) + o) (hp : ((pc : Int) + o).toNat = pc') (h : Go p e below s C N Q T (mkF m pc' L S)) : Go p e below s C N Q T (mkF m pc L S) :=
  Go.st (fun _ k => XS.goto X.here hx rfl rfl hd ho hp k) h
theorem G_ifYes (X : Stand p l e R s m args below meth c T locs cells slots) (hx : p.tables.exec = Jvm.exec) {cd : ClassFile.Cond} {x : Int32} {o : Int} (hd : decode c.code pc = .ok (.ifCond cd o, 3)) (hc : ifCond.holds cd x = true) (ho : 0 ≤ (pc : Int) + o) (hp : ((pc : Int) + o).toNat = pc') (h : Go p e below s C N Q T (mkF m pc' L S)) : Go p e below s C N Q T (mkF m pc L (.int x :: S)) :=
  Go.st (fun _ k => XS.ifYes X.here hx rfl rfl hd rfl hc ho hp k) h
theorem G_icmpYes (X : Stand p l e R s m args below meth c T locs cells slots) (hx : p.tables.exec = Jvm.exec) {cd : ClassFile.Cond} {x y : Int32} {o : Int} (hd : decode c.code pc = .ok (.if_icmp cd o, 3)) (hc : if_icmp.holds cd x y = true) (ho : 0 ≤ (pc : Int) + o) (hp : ((pc : Int) + o).toNat = pc') (h : Go p e below s C N Q T (mkF m pc' L S)) : Go p e below s C N Q T (mkF m pc L (.int y :: .int x :: S)) :=
  Go.st (fun _ k => XS.icmpYes X.here hx rfl rfl hd rfl hc ho hp k) h
theorem G_ifnullYes (X : Stand p l e R s m args below meth c T locs cells slots) (hx : p.tables.exec = Jvm.exec)  {o : Int} (hd : decode c.code pc = .ok (.ifnull o, 3))  (ho : 0 ≤ (pc : Int) + o) (hp : ((pc : Int) + o).toNat = pc') (h : Go p e below s C N Q T (mkF m pc' L S)) : Go p e below s C N Q T (mkF m pc L (.null :: S)) :=
  Go.st (fun _ k => XS.ifnullYes X.here hx rfl rfl hd rfl ho hp k) h
theorem G_ifnonnullYes (X : Stand p l e R s m args below meth c T locs cells slots) (hx : p.tables.exec = Jvm.exec) {b : Addr} {o : Int} (hd : decode c.code pc = .ok (.ifnonnull o, 3))  (ho : 0 ≤ (pc : Int) + o) (hp : ((pc : Int) + o).toNat = pc') (h : Go p e below s C N Q T (mkF m pc' L S)) : Go p e below s C N Q T (mkF m pc L (.ref b :: S)) :=
  Go.st (fun _ k => XS.ifnonnullYes X.here hx rfl rfl hd rfl ho hp k) h
theorem G_ifNo (X : Stand p l e R s m args below meth c T locs cells slots) (hx : p.tables.exec = Jvm.exec) {cd : ClassFile.Cond} {x : Int32} {o : Int} (hp : pc + 3 = pc') (hd : decode c.code pc = .ok (.ifCond cd o, 3)) (hc : ifCond.holds cd x = false) (h : Go p e below s C N Q T (mkF m pc' L S)) : Go p e below s C N Q T (mkF m pc L (.int x :: S)) := by
  subst hp; exact Go.st (fun _ k => XS.ifNo X.here hx rfl hd rfl hc k) h
theorem G_icmpNo (X : Stand p l e R s m args below meth c T locs cells slots) (hx : p.tables.exec = Jvm.exec) {cd : ClassFile.Cond} {x y : Int32} {o : Int} (hp : pc + 3 = pc') (hd : decode c.code pc = .ok (.if_icmp cd o, 3)) (hc : if_icmp.holds cd x y = false) (h : Go p e below s C N Q T (mkF m pc' L S)) : Go p e below s C N Q T (mkF m pc L (.int y :: .int x :: S)) := by
  subst hp; exact Go.st (fun _ k => XS.icmpNo X.here hx rfl hd rfl hc k) h
theorem G_ifnullNo (X : Stand p l e R s m args below meth c T locs cells slots) (hx : p.tables.exec = Jvm.exec) {b : Addr} {o : Int} (hp : pc + 3 = pc') (hd : decode c.code pc = .ok (.ifnull o, 3))  (h : Go p e below s C N Q T (mkF m pc' L S)) : Go p e below s C N Q T (mkF m pc L (.ref b :: S)) := by
  subst hp; exact Go.st (fun _ k => XS.ifnullNo X.here hx rfl hd rfl k) h
theorem G_ifnonnullNo (X : Stand p l e R s m args below meth c T locs cells slots) (hx : p.tables.exec = Jvm.exec) {o : Int} (hp : pc + 3 = pc') (hd : decode c.code pc = .ok (.ifnonnull o, 3))  (h : Go p e below s C N Q T (mkF m pc' L S)) : Go p e below s C N Q T (mkF m pc L (.null :: S)) := by
  subst hp; exact Go.st (fun _ k => XS.ifnonnullNo X.here hx rfl hd rfl k) h
theorem G_ldc (X : Stand p l e R s m args below meth c T locs cells slots) (hx : p.tables.exec = Jvm.exec) (hp : pc + 2 = pc') {own : String} {index : Nat} {v : Int32} (hown : s.vm.findClass own = some m.cls) (hw : (Cond.constant own index v).before args s = true) (hd : decode c.code pc = .ok (.ldc index, 2)) (h : Go p e below s C N Q T (mkF m pc' L (.int v :: S))) : Go p e below s C N Q T (mkF m pc L S) := by
  subst hp; exact Go.st (X.ldcInt hx hown hw (g := mkF m pc L S) rfl hd) h
theorem G_ldc2 (X : Stand p l e R s m args below meth c T locs cells slots) (hx : p.tables.exec = Jvm.exec) (hp : pc + 3 = pc') {own : String} {index : Nat} {v : Int64} (hown : s.vm.findClass own = some m.cls) (hw : (Cond.constantLong own index v).before args s = true) (hd : decode c.code pc = .ok (.ldc2_w index, 3)) (h : Go p e below s C N Q T (mkF m pc' L (.long v :: S))) : Go p e below s C N Q T (mkF m pc L S) := by
  subst hp; exact Go.st (X.ldc2Long hx hown hw (g := mkF m pc L S) rfl hd) h
end OwnG

section OwnArr
variable {p : Program} {l : Launch} {e : Env} {R : Room} {s : State} {m : MethodId} {args : Array Value} {below : List Frame} {meth : Method} {c : Code} {T T' : State} {locs : List Loc} {cells slots : Nat} {Z : State} {a0 : Array Value} {h h' : Heap} {a b : Addr} {ty : FieldType} {vs : List Value} {xs : List Int32} {ys : List Int64} {v : Value} {sl : Nat} {ws : List Addr}
/-- the array at a, of components ty, holds just these values -/
def AV (Z : State) (h : Heap) (a : Addr) (ty : FieldType) (vs : List Value) : Prop := ∃ c : Cell, Arr Z h a c ty ∧ c.slots = vs.toArray ∧ vs.length < 2147483648 ∧ ∀ v ∈ vs, fits ty v = true
def AI (Z : State) (h : Heap) (a : Addr) (ty : FieldType) (xs : List Int32) : Prop := AV Z h a ty (xs.map Value.int)
def AJ (Z : State) (h : Heap) (a : Addr) (ys : List Int64) : Prop := AV Z h a .long (ys.map Value.long)
theorem AV.lt (F : AV Z h a ty vs) : a < h.size := by obtain ⟨c, A, -⟩ := F; exact A.lt
theorem AV.ext (F : AV Z h a ty vs) (E : Ext h h') : AV Z h' a ty vs := by obtain ⟨c, A, r⟩ := F; exact ⟨c, A.ext E, r⟩
theorem AV.other (F : AV Z h b ty vs) (W : Wr h h' a sl v) (q : b ≠ a) : AV Z h' b ty vs := by obtain ⟨c, A, r⟩ := F; exact ⟨c, A.other W q, r⟩
theorem AV.keep (F : AV Z h a ty vs) (K : Keep h h' ws) (q : a ∉ ws) : AV Z h' a ty vs := by obtain ⟨c, A, r⟩ := F; exact ⟨c, ⟨K.2.1 a c A.1 q, A.2⟩, r⟩
theorem AI.lt (F : AI Z h a ty xs) : a < h.size := AV.lt F
theorem AI.ext (F : AI Z h a ty xs) (E : Ext h h') : AI Z h' a ty xs := AV.ext F E
theorem AI.other (F : AI Z h b ty xs) (W : Wr h h' a sl v) (q : b ≠ a) : AI Z h' b ty xs := AV.other F W q
theorem AI.keep (F : AI Z h a ty xs) (K : Keep h h' ws) (q : a ∉ ws) : AI Z h' a ty xs := AV.keep F K q
theorem AJ.lt (F : AJ Z h a ys) : a < h.size := AV.lt F
theorem AJ.ext (F : AJ Z h a ys) (E : Ext h h') : AJ Z h' a ys := AV.ext F E
theorem AJ.other (F : AJ Z h b ys) (W : Wr h h' a sl v) (q : b ≠ a) : AJ Z h' b ys := AV.other F W q
theorem AJ.keep (F : AJ Z h a ys) (K : Keep h h' ws) (q : a ∉ ws) : AJ Z h' a ys := AV.keep F K q
theorem own_in {j : Int32} {n : Nat} (h1 : ¬ j < 0) (h2 : j.toNatClampNeg < n) : ¬ (j < 0 ∨ n ≤ j.toNatClampNeg) := fun q => q.elim h1 (fun r => by omega)
theorem AV.new {k : ClassId} {n : Int32} (A : Arr Z h a (newA k ty n) ty) (q : ¬ n < 0) (hf : fits ty (defaultValue ty) = true) : AV Z h a ty (List.replicate n.toNatClampNeg (defaultValue ty)) := by
  refine ⟨_, A, by simp [newA], ?_, fun v hv => ?_⟩
  · rw [List.length_replicate]; exact (back32 q).2
  · rw [List.eq_of_mem_replicate hv]; exact hf
theorem AV.set {cl : Cell} {jn : Nat} (A : Arr Z h a cl ty) (e1 : cl.slots = vs.toArray) (e2 : vs.length < 2147483648) (e3 : ∀ v ∈ vs, fits ty v = true) (hv : fits ty v = true) (W : Wr h h' a jn v) : AV Z h' a ty (vs.set jn v) := by
  refine ⟨cl.setSlot jn v, A.same W, ?_, by rw [List.length_set]; exact e2, fun w hw => ?_⟩
  · simp [Cell.setSlot, e1]
  · rcases List.mem_or_eq_of_mem_set hw with q | q
    · exact e3 w q
    · rw [q]; exact hv
theorem newAI (X : Stand p l e R s m args below meth c T locs cells slots) (hx : p.tables.exec = Jvm.exec) (hZ : Z.Warmed39 s.vm) {aty : ArrayType} (w : (Cond.arrayClass (newarray.typeOf aty)).before a0 Z = true) (eT : T.heap = h) {g : JFrame} (hg : g.method = m) (hd : decode c.code g.pc = .ok (.newarray aty, 2)) {n : Int32} {rest : List Value} (hs : g.stack = .int n :: rest)
    (hn : ¬ n < 0) {ty : FieldType} (hty : newarray.typeOf aty = ty) (hdv : defaultValue ty = .int 0 ∧ fits ty (.int 0) = true) {cap : Nat} (hcap : n.toNatClampNeg ≤ cap) (hb : cap * 8 ≤ 536870912) (hc : cells + 1 ≤ R.cells) (hl : slots + cap ≤ R.slots) {ad : String} (had : "[" ++ (newarray.typeOf aty).toString = ad) :
    ∃ T' h', Stand p l e R s m args below meth c T' locs (cells + 1) (slots + cap) ∧ T'.heap = h' ∧ Ext h h' ∧ Exa Z h' h.size ad ∧ AI Z h' h.size ty (List.replicate n.toNatClampNeg 0) ∧
      ∀ target, Steps p.tables e below (T'.setTop { g with pc := g.pc + 2, stack := .ref h.size :: rest }) target → Steps p.tables e below (T.setTop g) target := by
  subst hty
  obtain ⟨T', h', cA, X', e', E', A', B', st⟩ := newPE X hx hZ w eT hg hd hs hn hcap hb hc hl had
  have V := AV.new A' hn (by rw [hdv.1]; exact hdv.2)
  refine ⟨T', h', X', e', E', B', ?_, st⟩
  unfold AI
  rw [List.map_replicate, ← hdv.1]
  exact V
theorem newAJ (X : Stand p l e R s m args below meth c T locs cells slots) (hx : p.tables.exec = Jvm.exec) (hZ : Z.Warmed39 s.vm) (w : (Cond.arrayClass .long).before a0 Z = true) (eT : T.heap = h) {g : JFrame} (hg : g.method = m) (hd : decode c.code g.pc = .ok (.newarray .long, 2)) {n : Int32} {rest : List Value} (hs : g.stack = .int n :: rest)
    (hn : ¬ n < 0) {cap : Nat} (hcap : n.toNatClampNeg ≤ cap) (hb : cap * 8 ≤ 536870912) (hc : cells + 1 ≤ R.cells) (hl : slots + cap ≤ R.slots) {ad : String} (had : "[" ++ (newarray.typeOf .long).toString = ad) :
    ∃ T' h', Stand p l e R s m args below meth c T' locs (cells + 1) (slots + cap) ∧ T'.heap = h' ∧ Ext h h' ∧ Exa Z h' h.size ad ∧ AJ Z h' h.size (List.replicate n.toNatClampNeg 0) ∧
      ∀ target, Steps p.tables e below (T'.setTop { g with pc := g.pc + 2, stack := .ref h.size :: rest }) target → Steps p.tables e below (T.setTop g) target := by
  obtain ⟨T', h', cA, X', e', E', A', B', st⟩ := newPE X hx hZ (aty := .long) w eT hg hd hs hn hcap hb hc hl had
  have V := AV.new A' hn rfl
  refine ⟨T', h', X', e', E', B', ?_, st⟩
  unfold AJ
  rw [List.map_replicate]
  exact V
theorem own_len {n : Nat} (h : n < 2147483648) : n.toInt32 = Int32.ofNat n := rfl
theorem lenAV (X : Stand p l e R s m args below meth c T locs cells slots) (hx : p.tables.exec = Jvm.exec) (hZ : Z.Warmed39 s.vm) (eT : T.heap = h) (A : AV Z h a ty vs) {g : JFrame} (hg : g.method = m) {rest : List Value} (hs : g.stack = .ref a :: rest) (hd : decode c.code g.pc = .ok (.arraylength, 1)) :
    ∀ target, Steps p.tables e below (T.setTop { g with pc := g.pc + 1, stack := .int (Int32.ofNat vs.length) :: rest }) target → Steps p.tables e below (T.setTop g) target := by
  obtain ⟨cl, A, e1, e2, e3⟩ := A
  intro target k
  have hl : cl.slots.size.toInt32 = Int32.ofNat vs.length := by rw [e1]; rfl
  refine X.arraylength hx (cell := cl) (by rw [eT]; exact A.1) (State.isArrayOf_alike hZ.alike A.2.1) hg hs hd _ ?_
  rw [hl]; exact k
theorem lenAI (X : Stand p l e R s m args below meth c T locs cells slots) (hx : p.tables.exec = Jvm.exec) (hZ : Z.Warmed39 s.vm) (eT : T.heap = h) (A : AI Z h a ty xs) {g : JFrame} (hg : g.method = m) {rest : List Value} (hs : g.stack = .ref a :: rest) (hd : decode c.code g.pc = .ok (.arraylength, 1)) :
    ∀ target, Steps p.tables e below (T.setTop { g with pc := g.pc + 1, stack := .int (Int32.ofNat xs.length) :: rest }) target → Steps p.tables e below (T.setTop g) target := by
  have k := lenAV X hx hZ eT A hg hs hd
  rw [List.length_map] at k; exact k
theorem lenAJ (X : Stand p l e R s m args below meth c T locs cells slots) (hx : p.tables.exec = Jvm.exec) (hZ : Z.Warmed39 s.vm) (eT : T.heap = h) (A : AJ Z h a ys) {g : JFrame} (hg : g.method = m) {rest : List Value} (hs : g.stack = .ref a :: rest) (hd : decode c.code g.pc = .ok (.arraylength, 1)) :
    ∀ target, Steps p.tables e below (T.setTop { g with pc := g.pc + 1, stack := .int (Int32.ofNat ys.length) :: rest }) target → Steps p.tables e below (T.setTop g) target := by
  have k := lenAV X hx hZ eT A hg hs hd
  rw [List.length_map] at k; exact k
theorem own_getI {jn : Nat} (h2 : jn < xs.length) : (xs.map Value.int).toArray[jn]? = some (.int (xs.getD jn 0)) := by
  simp [List.getD_eq_getElem?_getD, h2]
theorem own_getJ {jn : Nat} (h2 : jn < ys.length) : (ys.map Value.long).toArray[jn]? = some (.long (ys.getD jn 0)) := by
  simp [List.getD_eq_getElem?_getD, h2]
theorem ldAI (X : Stand p l e R s m args below meth c T locs cells slots) (hx : p.tables.exec = Jvm.exec) (hZ : Z.Warmed39 s.vm) (eT : T.heap = h) (A : AI Z h a .int xs) {j : Int32} (h1 : ¬ j < 0) (h2 : j.toNatClampNeg < xs.length) {g : JFrame} (hg : g.method = m) {rest : List Value} (hs : g.stack = .int j :: .ref a :: rest) (hd : decode c.code g.pc = .ok (.iaload, 1)) :
    ∀ target, Steps p.tables e below (T.setTop { g with pc := g.pc + 1, stack := .int (xs.getD j.toNatClampNeg 0) :: rest }) target → Steps p.tables e below (T.setTop g) target := by
  obtain ⟨cl, A, e1, e2, e3⟩ := A
  intro target k
  refine X.iaload hx (cell := cl) (by rw [eT]; exact A.1) (State.isArrayOf_alike hZ.alike A.2.1) A.2.2 (own_in h1 (by rw [e1]; simpa using h2)) (by rw [e1]; exact own_getI h2) hg hs hd _ k
theorem ldAB (X : Stand p l e R s m args below meth c T locs cells slots) (hx : p.tables.exec = Jvm.exec) (hZ : Z.Warmed39 s.vm) (eT : T.heap = h) (A : AI Z h a .byte xs) {j : Int32} (h1 : ¬ j < 0) (h2 : j.toNatClampNeg < xs.length) {g : JFrame} (hg : g.method = m) {rest : List Value} (hs : g.stack = .int j :: .ref a :: rest) (hd : decode c.code g.pc = .ok (.baload, 1)) :
    ∀ target, Steps p.tables e below (T.setTop { g with pc := g.pc + 1, stack := .int (xs.getD j.toNatClampNeg 0) :: rest }) target → Steps p.tables e below (T.setTop g) target := by
  obtain ⟨cl, A, e1, e2, e3⟩ := A
  intro target k
  refine X.baloadBytes hx (cell := cl) (by rw [eT]; exact A.1) (State.isArrayOf_alike hZ.alike A.2.1) A.2.2 (own_in h1 (by rw [e1]; simpa using h2)) (by rw [e1]; exact own_getI h2) hg hs hd _ k
theorem ldAJ (X : Stand p l e R s m args below meth c T locs cells slots) (hx : p.tables.exec = Jvm.exec) (hZ : Z.Warmed39 s.vm) (eT : T.heap = h) (A : AJ Z h a ys) {j : Int32} (h1 : ¬ j < 0) (h2 : j.toNatClampNeg < ys.length) {g : JFrame} (hg : g.method = m) {rest : List Value} (hs : g.stack = .int j :: .ref a :: rest) (hd : decode c.code g.pc = .ok (.laload, 1)) :
    ∀ target, Steps p.tables e below (T.setTop { g with pc := g.pc + 1, stack := .long (ys.getD j.toNatClampNeg 0) :: rest }) target → Steps p.tables e below (T.setTop g) target := by
  obtain ⟨cl, A, e1, e2, e3⟩ := A
  intro target k
  refine X.laload hx (cell := cl) (by rw [eT]; exact A.1) (State.isArrayOf_alike hZ.alike A.2.1) A.2.2 (own_in h1 (by rw [e1]; simpa using h2)) (by rw [e1]; exact own_getJ h2) hg hs hd _ k
theorem stAI (X : Stand p l e R s m args below meth c T locs cells slots) (hx : p.tables.exec = Jvm.exec) (hZ : Z.Warmed39 s.vm) (eT : T.heap = h) (A : AI Z h a .int xs) {j x : Int32} (h1 : ¬ j < 0) (h2 : j.toNatClampNeg < xs.length) {g : JFrame} (hg : g.method = m) {rest : List Value} (hs : g.stack = .int x :: .int j :: .ref a :: rest) (hd : decode c.code g.pc = .ok (.iastore, 1)) :
    ∃ T' h', Stand p l e R s m args below meth c T' (locs ++ [⟨a, j.toNatClampNeg⟩]) cells slots ∧ T'.heap = h' ∧ Wr h h' a j.toNatClampNeg (.int x) ∧ AI Z h' a .int (xs.set j.toNatClampNeg x) ∧ ∀ target, Steps p.tables e below (T'.setTop { g with pc := g.pc + 1, stack := rest }) target → Steps p.tables e below (T.setTop g) target := by
  obtain ⟨cl, A, e1, e2, e3⟩ := A
  obtain ⟨T', h', X', e', W', st⟩ := stI X hx hZ eT A (own_in h1 (by rw [e1]; simpa using h2)) hg hs hd
  refine ⟨T', h', X', e', W', ?_, st⟩
  unfold AI
  rw [List.map_set]
  exact AV.set A e1 e2 e3 rfl W'
theorem stAB (X : Stand p l e R s m args below meth c T locs cells slots) (hx : p.tables.exec = Jvm.exec) (hZ : Z.Warmed39 s.vm) (eT : T.heap = h) (A : AI Z h a .byte xs) {j x : Int32} (h1 : ¬ j < 0) (h2 : j.toNatClampNeg < xs.length) {g : JFrame} (hg : g.method = m) {rest : List Value} (hs : g.stack = .int x :: .int j :: .ref a :: rest) (hd : decode c.code g.pc = .ok (.bastore, 1)) :
    ∃ T' h', Stand p l e R s m args below meth c T' (locs ++ [⟨a, j.toNatClampNeg⟩]) cells slots ∧ T'.heap = h' ∧ Wr h h' a j.toNatClampNeg (.int (x.toInt8.toInt32)) ∧ AI Z h' a .byte (xs.set j.toNatClampNeg (x.toInt8.toInt32)) ∧ ∀ target, Steps p.tables e below (T'.setTop { g with pc := g.pc + 1, stack := rest }) target → Steps p.tables e below (T.setTop g) target := by
  obtain ⟨cl, A, e1, e2, e3⟩ := A
  obtain ⟨T', h', X', e', W', st⟩ := stB X hx hZ eT A (own_in h1 (by rw [e1]; simpa using h2)) hg hs hd
  refine ⟨T', h', X', e', W', ?_, st⟩
  unfold AI
  rw [List.map_set]
  exact AV.set A e1 e2 e3 (fits_nar_byte x) W'
theorem own_b2 (y : Int32) : (y.toInt8.toInt32).toInt8.toInt32 = y.toInt8.toInt32 := by simp
theorem stABn (X : Stand p l e R s m args below meth c T locs cells slots) (hx : p.tables.exec = Jvm.exec) (hZ : Z.Warmed39 s.vm) (eT : T.heap = h) (A : AI Z h a .byte xs) {j y : Int32} (h1 : ¬ j < 0) (h2 : j.toNatClampNeg < xs.length) {g : JFrame} (hg : g.method = m) {rest : List Value} (hs : g.stack = .int (y.toInt8.toInt32) :: .int j :: .ref a :: rest) (hd : decode c.code g.pc = .ok (.bastore, 1)) :
    ∃ T' h', Stand p l e R s m args below meth c T' (locs ++ [⟨a, j.toNatClampNeg⟩]) cells slots ∧ T'.heap = h' ∧ Wr h h' a j.toNatClampNeg (.int (y.toInt8.toInt32)) ∧ AI Z h' a .byte (xs.set j.toNatClampNeg (y.toInt8.toInt32)) ∧ ∀ target, Steps p.tables e below (T'.setTop { g with pc := g.pc + 1, stack := rest }) target → Steps p.tables e below (T.setTop g) target := by
  have k := stAB X hx hZ eT A h1 h2 hg hs hd
  rw [own_b2] at k
  exact k
theorem stAJ (X : Stand p l e R s m args below meth c T locs cells slots) (hx : p.tables.exec = Jvm.exec) (hZ : Z.Warmed39 s.vm) (eT : T.heap = h) (A : AJ Z h a ys) {j : Int32} {x : Int64} (h1 : ¬ j < 0) (h2 : j.toNatClampNeg < ys.length) {g : JFrame} (hg : g.method = m) {rest : List Value} (hs : g.stack = .long x :: .int j :: .ref a :: rest) (hd : decode c.code g.pc = .ok (.lastore, 1)) :
    ∃ T' h', Stand p l e R s m args below meth c T' (locs ++ [⟨a, j.toNatClampNeg⟩]) cells slots ∧ T'.heap = h' ∧ Wr h h' a j.toNatClampNeg (.long x) ∧ AJ Z h' a (ys.set j.toNatClampNeg x) ∧ ∀ target, Steps p.tables e below (T'.setTop { g with pc := g.pc + 1, stack := rest }) target → Steps p.tables e below (T.setTop g) target := by
  obtain ⟨cl, A, e1, e2, e3⟩ := A
  obtain ⟨T', h', X', e', W', st⟩ := stJ X hx hZ eT A (own_in h1 (by rw [e1]; simpa using h2)) hg hs hd
  refine ⟨T', h', X', e', W', ?_, st⟩
  unfold AJ
  rw [List.map_set]
  exact AV.set A e1 e2 e3 rfl W'
end OwnArr
section OwnClone
variable {p : Program} {l : Launch} {e : Env} {R : Room} {s : State} {m : MethodId} {args : Array Value} {below : List Frame} {meth : Method} {c : Code} {T T' : State} {locs : List Loc} {cells slots : Nat} {Z : State} {a0 : Array Value} {h h' : Heap} {a b : Addr} {ty : FieldType} {xs : List Int32}
theorem cloneAI (X : Stand p l e R s m args below meth c T locs cells slots) (hx : p.tables.exec = Jvm.exec) (hZ : Z.Warmed39 s.vm) {own ad : String} {index : Nat} (hown : s.vm.findClass own = some m.cls)
    (w1 : (Cond.methodLink own index ⟨ad, "clone", "()Ljava/lang/Object;"⟩).before a0 Z = true) (w2 : (Cond.sameMethod ad "java/lang/Object" "clone" "()Ljava/lang/Object;").before a0 Z = true) (w3 : (Cond.native ⟨"java/lang/Object", "clone", "()Ljava/lang/Object;"⟩).before a0 Z = true)
    (w4 : (Cond.instanceMethod ⟨"java/lang/Object", "clone", "()Ljava/lang/Object;"⟩).before a0 Z = true) (w5 : (Cond.selects ad ⟨ad, "clone", "()Ljava/lang/Object;"⟩ ⟨"java/lang/Object", "clone", "()Ljava/lang/Object;"⟩).before a0 Z = true) (w6 : (Cond.castable ad "java/lang/Cloneable").before a0 Z = true)
    (eT : T.heap = h) (A : AI Z h a ty xs) (E : Exa Z h a ad) {g : JFrame} (hg : g.method = m) (hsize : g.locals.size = c.maxLocals) {rest : List Value} (hst : g.stack = .ref a :: rest) (hd : decode c.code g.pc = .ok (.invokevirtual index, 3))
    (hf : 1 ≤ R.frames) {W cap : Nat} (hW : 2 * g.monitorRoom + (rest.map fun v => v.category).sum ≤ W) (hl : W + 14 ≤ R.locals) (hcap : xs.length ≤ cap) (hc : cells + 1 ≤ R.cells) (hsl : slots + cap ≤ R.slots) :
    ∃ T' h', Stand p l e R s m args below meth c T' locs (cells + 1) (slots + cap) ∧ T'.heap = h' ∧ Ext h h' ∧ Exa Z h' h.size ad ∧ AI Z h' h.size ty xs ∧
      ∀ target, Steps p.tables e below (T'.setTop { g with pc := g.pc + 3, stack := .ref h.size :: rest }) target → Steps p.tables e below (T.setTop g) target := by
  obtain ⟨cl, A, e1, e2, e3⟩ := A
  have FC : FitC Z cl := fitC_of A fun i hi v hv => by
    rw [e1] at hv
    exact e3 v (by simpa using Array.mem_of_getElem? hv)
  obtain ⟨T', h', X', e', ex, A', E', st⟩ := cloneA X hx hZ hown w1 w2 w3 w4 w5 w6 eT A E FC hg hsize hst hd hf hW hl (by rw [e1]; simpa using hcap) hc hsl
  exact ⟨T', h', X', e', ex, E', ⟨_, A', e1, e2, e3⟩, st⟩
end OwnClone


theorem d_merge0_0 : decode prog_40_method_10_code 0 = .ok (.iconst 0, 1) := by decide +kernel
theorem d_merge0_1 : decode prog_40_method_10_code 1 = .ok (.istore_n 1, 1) := by decide +kernel
theorem d_merge0_2 : decode prog_40_method_10_code 2 = .ok (.lconst 0, 1) := by decide +kernel
theorem d_merge0_3 : decode prog_40_method_10_code 3 = .ok (.lstore_n 2, 1) := by decide +kernel
theorem d_merge0_4 : decode prog_40_method_10_code 4 = .ok (.iconst 0, 1) := by decide +kernel
theorem d_merge0_5 : decode prog_40_method_10_code 5 = .ok (.istore 4, 2) := by decide +kernel
theorem d_merge0_7 : decode prog_40_method_10_code 7 = .ok (.iload 4, 2) := by decide +kernel
theorem d_merge0_9 : decode prog_40_method_10_code 9 = .ok (.aload_n 0, 1) := by decide +kernel
theorem d_merge0_10 : decode prog_40_method_10_code 10 = .ok (.arraylength, 1) := by decide +kernel
theorem d_merge0_11 : decode prog_40_method_10_code 11 = .ok (.if_icmp .ge 30, 3) := by decide +kernel
theorem d_merge0_41 : decode prog_40_method_10_code 41 = .ok (.iload_n 1, 1) := by decide +kernel
theorem d_merge0_42 : decode prog_40_method_10_code 42 = .ok (.ireturn, 1) := by decide +kernel
def f_merge0  : Int32 := (0 : Int32)
theorem ef_merge0 (m : MethodId) (v0 : Addr) : entryFrame m #[(.ref v0)] 5 = mkF m 0 #[.val (.ref v0), .unset, .unset, .unset, .unset] [] := by first | (simp [entryFrame, mkF, argsToLocals, Value.category]; done) | rfl
def Q_merge0 (Z : State) (v0 : Addr) (h0 : Heap) (n0 : Nat) (v : Option Value) (h : Heap) (L : List Loc) : Prop := v = some (.int (f_merge0)) ∧ Fr n0 L ∧ h = h0
set_option maxRecDepth 65536 in
set_option maxHeartbeats 40000000 in
theorem rm_merge0 (l : Launch) (Z : State) (a0 : Array Value) (hw : ∀ d ∈ tables_1, d.before a0 Z = true) (ws : List Jvm.Cond) (v0 : Addr) (h0 : Heap) (n0 : Nat) (Z0 : n0 ≤ h0.size) (f0_J_v0 : AJ Z h0 v0 []) :
    MetFree l (⟨"com/example/quern/quern/core/TreeUpdate", "mergeCount", "([J)I"⟩ : MethodName) (head1 (Jvm.Cond.code (⟨"com/example/quern/quern/core/TreeUpdate", "mergeCount", "([J)I"⟩ : MethodName) prog_40_method_10_code 5 (some .int) :: ws) ({ frames := 0, cells := 0, slots := 0, locals := 0 } : Room)) (fun a U => a = #[(.ref v0)] ∧ Z.Warmed39 U.vm ∧ U.heap = h0) (fun _ _ _ _ _ => True) (fun _ U o U' => ∃ v L, o = .returned v ∧ Q_merge0 Z v0 h0 n0 v U'.heap L ∧ FrameEnd U o U' L ({ frames := 0, cells := 0, slots := 0, locals := 0 } : Room).cells ({ frames := 0, cells := 0, slots := 0, locals := 0 } : Room).slots) := by
  refine MetFree.of_bodySF (plainFor_of_name (by first | (simp [plainName, overriddenIn]; done) | decide +kernel)) hisR ?_
  intro p e s m args below meth c s₁ Bd hml0 hP hK
  obtain ⟨rfl, hZ, hh⟩ := hP
  have hx := Bd.exec
  have hby := Bd.bytes
  have hml : c.maxLocals = 5 := hml0
  have hown : s.vm.findClass "com/example/quern/quern/core/TreeUpdate" = some m.cls := findClass_of_methodNamed Bd.named
  have hnm := (name_of_methodNamed Bd.named Bd.method).1
  have hlk : meth.locks = false := Bd.notSynchronized
  have X0 : Stand p l e ({ frames := 0, cells := 0, slots := 0, locals := 0 } : Room) s m #[(.ref v0)] below meth c s₁ [] 0 0 := Stand.of_body Bd
  have e0 : s₁.heap = h0 := by rw [← hh, Bd.state]; rfl
  have N0 := Fr.nil n0
  refine Go.enter (Q := Q_merge0 Z v0 h0 n0) (C := ({ frames := 0, cells := 0, slots := 0, locals := 0 } : Room).cells) (N := ({ frames := 0, cells := 0, slots := 0, locals := 0 } : Room).slots) (ef_merge0 m v0) ?_
  show Go p e below s _ _ _ s₁ (mkF m 0 #[.val (.ref v0), .unset, .unset, .unset, .unset] [])
  refine G_iconst X0 hx (pc' := 1) rfl (hb hby d_merge0_0) (z := (0 : Int32)) rfl ?_
  refine G_istoreN X0 hx (pc' := 2) rfl (hb hby d_merge0_1) (L' := #[.val (.ref v0), .val (.int (0 : Int32)), .unset, .unset, .unset]) rfl ?_
  refine G_lconst X0 hx (pc' := 3) rfl (hb hby d_merge0_2) (z := (0 : Int64)) rfl ?_
  refine G_lstoreN X0 hx (pc' := 4) rfl (hb hby d_merge0_3) (L' := #[.val (.ref v0), .val (.int (0 : Int32)), .val (.long (0 : Int64)), .second, .unset]) rfl ?_
  refine G_iconst X0 hx (pc' := 5) rfl (hb hby d_merge0_4) (z := (0 : Int32)) rfl ?_
  refine G_istore X0 hx (pc' := 7) rfl (hb hby d_merge0_5) (L' := #[.val (.ref v0), .val (.int (0 : Int32)), .val (.long (0 : Int64)), .second, .val (.int (0 : Int32))]) rfl ?_
  refine G_iload X0 hx (pc' := 9) rfl (hb hby d_merge0_7) rfl ?_
  refine G_aloadN X0 hx (pc' := 10) rfl (hb hby d_merge0_9) rfl rfl ?_
  refine Go.st (lenAJ X0 hx hZ e0 f0_J_v0 (g := (mkF m 10 #[.val (.ref v0), .val (.int (0 : Int32)), .val (.long (0 : Int64)), .second, .val (.int (0 : Int32))] [(.ref v0), (.int (0 : Int32))])) rfl rfl (hb hby d_merge0_10)) ?_
  show Go p e below s _ _ _ s₁ (mkF m 11 #[.val (.ref v0), .val (.int (0 : Int32)), .val (.long (0 : Int64)), .second, .val (.int (0 : Int32))] [(.int (0 : Int32)), (.int (0 : Int32))])
  refine G_icmpYes X0 hx (pc' := 41) (hb hby d_merge0_11) (flt (by decide : ¬ ((0 : Int32) < (0 : Int32)))).2.1 (by decide) (by decide) ?_
  refine G_iloadN X0 hx (pc' := 42) rfl (hb hby d_merge0_41) rfl ?_
  refine Go.fin X0 hlk (v := some (.int (0 : Int32))) (fun h => by rw [Bd.returns] at h; cases h) (by decide) (by decide) ?_ (fun fs hr => retOut X0 hx Bd.returns rfl (Or.inl ⟨rfl, Or.inl rfl, _, rfl⟩) (hb hby d_merge0_42) hr)
  show Q_merge0 Z v0 h0 n0 _ s₁.heap _
  rw [e0]
  exact ⟨congrArg (fun z => some (Value.int z)) (by rw [f_merge0]), N0, rfl⟩
theorem d_exp0_0 : decode method_3_code 0 = .ok (.lload_n 1, 1) := by decide +kernel
theorem d_exp0_1 : decode method_3_code 1 = .ok (.lstore 9, 2) := by decide +kernel
theorem d_exp0_3 : decode method_3_code 3 = .ok (.lload_n 1, 1) := by decide +kernel
theorem d_exp0_4 : decode method_3_code 4 = .ok (.lload_n 3, 1) := by decide +kernel
theorem d_exp0_5 : decode method_3_code 5 = .ok (.ladd, 1) := by decide +kernel
theorem d_exp0_6 : decode method_3_code 6 = .ok (.lstore 11, 2) := by decide +kernel
theorem d_exp0_8 : decode method_3_code 8 = .ok (.lload_n 1, 1) := by decide +kernel
theorem d_exp0_9 : decode method_3_code 9 = .ok (.lload_n 3, 1) := by decide +kernel
theorem d_exp0_10 : decode method_3_code 10 = .ok (.ladd, 1) := by decide +kernel
theorem d_exp0_11 : decode method_3_code 11 = .ok (.lload 5, 2) := by decide +kernel
theorem d_exp0_13 : decode method_3_code 13 = .ok (.ladd, 1) := by decide +kernel
theorem d_exp0_14 : decode method_3_code 14 = .ok (.lstore 13, 2) := by decide +kernel
theorem d_exp0_16 : decode method_3_code 16 = .ok (.iload_n 0, 1) := by decide +kernel
theorem d_exp0_17 : decode method_3_code 17 = .ok (.iconst 4, 1) := by decide +kernel
theorem d_exp0_18 : decode method_3_code 18 = .ok (.if_icmp .lt 13, 3) := by decide +kernel
theorem d_exp0_31 : decode method_3_code 31 = .ok (.iload_n 0, 1) := by decide +kernel
theorem d_exp0_32 : decode method_3_code 32 = .ok (.iconst 3, 1) := by decide +kernel
theorem d_exp0_33 : decode method_3_code 33 = .ok (.if_icmp .lt 13, 3) := by decide +kernel
theorem d_exp0_46 : decode method_3_code 46 = .ok (.iload_n 0, 1) := by decide +kernel
theorem d_exp0_47 : decode method_3_code 47 = .ok (.iconst 2, 1) := by decide +kernel
theorem d_exp0_48 : decode method_3_code 48 = .ok (.if_icmp .lt 12, 3) := by decide +kernel
theorem d_exp0_60 : decode method_3_code 60 = .ok (.iload_n 0, 1) := by decide +kernel
theorem d_exp0_61 : decode method_3_code 61 = .ok (.iconst 1, 1) := by decide +kernel
theorem d_exp0_62 : decode method_3_code 62 = .ok (.if_icmp .lt 11, 3) := by decide +kernel
theorem d_exp0_73 : decode method_3_code 73 = .ok (.iconst 0, 1) := by decide +kernel
theorem d_exp0_74 : decode method_3_code 74 = .ok (.ireturn, 1) := by decide +kernel
def f_exp0 (v1 : Int64) (v2 : Int64) (v3 : Int64) (v4 : Int64) : Int32 := (0 : Int32)
theorem ef_exp0 (m : MethodId) (v1 : Int64) (v2 : Int64) (v3 : Int64) (v4 : Int64) : entryFrame m #[(.int (0 : Int32)), (.long v1), (.long v2), (.long v3), (.long v4)] 15 = mkF m 0 #[.val (.int (0 : Int32)), .val (.long v1), .second, .val (.long v2), .second, .val (.long v3), .second, .val (.long v4), .second, .unset, .unset, .unset, .unset, .unset, .unset] [] := by first | (simp [entryFrame, mkF, argsToLocals, Value.category]; done) | rfl
def Q_exp0 (Z : State) (v1 : Int64) (v2 : Int64) (v3 : Int64) (v4 : Int64) (h0 : Heap) (n0 : Nat) (v : Option Value) (h : Heap) (L : List Loc) : Prop := v = some (.int (f_exp0 v1 v2 v3 v4)) ∧ Fr n0 L ∧ h = h0
set_option maxRecDepth 65536 in
set_option maxHeartbeats 40000000 in
theorem rm_exp0 (l : Launch) (Z : State) (a0 : Array Value) (hw : ∀ d ∈ tables_1, d.before a0 Z = true) (ws : List Jvm.Cond) (v1 : Int64) (v2 : Int64) (v3 : Int64) (v4 : Int64) (h0 : Heap) (n0 : Nat) (Z0 : n0 ≤ h0.size) :
    MetFree l (⟨"com/example/quern/quern/core/TreeUpdateMergeCountPinLaw", "expected", "(IJJJJ)I"⟩ : MethodName) (head1 (Jvm.Cond.code (⟨"com/example/quern/quern/core/TreeUpdateMergeCountPinLaw", "expected", "(IJJJJ)I"⟩ : MethodName) method_3_code 15 (some .int) :: ws) ({ frames := 0, cells := 0, slots := 0, locals := 0 } : Room)) (fun a U => a = #[(.int (0 : Int32)), (.long v1), (.long v2), (.long v3), (.long v4)] ∧ Z.Warmed39 U.vm ∧ U.heap = h0) (fun _ _ _ _ _ => True) (fun _ U o U' => ∃ v L, o = .returned v ∧ Q_exp0 Z v1 v2 v3 v4 h0 n0 v U'.heap L ∧ FrameEnd U o U' L ({ frames := 0, cells := 0, slots := 0, locals := 0 } : Room).cells ({ frames := 0, cells := 0, slots := 0, locals := 0 } : Room).slots) := by
  refine MetFree.of_bodySF (plainFor_of_name (by first | (simp [plainName, overriddenIn]; done) | decide +kernel)) hisR ?_
  intro p e s m args below meth c s₁ Bd hml0 hP hK
  obtain ⟨rfl, hZ, hh⟩ := hP
  have hx := Bd.exec
  have hby := Bd.bytes
  have hml : c.maxLocals = 15 := hml0
  have hown : s.vm.findClass "com/example/quern/quern/core/TreeUpdateMergeCountPinLaw" = some m.cls := findClass_of_methodNamed Bd.named
  have hnm := (name_of_methodNamed Bd.named Bd.method).1
  have hlk : meth.locks = false := Bd.notSynchronized
  have X0 : Stand p l e ({ frames := 0, cells := 0, slots := 0, locals := 0 } : Room) s m #[(.int (0 : Int32)), (.long v1), (.long v2), (.long v3), (.long v4)] below meth c s₁ [] 0 0 := Stand.of_body Bd
  have e0 : s₁.heap = h0 := by rw [← hh, Bd.state]; rfl
  have N0 := Fr.nil n0
  refine Go.enter (Q := Q_exp0 Z v1 v2 v3 v4 h0 n0) (C := ({ frames := 0, cells := 0, slots := 0, locals := 0 } : Room).cells) (N := ({ frames := 0, cells := 0, slots := 0, locals := 0 } : Room).slots) (ef_exp0 m v1 v2 v3 v4) ?_
  show Go p e below s _ _ _ s₁ (mkF m 0 #[.val (.int (0 : Int32)), .val (.long v1), .second, .val (.long v2), .second, .val (.long v3), .second, .val (.long v4), .second, .unset, .unset, .unset, .unset, .unset, .unset] [])
  refine G_lloadN X0 hx (pc' := 1) rfl (hb hby d_exp0_0) rfl ?_
  refine G_lstore X0 hx (pc' := 3) rfl (hb hby d_exp0_1) (L' := #[.val (.int (0 : Int32)), .val (.long v1), .second, .val (.long v2), .second, .val (.long v3), .second, .val (.long v4), .second, .val (.long v1), .second, .unset, .unset, .unset, .unset]) rfl ?_
  refine G_lloadN X0 hx (pc' := 4) rfl (hb hby d_exp0_3) rfl ?_
  refine G_lloadN X0 hx (pc' := 5) rfl (hb hby d_exp0_4) rfl ?_
  refine G_ladd X0 hx (pc' := 6) rfl (hb hby d_exp0_5)  ?_
  refine G_lstore X0 hx (pc' := 8) rfl (hb hby d_exp0_6) (L' := #[.val (.int (0 : Int32)), .val (.long v1), .second, .val (.long v2), .second, .val (.long v3), .second, .val (.long v4), .second, .val (.long v1), .second, .val (.long (v1 + v2)), .second, .unset, .unset]) rfl ?_
  refine G_lloadN X0 hx (pc' := 9) rfl (hb hby d_exp0_8) rfl ?_
  refine G_lloadN X0 hx (pc' := 10) rfl (hb hby d_exp0_9) rfl ?_
  refine G_ladd X0 hx (pc' := 11) rfl (hb hby d_exp0_10)  ?_
  refine G_lload X0 hx (pc' := 13) rfl (hb hby d_exp0_11) rfl ?_
  refine G_ladd X0 hx (pc' := 14) rfl (hb hby d_exp0_13)  ?_
  refine G_lstore X0 hx (pc' := 16) rfl (hb hby d_exp0_14) (L' := #[.val (.int (0 : Int32)), .val (.long v1), .second, .val (.long v2), .second, .val (.long v3), .second, .val (.long v4), .second, .val (.long v1), .second, .val (.long (v1 + v2)), .second, .val (.long ((v1 + v2) + v3)), .second]) rfl ?_
  refine G_iloadN X0 hx (pc' := 17) rfl (hb hby d_exp0_16) rfl ?_
  refine G_iconst X0 hx (pc' := 18) rfl (hb hby d_exp0_17) (z := (4 : Int32)) rfl ?_
  refine G_icmpYes X0 hx (pc' := 31) (hb hby d_exp0_18) (tlt (by decide : (0 : Int32) < (4 : Int32))).1 (by decide) (by decide) ?_
  refine G_iloadN X0 hx (pc' := 32) rfl (hb hby d_exp0_31) rfl ?_
  refine G_iconst X0 hx (pc' := 33) rfl (hb hby d_exp0_32) (z := (3 : Int32)) rfl ?_
  refine G_icmpYes X0 hx (pc' := 46) (hb hby d_exp0_33) (tlt (by decide : (0 : Int32) < (3 : Int32))).1 (by decide) (by decide) ?_
  refine G_iloadN X0 hx (pc' := 47) rfl (hb hby d_exp0_46) rfl ?_
  refine G_iconst X0 hx (pc' := 48) rfl (hb hby d_exp0_47) (z := (2 : Int32)) rfl ?_
  refine G_icmpYes X0 hx (pc' := 60) (hb hby d_exp0_48) (tlt (by decide : (0 : Int32) < (2 : Int32))).1 (by decide) (by decide) ?_
  refine G_iloadN X0 hx (pc' := 61) rfl (hb hby d_exp0_60) rfl ?_
  refine G_iconst X0 hx (pc' := 62) rfl (hb hby d_exp0_61) (z := (1 : Int32)) rfl ?_
  refine G_icmpYes X0 hx (pc' := 73) (hb hby d_exp0_62) (tlt (by decide : (0 : Int32) < (1 : Int32))).1 (by decide) (by decide) ?_
  refine G_iconst X0 hx (pc' := 74) rfl (hb hby d_exp0_73) (z := (0 : Int32)) rfl ?_
  refine Go.fin X0 hlk (v := some (.int (0 : Int32))) (fun h => by rw [Bd.returns] at h; cases h) (by decide) (by decide) ?_ (fun fs hr => retOut X0 hx Bd.returns rfl (Or.inl ⟨rfl, Or.inl rfl, _, rfl⟩) (hb hby d_exp0_74) hr)
  show Q_exp0 Z v1 v2 v3 v4 h0 n0 _ s₁.heap _
  rw [e0]
  exact ⟨congrArg (fun z => some (Value.int z)) (by rw [f_exp0]), N0, rfl⟩
theorem own_m0 (v1 v2 v3 v4 : Int64) : f_merge0 = f_exp0 v1 v2 v3 v4 := by
  unfold f_merge0 f_exp0
  simp only [Int64.zero_add]
  repeat' split
  all_goals first | rfl | (exfalso; simp_all; done) | simp_all
theorem d_merge1_0 : decode prog_40_method_10_code 0 = .ok (.iconst 0, 1) := by decide +kernel
theorem d_merge1_1 : decode prog_40_method_10_code 1 = .ok (.istore_n 1, 1) := by decide +kernel
theorem d_merge1_2 : decode prog_40_method_10_code 2 = .ok (.lconst 0, 1) := by decide +kernel
theorem d_merge1_3 : decode prog_40_method_10_code 3 = .ok (.lstore_n 2, 1) := by decide +kernel
theorem d_merge1_4 : decode prog_40_method_10_code 4 = .ok (.iconst 0, 1) := by decide +kernel
theorem d_merge1_5 : decode prog_40_method_10_code 5 = .ok (.istore 4, 2) := by decide +kernel
theorem d_merge1_7 : decode prog_40_method_10_code 7 = .ok (.iload 4, 2) := by decide +kernel
theorem d_merge1_9 : decode prog_40_method_10_code 9 = .ok (.aload_n 0, 1) := by decide +kernel
theorem d_merge1_10 : decode prog_40_method_10_code 10 = .ok (.arraylength, 1) := by decide +kernel
theorem d_merge1_11 : decode prog_40_method_10_code 11 = .ok (.if_icmp .ge 30, 3) := by decide +kernel
theorem d_merge1_14 : decode prog_40_method_10_code 14 = .ok (.aload_n 0, 1) := by decide +kernel
theorem d_merge1_15 : decode prog_40_method_10_code 15 = .ok (.iload 4, 2) := by decide +kernel
theorem d_merge1_17 : decode prog_40_method_10_code 17 = .ok (.laload, 1) := by decide +kernel
theorem d_merge1_18 : decode prog_40_method_10_code 18 = .ok (.lload_n 2, 1) := by decide +kernel
theorem d_merge1_19 : decode prog_40_method_10_code 19 = .ok (.lcmp, 1) := by decide +kernel
theorem d_merge1_20 : decode prog_40_method_10_code 20 = .ok (.ifCond .gt 8, 3) := by decide +kernel
theorem d_merge1_28 : decode prog_40_method_10_code 28 = .ok (.lload_n 2, 1) := by decide +kernel
theorem d_merge1_29 : decode prog_40_method_10_code 29 = .ok (.aload_n 0, 1) := by decide +kernel
theorem d_merge1_30 : decode prog_40_method_10_code 30 = .ok (.iload 4, 2) := by decide +kernel
theorem d_merge1_32 : decode prog_40_method_10_code 32 = .ok (.laload, 1) := by decide +kernel
theorem d_merge1_33 : decode prog_40_method_10_code 33 = .ok (.ladd, 1) := by decide +kernel
theorem d_merge1_34 : decode prog_40_method_10_code 34 = .ok (.lstore_n 2, 1) := by decide +kernel
theorem d_merge1_35 : decode prog_40_method_10_code 35 = .ok (.iinc 4 1, 3) := by decide +kernel
theorem d_merge1_38 : decode prog_40_method_10_code 38 = .ok (.goto (-31), 3) := by decide +kernel
theorem d_merge1_41 : decode prog_40_method_10_code 41 = .ok (.iload_n 1, 1) := by decide +kernel
theorem d_merge1_42 : decode prog_40_method_10_code 42 = .ok (.ireturn, 1) := by decide +kernel
theorem d_merge1_23 : decode prog_40_method_10_code 23 = .ok (.iload 4, 2) := by decide +kernel
theorem d_merge1_25 : decode prog_40_method_10_code 25 = .ok (.iconst 1, 1) := by decide +kernel
theorem d_merge1_26 : decode prog_40_method_10_code 26 = .ok (.iadd, 1) := by decide +kernel
theorem d_merge1_27 : decode prog_40_method_10_code 27 = .ok (.istore_n 1, 1) := by decide +kernel
def f_merge1 (y0 : Int64) : Int32 := (if (0 : Int64) < y0 then (0 : Int32) else (1 : Int32))
theorem ef_merge1 (m : MethodId) (v0 : Addr) : entryFrame m #[(.ref v0)] 5 = mkF m 0 #[.val (.ref v0), .unset, .unset, .unset, .unset] [] := by first | (simp [entryFrame, mkF, argsToLocals, Value.category]; done) | rfl
def Q_merge1 (Z : State) (v0 : Addr) (y0 : Int64) (h0 : Heap) (n0 : Nat) (v : Option Value) (h : Heap) (L : List Loc) : Prop := v = some (.int (f_merge1 y0)) ∧ Fr n0 L ∧ h = h0
set_option maxRecDepth 65536 in
set_option maxHeartbeats 40000000 in
theorem rm_merge1 (l : Launch) (Z : State) (a0 : Array Value) (hw : ∀ d ∈ tables_1, d.before a0 Z = true) (ws : List Jvm.Cond) (v0 : Addr) (y0 : Int64) (h0 : Heap) (n0 : Nat) (Z0 : n0 ≤ h0.size) (f0_J_v0 : AJ Z h0 v0 [y0]) :
    MetFree l (⟨"com/example/quern/quern/core/TreeUpdate", "mergeCount", "([J)I"⟩ : MethodName) (head1 (Jvm.Cond.code (⟨"com/example/quern/quern/core/TreeUpdate", "mergeCount", "([J)I"⟩ : MethodName) prog_40_method_10_code 5 (some .int) :: ws) ({ frames := 0, cells := 0, slots := 0, locals := 0 } : Room)) (fun a U => a = #[(.ref v0)] ∧ Z.Warmed39 U.vm ∧ U.heap = h0) (fun _ _ _ _ _ => True) (fun _ U o U' => ∃ v L, o = .returned v ∧ Q_merge1 Z v0 y0 h0 n0 v U'.heap L ∧ FrameEnd U o U' L ({ frames := 0, cells := 0, slots := 0, locals := 0 } : Room).cells ({ frames := 0, cells := 0, slots := 0, locals := 0 } : Room).slots) := by
  refine MetFree.of_bodySF (plainFor_of_name (by first | (simp [plainName, overriddenIn]; done) | decide +kernel)) hisR ?_
  intro p e s m args below meth c s₁ Bd hml0 hP hK
  obtain ⟨rfl, hZ, hh⟩ := hP
  have hx := Bd.exec
  have hby := Bd.bytes
  have hml : c.maxLocals = 5 := hml0
  have hown : s.vm.findClass "com/example/quern/quern/core/TreeUpdate" = some m.cls := findClass_of_methodNamed Bd.named
  have hnm := (name_of_methodNamed Bd.named Bd.method).1
  have hlk : meth.locks = false := Bd.notSynchronized
  have X0 : Stand p l e ({ frames := 0, cells := 0, slots := 0, locals := 0 } : Room) s m #[(.ref v0)] below meth c s₁ [] 0 0 := Stand.of_body Bd
  have e0 : s₁.heap = h0 := by rw [← hh, Bd.state]; rfl
  have N0 := Fr.nil n0
  refine Go.enter (Q := Q_merge1 Z v0 y0 h0 n0) (C := ({ frames := 0, cells := 0, slots := 0, locals := 0 } : Room).cells) (N := ({ frames := 0, cells := 0, slots := 0, locals := 0 } : Room).slots) (ef_merge1 m v0) ?_
  show Go p e below s _ _ _ s₁ (mkF m 0 #[.val (.ref v0), .unset, .unset, .unset, .unset] [])
  refine G_iconst X0 hx (pc' := 1) rfl (hb hby d_merge1_0) (z := (0 : Int32)) rfl ?_
  refine G_istoreN X0 hx (pc' := 2) rfl (hb hby d_merge1_1) (L' := #[.val (.ref v0), .val (.int (0 : Int32)), .unset, .unset, .unset]) rfl ?_
  refine G_lconst X0 hx (pc' := 3) rfl (hb hby d_merge1_2) (z := (0 : Int64)) rfl ?_
  refine G_lstoreN X0 hx (pc' := 4) rfl (hb hby d_merge1_3) (L' := #[.val (.ref v0), .val (.int (0 : Int32)), .val (.long (0 : Int64)), .second, .unset]) rfl ?_
  refine G_iconst X0 hx (pc' := 5) rfl (hb hby d_merge1_4) (z := (0 : Int32)) rfl ?_
  refine G_istore X0 hx (pc' := 7) rfl (hb hby d_merge1_5) (L' := #[.val (.ref v0), .val (.int (0 : Int32)), .val (.long (0 : Int64)), .second, .val (.int (0 : Int32))]) rfl ?_
  refine G_iload X0 hx (pc' := 9) rfl (hb hby d_merge1_7) rfl ?_
  refine G_aloadN X0 hx (pc' := 10) rfl (hb hby d_merge1_9) rfl rfl ?_
  refine Go.st (lenAJ X0 hx hZ e0 f0_J_v0 (g := (mkF m 10 #[.val (.ref v0), .val (.int (0 : Int32)), .val (.long (0 : Int64)), .second, .val (.int (0 : Int32))] [(.ref v0), (.int (0 : Int32))])) rfl rfl (hb hby d_merge1_10)) ?_
  show Go p e below s _ _ _ s₁ (mkF m 11 #[.val (.ref v0), .val (.int (0 : Int32)), .val (.long (0 : Int64)), .second, .val (.int (0 : Int32))] [(.int (1 : Int32)), (.int (0 : Int32))])
  refine G_icmpNo X0 hx (pc' := 14) rfl (hb hby d_merge1_11) (tlt (by decide : (0 : Int32) < (1 : Int32))).2.1 ?_
  refine G_aloadN X0 hx (pc' := 15) rfl (hb hby d_merge1_14) rfl rfl ?_
  refine G_iload X0 hx (pc' := 17) rfl (hb hby d_merge1_15) rfl ?_
  refine Go.st (ldAJ X0 hx hZ e0 f0_J_v0 (j := (0 : Int32)) (by decide) (show Int32.toNatClampNeg 0 < 1 from by decide) (g := (mkF m 17 #[.val (.ref v0), .val (.int (0 : Int32)), .val (.long (0 : Int64)), .second, .val (.int (0 : Int32))] [(.int (0 : Int32)), (.ref v0)])) rfl rfl (hb hby d_merge1_17)) ?_
  show Go p e below s _ _ _ s₁ (mkF m 18 #[.val (.ref v0), .val (.int (0 : Int32)), .val (.long (0 : Int64)), .second, .val (.int (0 : Int32))] [(.long y0)])
  refine G_lloadN X0 hx (pc' := 19) rfl (hb hby d_merge1_18) rfl ?_
  refine G_lcmp X0 hx (pc' := 20) rfl (hb hby d_merge1_19)  ?_
  by_cases hc20_1 : (0 : Int64) < y0
  · refine G_ifYes X0 hx (pc' := 28) (hb hby d_merge1_20) ((if0 _ _).trans (tlt ((lw_gt _ _).2 hc20_1)).2.2.1) (by decide) (by decide) ?_
    refine G_lloadN X0 hx (pc' := 29) rfl (hb hby d_merge1_28) rfl ?_
    refine G_aloadN X0 hx (pc' := 30) rfl (hb hby d_merge1_29) rfl rfl ?_
    refine G_iload X0 hx (pc' := 32) rfl (hb hby d_merge1_30) rfl ?_
    refine Go.st (ldAJ X0 hx hZ e0 f0_J_v0 (j := (0 : Int32)) (by decide) (show Int32.toNatClampNeg 0 < 1 from by decide) (g := (mkF m 32 #[.val (.ref v0), .val (.int (0 : Int32)), .val (.long (0 : Int64)), .second, .val (.int (0 : Int32))] [(.int (0 : Int32)), (.ref v0), (.long (0 : Int64))])) rfl rfl (hb hby d_merge1_32)) ?_
    show Go p e below s _ _ _ s₁ (mkF m 33 #[.val (.ref v0), .val (.int (0 : Int32)), .val (.long (0 : Int64)), .second, .val (.int (0 : Int32))] [(.long y0), (.long (0 : Int64))])
    refine G_ladd X0 hx (pc' := 34) rfl (hb hby d_merge1_33)  ?_
    refine G_lstoreN X0 hx (pc' := 35) rfl (hb hby d_merge1_34) (L' := #[.val (.ref v0), .val (.int (0 : Int32)), .val (.long ((0 : Int64) + y0)), .second, .val (.int (0 : Int32))]) rfl ?_
    refine G_iinc X0 hx (pc' := 38) rfl (hb hby d_merge1_35) rfl (z := (1 : Int32)) rfl (L' := #[.val (.ref v0), .val (.int (0 : Int32)), .val (.long ((0 : Int64) + y0)), .second, .val (.int (1 : Int32))]) rfl ?_
    refine G_goto X0 hx (pc' := 7) (hb hby d_merge1_38)  (by decide) (by decide) ?_
    refine G_iload X0 hx (pc' := 9) rfl (hb hby d_merge1_7) rfl ?_
    refine G_aloadN X0 hx (pc' := 10) rfl (hb hby d_merge1_9) rfl rfl ?_
    refine Go.st (lenAJ X0 hx hZ e0 f0_J_v0 (g := (mkF m 10 #[.val (.ref v0), .val (.int (0 : Int32)), .val (.long ((0 : Int64) + y0)), .second, .val (.int (1 : Int32))] [(.ref v0), (.int (1 : Int32))])) rfl rfl (hb hby d_merge1_10)) ?_
    show Go p e below s _ _ _ s₁ (mkF m 11 #[.val (.ref v0), .val (.int (0 : Int32)), .val (.long ((0 : Int64) + y0)), .second, .val (.int (1 : Int32))] [(.int (1 : Int32)), (.int (1 : Int32))])
    refine G_icmpYes X0 hx (pc' := 41) (hb hby d_merge1_11) (flt (by decide : ¬ ((1 : Int32) < (1 : Int32)))).2.1 (by decide) (by decide) ?_
    refine G_iloadN X0 hx (pc' := 42) rfl (hb hby d_merge1_41) rfl ?_
    refine Go.fin X0 hlk (v := some (.int (0 : Int32))) (fun h => by rw [Bd.returns] at h; cases h) (by decide) (by decide) ?_ (fun fs hr => retOut X0 hx Bd.returns rfl (Or.inl ⟨rfl, Or.inl rfl, _, rfl⟩) (hb hby d_merge1_42) hr)
    show Q_merge1 Z v0 y0 h0 n0 _ s₁.heap _
    rw [e0]
    exact ⟨congrArg (fun z => some (Value.int z)) (by rw [f_merge1]; rw [if_pos hc20_1]), N0, rfl⟩
  · refine G_ifNo X0 hx (pc' := 23) rfl (hb hby d_merge1_20) ((if0 _ _).trans (flt (fun q => hc20_1 ((lw_gt _ _).1 q))).2.2.1) ?_
    refine G_iload X0 hx (pc' := 25) rfl (hb hby d_merge1_23) rfl ?_
    refine G_iconst X0 hx (pc' := 26) rfl (hb hby d_merge1_25) (z := (1 : Int32)) rfl ?_
    refine G_iadd X0 hx (pc' := 27) rfl (hb hby d_merge1_26)  ?_
    rw [show ((0 : Int32) + (1 : Int32)) = (1 : Int32) from by decide]
    refine G_istoreN X0 hx (pc' := 28) rfl (hb hby d_merge1_27) (L' := #[.val (.ref v0), .val (.int (1 : Int32)), .val (.long (0 : Int64)), .second, .val (.int (0 : Int32))]) rfl ?_
    refine G_lloadN X0 hx (pc' := 29) rfl (hb hby d_merge1_28) rfl ?_
    refine G_aloadN X0 hx (pc' := 30) rfl (hb hby d_merge1_29) rfl rfl ?_
    refine G_iload X0 hx (pc' := 32) rfl (hb hby d_merge1_30) rfl ?_
    refine Go.st (ldAJ X0 hx hZ e0 f0_J_v0 (j := (0 : Int32)) (by decide) (show Int32.toNatClampNeg 0 < 1 from by decide) (g := (mkF m 32 #[.val (.ref v0), .val (.int (1 : Int32)), .val (.long (0 : Int64)), .second, .val (.int (0 : Int32))] [(.int (0 : Int32)), (.ref v0), (.long (0 : Int64))])) rfl rfl (hb hby d_merge1_32)) ?_
    show Go p e below s _ _ _ s₁ (mkF m 33 #[.val (.ref v0), .val (.int (1 : Int32)), .val (.long (0 : Int64)), .second, .val (.int (0 : Int32))] [(.long y0), (.long (0 : Int64))])
    refine G_ladd X0 hx (pc' := 34) rfl (hb hby d_merge1_33)  ?_
    refine G_lstoreN X0 hx (pc' := 35) rfl (hb hby d_merge1_34) (L' := #[.val (.ref v0), .val (.int (1 : Int32)), .val (.long ((0 : Int64) + y0)), .second, .val (.int (0 : Int32))]) rfl ?_
    refine G_iinc X0 hx (pc' := 38) rfl (hb hby d_merge1_35) rfl (z := (1 : Int32)) rfl (L' := #[.val (.ref v0), .val (.int (1 : Int32)), .val (.long ((0 : Int64) + y0)), .second, .val (.int (1 : Int32))]) rfl ?_
    refine G_goto X0 hx (pc' := 7) (hb hby d_merge1_38)  (by decide) (by decide) ?_
    refine G_iload X0 hx (pc' := 9) rfl (hb hby d_merge1_7) rfl ?_
    refine G_aloadN X0 hx (pc' := 10) rfl (hb hby d_merge1_9) rfl rfl ?_
    refine Go.st (lenAJ X0 hx hZ e0 f0_J_v0 (g := (mkF m 10 #[.val (.ref v0), .val (.int (1 : Int32)), .val (.long ((0 : Int64) + y0)), .second, .val (.int (1 : Int32))] [(.ref v0), (.int (1 : Int32))])) rfl rfl (hb hby d_merge1_10)) ?_
    show Go p e below s _ _ _ s₁ (mkF m 11 #[.val (.ref v0), .val (.int (1 : Int32)), .val (.long ((0 : Int64) + y0)), .second, .val (.int (1 : Int32))] [(.int (1 : Int32)), (.int (1 : Int32))])
    refine G_icmpYes X0 hx (pc' := 41) (hb hby d_merge1_11) (flt (by decide : ¬ ((1 : Int32) < (1 : Int32)))).2.1 (by decide) (by decide) ?_
    refine G_iloadN X0 hx (pc' := 42) rfl (hb hby d_merge1_41) rfl ?_
    refine Go.fin X0 hlk (v := some (.int (1 : Int32))) (fun h => by rw [Bd.returns] at h; cases h) (by decide) (by decide) ?_ (fun fs hr => retOut X0 hx Bd.returns rfl (Or.inl ⟨rfl, Or.inl rfl, _, rfl⟩) (hb hby d_merge1_42) hr)
    show Q_merge1 Z v0 y0 h0 n0 _ s₁.heap _
    rw [e0]
    exact ⟨congrArg (fun z => some (Value.int z)) (by rw [f_merge1]; rw [if_neg hc20_1]), N0, rfl⟩
theorem d_exp1_0 : decode method_3_code 0 = .ok (.lload_n 1, 1) := by decide +kernel
theorem d_exp1_1 : decode method_3_code 1 = .ok (.lstore 9, 2) := by decide +kernel
theorem d_exp1_3 : decode method_3_code 3 = .ok (.lload_n 1, 1) := by decide +kernel
theorem d_exp1_4 : decode method_3_code 4 = .ok (.lload_n 3, 1) := by decide +kernel
theorem d_exp1_5 : decode method_3_code 5 = .ok (.ladd, 1) := by decide +kernel
theorem d_exp1_6 : decode method_3_code 6 = .ok (.lstore 11, 2) := by decide +kernel
theorem d_exp1_8 : decode method_3_code 8 = .ok (.lload_n 1, 1) := by decide +kernel
theorem d_exp1_9 : decode method_3_code 9 = .ok (.lload_n 3, 1) := by decide +kernel
theorem d_exp1_10 : decode method_3_code 10 = .ok (.ladd, 1) := by decide +kernel
theorem d_exp1_11 : decode method_3_code 11 = .ok (.lload 5, 2) := by decide +kernel
theorem d_exp1_13 : decode method_3_code 13 = .ok (.ladd, 1) := by decide +kernel
theorem d_exp1_14 : decode method_3_code 14 = .ok (.lstore 13, 2) := by decide +kernel
theorem d_exp1_16 : decode method_3_code 16 = .ok (.iload_n 0, 1) := by decide +kernel
theorem d_exp1_17 : decode method_3_code 17 = .ok (.iconst 4, 1) := by decide +kernel
theorem d_exp1_18 : decode method_3_code 18 = .ok (.if_icmp .lt 13, 3) := by decide +kernel
theorem d_exp1_31 : decode method_3_code 31 = .ok (.iload_n 0, 1) := by decide +kernel
theorem d_exp1_32 : decode method_3_code 32 = .ok (.iconst 3, 1) := by decide +kernel
theorem d_exp1_33 : decode method_3_code 33 = .ok (.if_icmp .lt 13, 3) := by decide +kernel
theorem d_exp1_46 : decode method_3_code 46 = .ok (.iload_n 0, 1) := by decide +kernel
theorem d_exp1_47 : decode method_3_code 47 = .ok (.iconst 2, 1) := by decide +kernel
theorem d_exp1_48 : decode method_3_code 48 = .ok (.if_icmp .lt 12, 3) := by decide +kernel
theorem d_exp1_60 : decode method_3_code 60 = .ok (.iload_n 0, 1) := by decide +kernel
theorem d_exp1_61 : decode method_3_code 61 = .ok (.iconst 1, 1) := by decide +kernel
theorem d_exp1_62 : decode method_3_code 62 = .ok (.if_icmp .lt 11, 3) := by decide +kernel
theorem d_exp1_65 : decode method_3_code 65 = .ok (.lload_n 1, 1) := by decide +kernel
theorem d_exp1_66 : decode method_3_code 66 = .ok (.lconst 0, 1) := by decide +kernel
theorem d_exp1_67 : decode method_3_code 67 = .ok (.lcmp, 1) := by decide +kernel
theorem d_exp1_68 : decode method_3_code 68 = .ok (.ifCond .gt 5, 3) := by decide +kernel
theorem d_exp1_73 : decode method_3_code 73 = .ok (.iconst 0, 1) := by decide +kernel
theorem d_exp1_74 : decode method_3_code 74 = .ok (.ireturn, 1) := by decide +kernel
theorem d_exp1_71 : decode method_3_code 71 = .ok (.iconst 1, 1) := by decide +kernel
theorem d_exp1_72 : decode method_3_code 72 = .ok (.ireturn, 1) := by decide +kernel
def f_exp1 (v1 : Int64) (v2 : Int64) (v3 : Int64) (v4 : Int64) : Int32 := (if (0 : Int64) < v1 then (0 : Int32) else (1 : Int32))
theorem ef_exp1 (m : MethodId) (v1 : Int64) (v2 : Int64) (v3 : Int64) (v4 : Int64) : entryFrame m #[(.int (1 : Int32)), (.long v1), (.long v2), (.long v3), (.long v4)] 15 = mkF m 0 #[.val (.int (1 : Int32)), .val (.long v1), .second, .val (.long v2), .second, .val (.long v3), .second, .val (.long v4), .second, .unset, .unset, .unset, .unset, .unset, .unset] [] := by first | (simp [entryFrame, mkF, argsToLocals, Value.category]; done) | rfl
def Q_exp1 (Z : State) (v1 : Int64) (v2 : Int64) (v3 : Int64) (v4 : Int64) (h0 : Heap) (n0 : Nat) (v : Option Value) (h : Heap) (L : List Loc) : Prop := v = some (.int (f_exp1 v1 v2 v3 v4)) ∧ Fr n0 L ∧ h = h0
set_option maxRecDepth 65536 in
set_option maxHeartbeats 40000000 in
theorem rm_exp1 (l : Launch) (Z : State) (a0 : Array Value) (hw : ∀ d ∈ tables_1, d.before a0 Z = true) (ws : List Jvm.Cond) (v1 : Int64) (v2 : Int64) (v3 : Int64) (v4 : Int64) (h0 : Heap) (n0 : Nat) (Z0 : n0 ≤ h0.size) :
    MetFree l (⟨"com/example/quern/quern/core/TreeUpdateMergeCountPinLaw", "expected", "(IJJJJ)I"⟩ : MethodName) (head1 (Jvm.Cond.code (⟨"com/example/quern/quern/core/TreeUpdateMergeCountPinLaw", "expected", "(IJJJJ)I"⟩ : MethodName) method_3_code 15 (some .int) :: ws) ({ frames := 0, cells := 0, slots := 0, locals := 0 } : Room)) (fun a U => a = #[(.int (1 : Int32)), (.long v1), (.long v2), (.long v3), (.long v4)] ∧ Z.Warmed39 U.vm ∧ U.heap = h0) (fun _ _ _ _ _ => True) (fun _ U o U' => ∃ v L, o = .returned v ∧ Q_exp1 Z v1 v2 v3 v4 h0 n0 v U'.heap L ∧ FrameEnd U o U' L ({ frames := 0, cells := 0, slots := 0, locals := 0 } : Room).cells ({ frames := 0, cells := 0, slots := 0, locals := 0 } : Room).slots) := by
  refine MetFree.of_bodySF (plainFor_of_name (by first | (simp [plainName, overriddenIn]; done) | decide +kernel)) hisR ?_
  intro p e s m args below meth c s₁ Bd hml0 hP hK
  obtain ⟨rfl, hZ, hh⟩ := hP
  have hx := Bd.exec
  have hby := Bd.bytes
  have hml : c.maxLocals = 15 := hml0
  have hown : s.vm.findClass "com/example/quern/quern/core/TreeUpdateMergeCountPinLaw" = some m.cls := findClass_of_methodNamed Bd.named
  have hnm := (name_of_methodNamed Bd.named Bd.method).1
  have hlk : meth.locks = false := Bd.notSynchronized
  have X0 : Stand p l e ({ frames := 0, cells := 0, slots := 0, locals := 0 } : Room) s m #[(.int (1 : Int32)), (.long v1), (.long v2), (.long v3), (.long v4)] below meth c s₁ [] 0 0 := Stand.of_body Bd
  have e0 : s₁.heap = h0 := by rw [← hh, Bd.state]; rfl
  have N0 := Fr.nil n0
  refine Go.enter (Q := Q_exp1 Z v1 v2 v3 v4 h0 n0) (C := ({ frames := 0, cells := 0, slots := 0, locals := 0 } : Room).cells) (N := ({ frames := 0, cells := 0, slots := 0, locals := 0 } : Room).slots) (ef_exp1 m v1 v2 v3 v4) ?_
  show Go p e below s _ _ _ s₁ (mkF m 0 #[.val (.int (1 : Int32)), .val (.long v1), .second, .val (.long v2), .second, .val (.long v3), .second, .val (.long v4), .second, .unset, .unset, .unset, .unset, .unset, .unset] [])
  refine G_lloadN X0 hx (pc' := 1) rfl (hb hby d_exp1_0) rfl ?_
  refine G_lstore X0 hx (pc' := 3) rfl (hb hby d_exp1_1) (L' := #[.val (.int (1 : Int32)), .val (.long v1), .second, .val (.long v2), .second, .val (.long v3), .second, .val (.long v4), .second, .val (.long v1), .second, .unset, .unset, .unset, .unset]) rfl ?_
  refine G_lloadN X0 hx (pc' := 4) rfl (hb hby d_exp1_3) rfl ?_
  refine G_lloadN X0 hx (pc' := 5) rfl (hb hby d_exp1_4) rfl ?_
  refine G_ladd X0 hx (pc' := 6) rfl (hb hby d_exp1_5)  ?_
  refine G_lstore X0 hx (pc' := 8) rfl (hb hby d_exp1_6) (L' := #[.val (.int (1 : Int32)), .val (.long v1), .second, .val (.long v2), .second, .val (.long v3), .second, .val (.long v4), .second, .val (.long v1), .second, .val (.long (v1 + v2)), .second, .unset, .unset]) rfl ?_
  refine G_lloadN X0 hx (pc' := 9) rfl (hb hby d_exp1_8) rfl ?_
  refine G_lloadN X0 hx (pc' := 10) rfl (hb hby d_exp1_9) rfl ?_
  refine G_ladd X0 hx (pc' := 11) rfl (hb hby d_exp1_10)  ?_
  refine G_lload X0 hx (pc' := 13) rfl (hb hby d_exp1_11) rfl ?_
  refine G_ladd X0 hx (pc' := 14) rfl (hb hby d_exp1_13)  ?_
  refine G_lstore X0 hx (pc' := 16) rfl (hb hby d_exp1_14) (L' := #[.val (.int (1 : Int32)), .val (.long v1), .second, .val (.long v2), .second, .val (.long v3), .second, .val (.long v4), .second, .val (.long v1), .second, .val (.long (v1 + v2)), .second, .val (.long ((v1 + v2) + v3)), .second]) rfl ?_
  refine G_iloadN X0 hx (pc' := 17) rfl (hb hby d_exp1_16) rfl ?_
  refine G_iconst X0 hx (pc' := 18) rfl (hb hby d_exp1_17) (z := (4 : Int32)) rfl ?_
  refine G_icmpYes X0 hx (pc' := 31) (hb hby d_exp1_18) (tlt (by decide : (1 : Int32) < (4 : Int32))).1 (by decide) (by decide) ?_
  refine G_iloadN X0 hx (pc' := 32) rfl (hb hby d_exp1_31) rfl ?_
  refine G_iconst X0 hx (pc' := 33) rfl (hb hby d_exp1_32) (z := (3 : Int32)) rfl ?_
  refine G_icmpYes X0 hx (pc' := 46) (hb hby d_exp1_33) (tlt (by decide : (1 : Int32) < (3 : Int32))).1 (by decide) (by decide) ?_
  refine G_iloadN X0 hx (pc' := 47) rfl (hb hby d_exp1_46) rfl ?_
  refine G_iconst X0 hx (pc' := 48) rfl (hb hby d_exp1_47) (z := (2 : Int32)) rfl ?_
  refine G_icmpYes X0 hx (pc' := 60) (hb hby d_exp1_48) (tlt (by decide : (1 : Int32) < (2 : Int32))).1 (by decide) (by decide) ?_
  refine G_iloadN X0 hx (pc' := 61) rfl (hb hby d_exp1_60) rfl ?_
  refine G_iconst X0 hx (pc' := 62) rfl (hb hby d_exp1_61) (z := (1 : Int32)) rfl ?_
  refine G_icmpNo X0 hx (pc' := 65) rfl (hb hby d_exp1_62) (flt (by decide : ¬ ((1 : Int32) < (1 : Int32)))).1 ?_
  refine G_lloadN X0 hx (pc' := 66) rfl (hb hby d_exp1_65) rfl ?_
  refine G_lconst X0 hx (pc' := 67) rfl (hb hby d_exp1_66) (z := (0 : Int64)) rfl ?_
  refine G_lcmp X0 hx (pc' := 68) rfl (hb hby d_exp1_67)  ?_
  by_cases hc68_1 : (0 : Int64) < v1
  · refine G_ifYes X0 hx (pc' := 73) (hb hby d_exp1_68) ((if0 _ _).trans (tlt ((lw_gt _ _).2 hc68_1)).2.2.1) (by decide) (by decide) ?_
    refine G_iconst X0 hx (pc' := 74) rfl (hb hby d_exp1_73) (z := (0 : Int32)) rfl ?_
    refine Go.fin X0 hlk (v := some (.int (0 : Int32))) (fun h => by rw [Bd.returns] at h; cases h) (by decide) (by decide) ?_ (fun fs hr => retOut X0 hx Bd.returns rfl (Or.inl ⟨rfl, Or.inl rfl, _, rfl⟩) (hb hby d_exp1_74) hr)
    show Q_exp1 Z v1 v2 v3 v4 h0 n0 _ s₁.heap _
    rw [e0]
    exact ⟨congrArg (fun z => some (Value.int z)) (by rw [f_exp1]; rw [if_pos hc68_1]), N0, rfl⟩
  · refine G_ifNo X0 hx (pc' := 71) rfl (hb hby d_exp1_68) ((if0 _ _).trans (flt (fun q => hc68_1 ((lw_gt _ _).1 q))).2.2.1) ?_
    refine G_iconst X0 hx (pc' := 72) rfl (hb hby d_exp1_71) (z := (1 : Int32)) rfl ?_
    refine Go.fin X0 hlk (v := some (.int (1 : Int32))) (fun h => by rw [Bd.returns] at h; cases h) (by decide) (by decide) ?_ (fun fs hr => retOut X0 hx Bd.returns rfl (Or.inl ⟨rfl, Or.inl rfl, _, rfl⟩) (hb hby d_exp1_72) hr)
    show Q_exp1 Z v1 v2 v3 v4 h0 n0 _ s₁.heap _
    rw [e0]
    exact ⟨congrArg (fun z => some (Value.int z)) (by rw [f_exp1]; rw [if_neg hc68_1]), N0, rfl⟩
theorem own_m1 (v1 v2 v3 v4 : Int64) : f_merge1 v1 = f_exp1 v1 v2 v3 v4 := by
  unfold f_merge1 f_exp1
  simp only [Int64.zero_add]
  repeat' split
  all_goals first | rfl | (exfalso; simp_all; done) | simp_all
theorem d_merge2_0 : decode prog_40_method_10_code 0 = .ok (.iconst 0, 1) := by decide +kernel
theorem d_merge2_1 : decode prog_40_method_10_code 1 = .ok (.istore_n 1, 1) := by decide +kernel
theorem d_merge2_2 : decode prog_40_method_10_code 2 = .ok (.lconst 0, 1) := by decide +kernel
theorem d_merge2_3 : decode prog_40_method_10_code 3 = .ok (.lstore_n 2, 1) := by decide +kernel
theorem d_merge2_4 : decode prog_40_method_10_code 4 = .ok (.iconst 0, 1) := by decide +kernel
theorem d_merge2_5 : decode prog_40_method_10_code 5 = .ok (.istore 4, 2) := by decide +kernel
theorem d_merge2_7 : decode prog_40_method_10_code 7 = .ok (.iload 4, 2) := by decide +kernel
theorem d_merge2_9 : decode prog_40_method_10_code 9 = .ok (.aload_n 0, 1) := by decide +kernel
theorem d_merge2_10 : decode prog_40_method_10_code 10 = .ok (.arraylength, 1) := by decide +kernel
theorem d_merge2_11 : decode prog_40_method_10_code 11 = .ok (.if_icmp .ge 30, 3) := by decide +kernel
theorem d_merge2_14 : decode prog_40_method_10_code 14 = .ok (.aload_n 0, 1) := by decide +kernel
theorem d_merge2_15 : decode prog_40_method_10_code 15 = .ok (.iload 4, 2) := by decide +kernel
theorem d_merge2_17 : decode prog_40_method_10_code 17 = .ok (.laload, 1) := by decide +kernel
theorem d_merge2_18 : decode prog_40_method_10_code 18 = .ok (.lload_n 2, 1) := by decide +kernel
theorem d_merge2_19 : decode prog_40_method_10_code 19 = .ok (.lcmp, 1) := by decide +kernel
theorem d_merge2_20 : decode prog_40_method_10_code 20 = .ok (.ifCond .gt 8, 3) := by decide +kernel
theorem d_merge2_28 : decode prog_40_method_10_code 28 = .ok (.lload_n 2, 1) := by decide +kernel
theorem d_merge2_29 : decode prog_40_method_10_code 29 = .ok (.aload_n 0, 1) := by decide +kernel
theorem d_merge2_30 : decode prog_40_method_10_code 30 = .ok (.iload 4, 2) := by decide +kernel
theorem d_merge2_32 : decode prog_40_method_10_code 32 = .ok (.laload, 1) := by decide +kernel
theorem d_merge2_33 : decode prog_40_method_10_code 33 = .ok (.ladd, 1) := by decide +kernel
theorem d_merge2_34 : decode prog_40_method_10_code 34 = .ok (.lstore_n 2, 1) := by decide +kernel
theorem d_merge2_35 : decode prog_40_method_10_code 35 = .ok (.iinc 4 1, 3) := by decide +kernel
theorem d_merge2_38 : decode prog_40_method_10_code 38 = .ok (.goto (-31), 3) := by decide +kernel
theorem d_merge2_41 : decode prog_40_method_10_code 41 = .ok (.iload_n 1, 1) := by decide +kernel
theorem d_merge2_42 : decode prog_40_method_10_code 42 = .ok (.ireturn, 1) := by decide +kernel
theorem d_merge2_23 : decode prog_40_method_10_code 23 = .ok (.iload 4, 2) := by decide +kernel
theorem d_merge2_25 : decode prog_40_method_10_code 25 = .ok (.iconst 1, 1) := by decide +kernel
theorem d_merge2_26 : decode prog_40_method_10_code 26 = .ok (.iadd, 1) := by decide +kernel
theorem d_merge2_27 : decode prog_40_method_10_code 27 = .ok (.istore_n 1, 1) := by decide +kernel
def f_merge2 (y0 : Int64) (y1 : Int64) : Int32 := (if (0 : Int64) < y0 then (if ((0 : Int64) + y0) < y1 then (0 : Int32) else (2 : Int32)) else (if ((0 : Int64) + y0) < y1 then (1 : Int32) else (2 : Int32)))
theorem ef_merge2 (m : MethodId) (v0 : Addr) : entryFrame m #[(.ref v0)] 5 = mkF m 0 #[.val (.ref v0), .unset, .unset, .unset, .unset] [] := by first | (simp [entryFrame, mkF, argsToLocals, Value.category]; done) | rfl
def Q_merge2 (Z : State) (v0 : Addr) (y0 : Int64) (y1 : Int64) (h0 : Heap) (n0 : Nat) (v : Option Value) (h : Heap) (L : List Loc) : Prop := v = some (.int (f_merge2 y0 y1)) ∧ Fr n0 L ∧ h = h0
set_option maxRecDepth 65536 in
set_option maxHeartbeats 40000000 in
theorem rm_merge2 (l : Launch) (Z : State) (a0 : Array Value) (hw : ∀ d ∈ tables_1, d.before a0 Z = true) (ws : List Jvm.Cond) (v0 : Addr) (y0 : Int64) (y1 : Int64) (h0 : Heap) (n0 : Nat) (Z0 : n0 ≤ h0.size) (f0_J_v0 : AJ Z h0 v0 [y0, y1]) :
    MetFree l (⟨"com/example/quern/quern/core/TreeUpdate", "mergeCount", "([J)I"⟩ : MethodName) (head1 (Jvm.Cond.code (⟨"com/example/quern/quern/core/TreeUpdate", "mergeCount", "([J)I"⟩ : MethodName) prog_40_method_10_code 5 (some .int) :: ws) ({ frames := 0, cells := 0, slots := 0, locals := 0 } : Room)) (fun a U => a = #[(.ref v0)] ∧ Z.Warmed39 U.vm ∧ U.heap = h0) (fun _ _ _ _ _ => True) (fun _ U o U' => ∃ v L, o = .returned v ∧ Q_merge2 Z v0 y0 y1 h0 n0 v U'.heap L ∧ FrameEnd U o U' L ({ frames := 0, cells := 0, slots := 0, locals := 0 } : Room).cells ({ frames := 0, cells := 0, slots := 0, locals := 0 } : Room).slots) := by
  refine MetFree.of_bodySF (plainFor_of_name (by first | (simp [plainName, overriddenIn]; done) | decide +kernel)) hisR ?_
  intro p e s m args below meth c s₁ Bd hml0 hP hK
  obtain ⟨rfl, hZ, hh⟩ := hP
  have hx := Bd.exec
  have hby := Bd.bytes
  have hml : c.maxLocals = 5 := hml0
  have hown : s.vm.findClass "com/example/quern/quern/core/TreeUpdate" = some m.cls := findClass_of_methodNamed Bd.named
  have hnm := (name_of_methodNamed Bd.named Bd.method).1
  have hlk : meth.locks = false := Bd.notSynchronized
  have X0 : Stand p l e ({ frames := 0, cells := 0, slots := 0, locals := 0 } : Room) s m #[(.ref v0)] below meth c s₁ [] 0 0 := Stand.of_body Bd
  have e0 : s₁.heap = h0 := by rw [← hh, Bd.state]; rfl
  have N0 := Fr.nil n0
  refine Go.enter (Q := Q_merge2 Z v0 y0 y1 h0 n0) (C := ({ frames := 0, cells := 0, slots := 0, locals := 0 } : Room).cells) (N := ({ frames := 0, cells := 0, slots := 0, locals := 0 } : Room).slots) (ef_merge2 m v0) ?_
  show Go p e below s _ _ _ s₁ (mkF m 0 #[.val (.ref v0), .unset, .unset, .unset, .unset] [])
  refine G_iconst X0 hx (pc' := 1) rfl (hb hby d_merge2_0) (z := (0 : Int32)) rfl ?_
  refine G_istoreN X0 hx (pc' := 2) rfl (hb hby d_merge2_1) (L' := #[.val (.ref v0), .val (.int (0 : Int32)), .unset, .unset, .unset]) rfl ?_
  refine G_lconst X0 hx (pc' := 3) rfl (hb hby d_merge2_2) (z := (0 : Int64)) rfl ?_
  refine G_lstoreN X0 hx (pc' := 4) rfl (hb hby d_merge2_3) (L' := #[.val (.ref v0), .val (.int (0 : Int32)), .val (.long (0 : Int64)), .second, .unset]) rfl ?_
  refine G_iconst X0 hx (pc' := 5) rfl (hb hby d_merge2_4) (z := (0 : Int32)) rfl ?_
  refine G_istore X0 hx (pc' := 7) rfl (hb hby d_merge2_5) (L' := #[.val (.ref v0), .val (.int (0 : Int32)), .val (.long (0 : Int64)), .second, .val (.int (0 : Int32))]) rfl ?_
  refine G_iload X0 hx (pc' := 9) rfl (hb hby d_merge2_7) rfl ?_
  refine G_aloadN X0 hx (pc' := 10) rfl (hb hby d_merge2_9) rfl rfl ?_
  refine Go.st (lenAJ X0 hx hZ e0 f0_J_v0 (g := (mkF m 10 #[.val (.ref v0), .val (.int (0 : Int32)), .val (.long (0 : Int64)), .second, .val (.int (0 : Int32))] [(.ref v0), (.int (0 : Int32))])) rfl rfl (hb hby d_merge2_10)) ?_
  show Go p e below s _ _ _ s₁ (mkF m 11 #[.val (.ref v0), .val (.int (0 : Int32)), .val (.long (0 : Int64)), .second, .val (.int (0 : Int32))] [(.int (2 : Int32)), (.int (0 : Int32))])
  refine G_icmpNo X0 hx (pc' := 14) rfl (hb hby d_merge2_11) (tlt (by decide : (0 : Int32) < (2 : Int32))).2.1 ?_
  refine G_aloadN X0 hx (pc' := 15) rfl (hb hby d_merge2_14) rfl rfl ?_
  refine G_iload X0 hx (pc' := 17) rfl (hb hby d_merge2_15) rfl ?_
  refine Go.st (ldAJ X0 hx hZ e0 f0_J_v0 (j := (0 : Int32)) (by decide) (show Int32.toNatClampNeg 0 < 2 from by decide) (g := (mkF m 17 #[.val (.ref v0), .val (.int (0 : Int32)), .val (.long (0 : Int64)), .second, .val (.int (0 : Int32))] [(.int (0 : Int32)), (.ref v0)])) rfl rfl (hb hby d_merge2_17)) ?_
  show Go p e below s _ _ _ s₁ (mkF m 18 #[.val (.ref v0), .val (.int (0 : Int32)), .val (.long (0 : Int64)), .second, .val (.int (0 : Int32))] [(.long y0)])
  refine G_lloadN X0 hx (pc' := 19) rfl (hb hby d_merge2_18) rfl ?_
  refine G_lcmp X0 hx (pc' := 20) rfl (hb hby d_merge2_19)  ?_
  by_cases hc20_1 : (0 : Int64) < y0
  · refine G_ifYes X0 hx (pc' := 28) (hb hby d_merge2_20) ((if0 _ _).trans (tlt ((lw_gt _ _).2 hc20_1)).2.2.1) (by decide) (by decide) ?_
    refine G_lloadN X0 hx (pc' := 29) rfl (hb hby d_merge2_28) rfl ?_
    refine G_aloadN X0 hx (pc' := 30) rfl (hb hby d_merge2_29) rfl rfl ?_
    refine G_iload X0 hx (pc' := 32) rfl (hb hby d_merge2_30) rfl ?_
    refine Go.st (ldAJ X0 hx hZ e0 f0_J_v0 (j := (0 : Int32)) (by decide) (show Int32.toNatClampNeg 0 < 2 from by decide) (g := (mkF m 32 #[.val (.ref v0), .val (.int (0 : Int32)), .val (.long (0 : Int64)), .second, .val (.int (0 : Int32))] [(.int (0 : Int32)), (.ref v0), (.long (0 : Int64))])) rfl rfl (hb hby d_merge2_32)) ?_
    show Go p e below s _ _ _ s₁ (mkF m 33 #[.val (.ref v0), .val (.int (0 : Int32)), .val (.long (0 : Int64)), .second, .val (.int (0 : Int32))] [(.long y0), (.long (0 : Int64))])
    refine G_ladd X0 hx (pc' := 34) rfl (hb hby d_merge2_33)  ?_
    refine G_lstoreN X0 hx (pc' := 35) rfl (hb hby d_merge2_34) (L' := #[.val (.ref v0), .val (.int (0 : Int32)), .val (.long ((0 : Int64) + y0)), .second, .val (.int (0 : Int32))]) rfl ?_
    refine G_iinc X0 hx (pc' := 38) rfl (hb hby d_merge2_35) rfl (z := (1 : Int32)) rfl (L' := #[.val (.ref v0), .val (.int (0 : Int32)), .val (.long ((0 : Int64) + y0)), .second, .val (.int (1 : Int32))]) rfl ?_
    refine G_goto X0 hx (pc' := 7) (hb hby d_merge2_38)  (by decide) (by decide) ?_
    refine G_iload X0 hx (pc' := 9) rfl (hb hby d_merge2_7) rfl ?_
    refine G_aloadN X0 hx (pc' := 10) rfl (hb hby d_merge2_9) rfl rfl ?_
    refine Go.st (lenAJ X0 hx hZ e0 f0_J_v0 (g := (mkF m 10 #[.val (.ref v0), .val (.int (0 : Int32)), .val (.long ((0 : Int64) + y0)), .second, .val (.int (1 : Int32))] [(.ref v0), (.int (1 : Int32))])) rfl rfl (hb hby d_merge2_10)) ?_
    show Go p e below s _ _ _ s₁ (mkF m 11 #[.val (.ref v0), .val (.int (0 : Int32)), .val (.long ((0 : Int64) + y0)), .second, .val (.int (1 : Int32))] [(.int (2 : Int32)), (.int (1 : Int32))])
    refine G_icmpNo X0 hx (pc' := 14) rfl (hb hby d_merge2_11) (tlt (by decide : (1 : Int32) < (2 : Int32))).2.1 ?_
    refine G_aloadN X0 hx (pc' := 15) rfl (hb hby d_merge2_14) rfl rfl ?_
    refine G_iload X0 hx (pc' := 17) rfl (hb hby d_merge2_15) rfl ?_
    refine Go.st (ldAJ X0 hx hZ e0 f0_J_v0 (j := (1 : Int32)) (by decide) (show Int32.toNatClampNeg 1 < 2 from by decide) (g := (mkF m 17 #[.val (.ref v0), .val (.int (0 : Int32)), .val (.long ((0 : Int64) + y0)), .second, .val (.int (1 : Int32))] [(.int (1 : Int32)), (.ref v0)])) rfl rfl (hb hby d_merge2_17)) ?_
    show Go p e below s _ _ _ s₁ (mkF m 18 #[.val (.ref v0), .val (.int (0 : Int32)), .val (.long ((0 : Int64) + y0)), .second, .val (.int (1 : Int32))] [(.long y1)])
    refine G_lloadN X0 hx (pc' := 19) rfl (hb hby d_merge2_18) rfl ?_
    refine G_lcmp X0 hx (pc' := 20) rfl (hb hby d_merge2_19)  ?_
    by_cases hc20_2 : ((0 : Int64) + y0) < y1
    · refine G_ifYes X0 hx (pc' := 28) (hb hby d_merge2_20) ((if0 _ _).trans (tlt ((lw_gt _ _).2 hc20_2)).2.2.1) (by decide) (by decide) ?_
      refine G_lloadN X0 hx (pc' := 29) rfl (hb hby d_merge2_28) rfl ?_
      refine G_aloadN X0 hx (pc' := 30) rfl (hb hby d_merge2_29) rfl rfl ?_
      refine G_iload X0 hx (pc' := 32) rfl (hb hby d_merge2_30) rfl ?_
      refine Go.st (ldAJ X0 hx hZ e0 f0_J_v0 (j := (1 : Int32)) (by decide) (show Int32.toNatClampNeg 1 < 2 from by decide) (g := (mkF m 32 #[.val (.ref v0), .val (.int (0 : Int32)), .val (.long ((0 : Int64) + y0)), .second, .val (.int (1 : Int32))] [(.int (1 : Int32)), (.ref v0), (.long ((0 : Int64) + y0))])) rfl rfl (hb hby d_merge2_32)) ?_
      show Go p e below s _ _ _ s₁ (mkF m 33 #[.val (.ref v0), .val (.int (0 : Int32)), .val (.long ((0 : Int64) + y0)), .second, .val (.int (1 : Int32))] [(.long y1), (.long ((0 : Int64) + y0))])
      refine G_ladd X0 hx (pc' := 34) rfl (hb hby d_merge2_33)  ?_
      refine G_lstoreN X0 hx (pc' := 35) rfl (hb hby d_merge2_34) (L' := #[.val (.ref v0), .val (.int (0 : Int32)), .val (.long (((0 : Int64) + y0) + y1)), .second, .val (.int (1 : Int32))]) rfl ?_
      refine G_iinc X0 hx (pc' := 38) rfl (hb hby d_merge2_35) rfl (z := (2 : Int32)) rfl (L' := #[.val (.ref v0), .val (.int (0 : Int32)), .val (.long (((0 : Int64) + y0) + y1)), .second, .val (.int (2 : Int32))]) rfl ?_
      refine G_goto X0 hx (pc' := 7) (hb hby d_merge2_38)  (by decide) (by decide) ?_
      refine G_iload X0 hx (pc' := 9) rfl (hb hby d_merge2_7) rfl ?_
      refine G_aloadN X0 hx (pc' := 10) rfl (hb hby d_merge2_9) rfl rfl ?_
      refine Go.st (lenAJ X0 hx hZ e0 f0_J_v0 (g := (mkF m 10 #[.val (.ref v0), .val (.int (0 : Int32)), .val (.long (((0 : Int64) + y0) + y1)), .second, .val (.int (2 : Int32))] [(.ref v0), (.int (2 : Int32))])) rfl rfl (hb hby d_merge2_10)) ?_
      show Go p e below s _ _ _ s₁ (mkF m 11 #[.val (.ref v0), .val (.int (0 : Int32)), .val (.long (((0 : Int64) + y0) + y1)), .second, .val (.int (2 : Int32))] [(.int (2 : Int32)), (.int (2 : Int32))])
      refine G_icmpYes X0 hx (pc' := 41) (hb hby d_merge2_11) (flt (by decide : ¬ ((2 : Int32) < (2 : Int32)))).2.1 (by decide) (by decide) ?_
      refine G_iloadN X0 hx (pc' := 42) rfl (hb hby d_merge2_41) rfl ?_
      refine Go.fin X0 hlk (v := some (.int (0 : Int32))) (fun h => by rw [Bd.returns] at h; cases h) (by decide) (by decide) ?_ (fun fs hr => retOut X0 hx Bd.returns rfl (Or.inl ⟨rfl, Or.inl rfl, _, rfl⟩) (hb hby d_merge2_42) hr)
      show Q_merge2 Z v0 y0 y1 h0 n0 _ s₁.heap _
      rw [e0]
      exact ⟨congrArg (fun z => some (Value.int z)) (by rw [f_merge2]; rw [if_pos hc20_1, if_pos hc20_2]), N0, rfl⟩
    · refine G_ifNo X0 hx (pc' := 23) rfl (hb hby d_merge2_20) ((if0 _ _).trans (flt (fun q => hc20_2 ((lw_gt _ _).1 q))).2.2.1) ?_
      refine G_iload X0 hx (pc' := 25) rfl (hb hby d_merge2_23) rfl ?_
      refine G_iconst X0 hx (pc' := 26) rfl (hb hby d_merge2_25) (z := (1 : Int32)) rfl ?_
      refine G_iadd X0 hx (pc' := 27) rfl (hb hby d_merge2_26)  ?_
      rw [show ((1 : Int32) + (1 : Int32)) = (2 : Int32) from by decide]
      refine G_istoreN X0 hx (pc' := 28) rfl (hb hby d_merge2_27) (L' := #[.val (.ref v0), .val (.int (2 : Int32)), .val (.long ((0 : Int64) + y0)), .second, .val (.int (1 : Int32))]) rfl ?_
      refine G_lloadN X0 hx (pc' := 29) rfl (hb hby d_merge2_28) rfl ?_
      refine G_aloadN X0 hx (pc' := 30) rfl (hb hby d_merge2_29) rfl rfl ?_
      refine G_iload X0 hx (pc' := 32) rfl (hb hby d_merge2_30) rfl ?_
      refine Go.st (ldAJ X0 hx hZ e0 f0_J_v0 (j := (1 : Int32)) (by decide) (show Int32.toNatClampNeg 1 < 2 from by decide) (g := (mkF m 32 #[.val (.ref v0), .val (.int (2 : Int32)), .val (.long ((0 : Int64) + y0)), .second, .val (.int (1 : Int32))] [(.int (1 : Int32)), (.ref v0), (.long ((0 : Int64) + y0))])) rfl rfl (hb hby d_merge2_32)) ?_
      show Go p e below s _ _ _ s₁ (mkF m 33 #[.val (.ref v0), .val (.int (2 : Int32)), .val (.long ((0 : Int64) + y0)), .second, .val (.int (1 : Int32))] [(.long y1), (.long ((0 : Int64) + y0))])
      refine G_ladd X0 hx (pc' := 34) rfl (hb hby d_merge2_33)  ?_
      refine G_lstoreN X0 hx (pc' := 35) rfl (hb hby d_merge2_34) (L' := #[.val (.ref v0), .val (.int (2 : Int32)), .val (.long (((0 : Int64) + y0) + y1)), .second, .val (.int (1 : Int32))]) rfl ?_
      refine G_iinc X0 hx (pc' := 38) rfl (hb hby d_merge2_35) rfl (z := (2 : Int32)) rfl (L' := #[.val (.ref v0), .val (.int (2 : Int32)), .val (.long (((0 : Int64) + y0) + y1)), .second, .val (.int (2 : Int32))]) rfl ?_
      refine G_goto X0 hx (pc' := 7) (hb hby d_merge2_38)  (by decide) (by decide) ?_
      refine G_iload X0 hx (pc' := 9) rfl (hb hby d_merge2_7) rfl ?_
      refine G_aloadN X0 hx (pc' := 10) rfl (hb hby d_merge2_9) rfl rfl ?_
      refine Go.st (lenAJ X0 hx hZ e0 f0_J_v0 (g := (mkF m 10 #[.val (.ref v0), .val (.int (2 : Int32)), .val (.long (((0 : Int64) + y0) + y1)), .second, .val (.int (2 : Int32))] [(.ref v0), (.int (2 : Int32))])) rfl rfl (hb hby d_merge2_10)) ?_
      show Go p e below s _ _ _ s₁ (mkF m 11 #[.val (.ref v0), .val (.int (2 : Int32)), .val (.long (((0 : Int64) + y0) + y1)), .second, .val (.int (2 : Int32))] [(.int (2 : Int32)), (.int (2 : Int32))])
      refine G_icmpYes X0 hx (pc' := 41) (hb hby d_merge2_11) (flt (by decide : ¬ ((2 : Int32) < (2 : Int32)))).2.1 (by decide) (by decide) ?_
      refine G_iloadN X0 hx (pc' := 42) rfl (hb hby d_merge2_41) rfl ?_
      refine Go.fin X0 hlk (v := some (.int (2 : Int32))) (fun h => by rw [Bd.returns] at h; cases h) (by decide) (by decide) ?_ (fun fs hr => retOut X0 hx Bd.returns rfl (Or.inl ⟨rfl, Or.inl rfl, _, rfl⟩) (hb hby d_merge2_42) hr)
      show Q_merge2 Z v0 y0 y1 h0 n0 _ s₁.heap _
      rw [e0]
      exact ⟨congrArg (fun z => some (Value.int z)) (by rw [f_merge2]; rw [if_pos hc20_1, if_neg hc20_2]), N0, rfl⟩
  · refine G_ifNo X0 hx (pc' := 23) rfl (hb hby d_merge2_20) ((if0 _ _).trans (flt (fun q => hc20_1 ((lw_gt _ _).1 q))).2.2.1) ?_
    refine G_iload X0 hx (pc' := 25) rfl (hb hby d_merge2_23) rfl ?_
    refine G_iconst X0 hx (pc' := 26) rfl (hb hby d_merge2_25) (z := (1 : Int32)) rfl ?_
    refine G_iadd X0 hx (pc' := 27) rfl (hb hby d_merge2_26)  ?_
    rw [show ((0 : Int32) + (1 : Int32)) = (1 : Int32) from by decide]
    refine G_istoreN X0 hx (pc' := 28) rfl (hb hby d_merge2_27) (L' := #[.val (.ref v0), .val (.int (1 : Int32)), .val (.long (0 : Int64)), .second, .val (.int (0 : Int32))]) rfl ?_
    refine G_lloadN X0 hx (pc' := 29) rfl (hb hby d_merge2_28) rfl ?_
    refine G_aloadN X0 hx (pc' := 30) rfl (hb hby d_merge2_29) rfl rfl ?_
    refine G_iload X0 hx (pc' := 32) rfl (hb hby d_merge2_30) rfl ?_
    refine Go.st (ldAJ X0 hx hZ e0 f0_J_v0 (j := (0 : Int32)) (by decide) (show Int32.toNatClampNeg 0 < 2 from by decide) (g := (mkF m 32 #[.val (.ref v0), .val (.int (1 : Int32)), .val (.long (0 : Int64)), .second, .val (.int (0 : Int32))] [(.int (0 : Int32)), (.ref v0), (.long (0 : Int64))])) rfl rfl (hb hby d_merge2_32)) ?_
    show Go p e below s _ _ _ s₁ (mkF m 33 #[.val (.ref v0), .val (.int (1 : Int32)), .val (.long (0 : Int64)), .second, .val (.int (0 : Int32))] [(.long y0), (.long (0 : Int64))])
    refine G_ladd X0 hx (pc' := 34) rfl (hb hby d_merge2_33)  ?_
    refine G_lstoreN X0 hx (pc' := 35) rfl (hb hby d_merge2_34) (L' := #[.val (.ref v0), .val (.int (1 : Int32)), .val (.long ((0 : Int64) + y0)), .second, .val (.int (0 : Int32))]) rfl ?_
    refine G_iinc X0 hx (pc' := 38) rfl (hb hby d_merge2_35) rfl (z := (1 : Int32)) rfl (L' := #[.val (.ref v0), .val (.int (1 : Int32)), .val (.long ((0 : Int64) + y0)), .second, .val (.int (1 : Int32))]) rfl ?_
    refine G_goto X0 hx (pc' := 7) (hb hby d_merge2_38)  (by decide) (by decide) ?_
    refine G_iload X0 hx (pc' := 9) rfl (hb hby d_merge2_7) rfl ?_
    refine G_aloadN X0 hx (pc' := 10) rfl (hb hby d_merge2_9) rfl rfl ?_
    refine Go.st (lenAJ X0 hx hZ e0 f0_J_v0 (g := (mkF m 10 #[.val (.ref v0), .val (.int (1 : Int32)), .val (.long ((0 : Int64) + y0)), .second, .val (.int (1 : Int32))] [(.ref v0), (.int (1 : Int32))])) rfl rfl (hb hby d_merge2_10)) ?_
    show Go p e below s _ _ _ s₁ (mkF m 11 #[.val (.ref v0), .val (.int (1 : Int32)), .val (.long ((0 : Int64) + y0)), .second, .val (.int (1 : Int32))] [(.int (2 : Int32)), (.int (1 : Int32))])
    refine G_icmpNo X0 hx (pc' := 14) rfl (hb hby d_merge2_11) (tlt (by decide : (1 : Int32) < (2 : Int32))).2.1 ?_
    refine G_aloadN X0 hx (pc' := 15) rfl (hb hby d_merge2_14) rfl rfl ?_
    refine G_iload X0 hx (pc' := 17) rfl (hb hby d_merge2_15) rfl ?_
    refine Go.st (ldAJ X0 hx hZ e0 f0_J_v0 (j := (1 : Int32)) (by decide) (show Int32.toNatClampNeg 1 < 2 from by decide) (g := (mkF m 17 #[.val (.ref v0), .val (.int (1 : Int32)), .val (.long ((0 : Int64) + y0)), .second, .val (.int (1 : Int32))] [(.int (1 : Int32)), (.ref v0)])) rfl rfl (hb hby d_merge2_17)) ?_
    show Go p e below s _ _ _ s₁ (mkF m 18 #[.val (.ref v0), .val (.int (1 : Int32)), .val (.long ((0 : Int64) + y0)), .second, .val (.int (1 : Int32))] [(.long y1)])
    refine G_lloadN X0 hx (pc' := 19) rfl (hb hby d_merge2_18) rfl ?_
    refine G_lcmp X0 hx (pc' := 20) rfl (hb hby d_merge2_19)  ?_
    by_cases hc20_3 : ((0 : Int64) + y0) < y1
    · refine G_ifYes X0 hx (pc' := 28) (hb hby d_merge2_20) ((if0 _ _).trans (tlt ((lw_gt _ _).2 hc20_3)).2.2.1) (by decide) (by decide) ?_
      refine G_lloadN X0 hx (pc' := 29) rfl (hb hby d_merge2_28) rfl ?_
      refine G_aloadN X0 hx (pc' := 30) rfl (hb hby d_merge2_29) rfl rfl ?_
      refine G_iload X0 hx (pc' := 32) rfl (hb hby d_merge2_30) rfl ?_
      refine Go.st (ldAJ X0 hx hZ e0 f0_J_v0 (j := (1 : Int32)) (by decide) (show Int32.toNatClampNeg 1 < 2 from by decide) (g := (mkF m 32 #[.val (.ref v0), .val (.int (1 : Int32)), .val (.long ((0 : Int64) + y0)), .second, .val (.int (1 : Int32))] [(.int (1 : Int32)), (.ref v0), (.long ((0 : Int64) + y0))])) rfl rfl (hb hby d_merge2_32)) ?_
      show Go p e below s _ _ _ s₁ (mkF m 33 #[.val (.ref v0), .val (.int (1 : Int32)), .val (.long ((0 : Int64) + y0)), .second, .val (.int (1 : Int32))] [(.long y1), (.long ((0 : Int64) + y0))])
      refine G_ladd X0 hx (pc' := 34) rfl (hb hby d_merge2_33)  ?_
      refine G_lstoreN X0 hx (pc' := 35) rfl (hb hby d_merge2_34) (L' := #[.val (.ref v0), .val (.int (1 : Int32)), .val (.long (((0 : Int64) + y0) + y1)), .second, .val (.int (1 : Int32))]) rfl ?_
      refine G_iinc X0 hx (pc' := 38) rfl (hb hby d_merge2_35) rfl (z := (2 : Int32)) rfl (L' := #[.val (.ref v0), .val (.int (1 : Int32)), .val (.long (((0 : Int64) + y0) + y1)), .second, .val (.int (2 : Int32))]) rfl ?_
      refine G_goto X0 hx (pc' := 7) (hb hby d_merge2_38)  (by decide) (by decide) ?_
      refine G_iload X0 hx (pc' := 9) rfl (hb hby d_merge2_7) rfl ?_
      refine G_aloadN X0 hx (pc' := 10) rfl (hb hby d_merge2_9) rfl rfl ?_
      refine Go.st (lenAJ X0 hx hZ e0 f0_J_v0 (g := (mkF m 10 #[.val (.ref v0), .val (.int (1 : Int32)), .val (.long (((0 : Int64) + y0) + y1)), .second, .val (.int (2 : Int32))] [(.ref v0), (.int (2 : Int32))])) rfl rfl (hb hby d_merge2_10)) ?_
      show Go p e below s _ _ _ s₁ (mkF m 11 #[.val (.ref v0), .val (.int (1 : Int32)), .val (.long (((0 : Int64) + y0) + y1)), .second, .val (.int (2 : Int32))] [(.int (2 : Int32)), (.int (2 : Int32))])
      refine G_icmpYes X0 hx (pc' := 41) (hb hby d_merge2_11) (flt (by decide : ¬ ((2 : Int32) < (2 : Int32)))).2.1 (by decide) (by decide) ?_
      refine G_iloadN X0 hx (pc' := 42) rfl (hb hby d_merge2_41) rfl ?_
      refine Go.fin X0 hlk (v := some (.int (1 : Int32))) (fun h => by rw [Bd.returns] at h; cases h) (by decide) (by decide) ?_ (fun fs hr => retOut X0 hx Bd.returns rfl (Or.inl ⟨rfl, Or.inl rfl, _, rfl⟩) (hb hby d_merge2_42) hr)
      show Q_merge2 Z v0 y0 y1 h0 n0 _ s₁.heap _
      rw [e0]
      exact ⟨congrArg (fun z => some (Value.int z)) (by rw [f_merge2]; rw [if_neg hc20_1, if_pos hc20_3]), N0, rfl⟩
    · refine G_ifNo X0 hx (pc' := 23) rfl (hb hby d_merge2_20) ((if0 _ _).trans (flt (fun q => hc20_3 ((lw_gt _ _).1 q))).2.2.1) ?_
      refine G_iload X0 hx (pc' := 25) rfl (hb hby d_merge2_23) rfl ?_
      refine G_iconst X0 hx (pc' := 26) rfl (hb hby d_merge2_25) (z := (1 : Int32)) rfl ?_
      refine G_iadd X0 hx (pc' := 27) rfl (hb hby d_merge2_26)  ?_
      rw [show ((1 : Int32) + (1 : Int32)) = (2 : Int32) from by decide]
      refine G_istoreN X0 hx (pc' := 28) rfl (hb hby d_merge2_27) (L' := #[.val (.ref v0), .val (.int (2 : Int32)), .val (.long ((0 : Int64) + y0)), .second, .val (.int (1 : Int32))]) rfl ?_
      refine G_lloadN X0 hx (pc' := 29) rfl (hb hby d_merge2_28) rfl ?_
      refine G_aloadN X0 hx (pc' := 30) rfl (hb hby d_merge2_29) rfl rfl ?_
      refine G_iload X0 hx (pc' := 32) rfl (hb hby d_merge2_30) rfl ?_
      refine Go.st (ldAJ X0 hx hZ e0 f0_J_v0 (j := (1 : Int32)) (by decide) (show Int32.toNatClampNeg 1 < 2 from by decide) (g := (mkF m 32 #[.val (.ref v0), .val (.int (2 : Int32)), .val (.long ((0 : Int64) + y0)), .second, .val (.int (1 : Int32))] [(.int (1 : Int32)), (.ref v0), (.long ((0 : Int64) + y0))])) rfl rfl (hb hby d_merge2_32)) ?_
      show Go p e below s _ _ _ s₁ (mkF m 33 #[.val (.ref v0), .val (.int (2 : Int32)), .val (.long ((0 : Int64) + y0)), .second, .val (.int (1 : Int32))] [(.long y1), (.long ((0 : Int64) + y0))])
      refine G_ladd X0 hx (pc' := 34) rfl (hb hby d_merge2_33)  ?_
      refine G_lstoreN X0 hx (pc' := 35) rfl (hb hby d_merge2_34) (L' := #[.val (.ref v0), .val (.int (2 : Int32)), .val (.long (((0 : Int64) + y0) + y1)), .second, .val (.int (1 : Int32))]) rfl ?_
      refine G_iinc X0 hx (pc' := 38) rfl (hb hby d_merge2_35) rfl (z := (2 : Int32)) rfl (L' := #[.val (.ref v0), .val (.int (2 : Int32)), .val (.long (((0 : Int64) + y0) + y1)), .second, .val (.int (2 : Int32))]) rfl ?_
      refine G_goto X0 hx (pc' := 7) (hb hby d_merge2_38)  (by decide) (by decide) ?_
      refine G_iload X0 hx (pc' := 9) rfl (hb hby d_merge2_7) rfl ?_
      refine G_aloadN X0 hx (pc' := 10) rfl (hb hby d_merge2_9) rfl rfl ?_
      refine Go.st (lenAJ X0 hx hZ e0 f0_J_v0 (g := (mkF m 10 #[.val (.ref v0), .val (.int (2 : Int32)), .val (.long (((0 : Int64) + y0) + y1)), .second, .val (.int (2 : Int32))] [(.ref v0), (.int (2 : Int32))])) rfl rfl (hb hby d_merge2_10)) ?_
      show Go p e below s _ _ _ s₁ (mkF m 11 #[.val (.ref v0), .val (.int (2 : Int32)), .val (.long (((0 : Int64) + y0) + y1)), .second, .val (.int (2 : Int32))] [(.int (2 : Int32)), (.int (2 : Int32))])
      refine G_icmpYes X0 hx (pc' := 41) (hb hby d_merge2_11) (flt (by decide : ¬ ((2 : Int32) < (2 : Int32)))).2.1 (by decide) (by decide) ?_
      refine G_iloadN X0 hx (pc' := 42) rfl (hb hby d_merge2_41) rfl ?_
      refine Go.fin X0 hlk (v := some (.int (2 : Int32))) (fun h => by rw [Bd.returns] at h; cases h) (by decide) (by decide) ?_ (fun fs hr => retOut X0 hx Bd.returns rfl (Or.inl ⟨rfl, Or.inl rfl, _, rfl⟩) (hb hby d_merge2_42) hr)
      show Q_merge2 Z v0 y0 y1 h0 n0 _ s₁.heap _
      rw [e0]
      exact ⟨congrArg (fun z => some (Value.int z)) (by rw [f_merge2]; rw [if_neg hc20_1, if_neg hc20_3]), N0, rfl⟩
theorem d_exp2_0 : decode method_3_code 0 = .ok (.lload_n 1, 1) := by decide +kernel
theorem d_exp2_1 : decode method_3_code 1 = .ok (.lstore 9, 2) := by decide +kernel
theorem d_exp2_3 : decode method_3_code 3 = .ok (.lload_n 1, 1) := by decide +kernel
theorem d_exp2_4 : decode method_3_code 4 = .ok (.lload_n 3, 1) := by decide +kernel
theorem d_exp2_5 : decode method_3_code 5 = .ok (.ladd, 1) := by decide +kernel
theorem d_exp2_6 : decode method_3_code 6 = .ok (.lstore 11, 2) := by decide +kernel
theorem d_exp2_8 : decode method_3_code 8 = .ok (.lload_n 1, 1) := by decide +kernel
theorem d_exp2_9 : decode method_3_code 9 = .ok (.lload_n 3, 1) := by decide +kernel
theorem d_exp2_10 : decode method_3_code 10 = .ok (.ladd, 1) := by decide +kernel
theorem d_exp2_11 : decode method_3_code 11 = .ok (.lload 5, 2) := by decide +kernel
theorem d_exp2_13 : decode method_3_code 13 = .ok (.ladd, 1) := by decide +kernel
theorem d_exp2_14 : decode method_3_code 14 = .ok (.lstore 13, 2) := by decide +kernel
theorem d_exp2_16 : decode method_3_code 16 = .ok (.iload_n 0, 1) := by decide +kernel
theorem d_exp2_17 : decode method_3_code 17 = .ok (.iconst 4, 1) := by decide +kernel
theorem d_exp2_18 : decode method_3_code 18 = .ok (.if_icmp .lt 13, 3) := by decide +kernel
theorem d_exp2_31 : decode method_3_code 31 = .ok (.iload_n 0, 1) := by decide +kernel
theorem d_exp2_32 : decode method_3_code 32 = .ok (.iconst 3, 1) := by decide +kernel
theorem d_exp2_33 : decode method_3_code 33 = .ok (.if_icmp .lt 13, 3) := by decide +kernel
theorem d_exp2_46 : decode method_3_code 46 = .ok (.iload_n 0, 1) := by decide +kernel
theorem d_exp2_47 : decode method_3_code 47 = .ok (.iconst 2, 1) := by decide +kernel
theorem d_exp2_48 : decode method_3_code 48 = .ok (.if_icmp .lt 12, 3) := by decide +kernel
theorem d_exp2_51 : decode method_3_code 51 = .ok (.lload_n 3, 1) := by decide +kernel
theorem d_exp2_52 : decode method_3_code 52 = .ok (.lload 9, 2) := by decide +kernel
theorem d_exp2_54 : decode method_3_code 54 = .ok (.lcmp, 1) := by decide +kernel
theorem d_exp2_55 : decode method_3_code 55 = .ok (.ifCond .gt 5, 3) := by decide +kernel
theorem d_exp2_60 : decode method_3_code 60 = .ok (.iload_n 0, 1) := by decide +kernel
theorem d_exp2_61 : decode method_3_code 61 = .ok (.iconst 1, 1) := by decide +kernel
theorem d_exp2_62 : decode method_3_code 62 = .ok (.if_icmp .lt 11, 3) := by decide +kernel
theorem d_exp2_65 : decode method_3_code 65 = .ok (.lload_n 1, 1) := by decide +kernel
theorem d_exp2_66 : decode method_3_code 66 = .ok (.lconst 0, 1) := by decide +kernel
theorem d_exp2_67 : decode method_3_code 67 = .ok (.lcmp, 1) := by decide +kernel
theorem d_exp2_68 : decode method_3_code 68 = .ok (.ifCond .gt 5, 3) := by decide +kernel
theorem d_exp2_73 : decode method_3_code 73 = .ok (.iconst 0, 1) := by decide +kernel
theorem d_exp2_74 : decode method_3_code 74 = .ok (.ireturn, 1) := by decide +kernel
theorem d_exp2_71 : decode method_3_code 71 = .ok (.iconst 1, 1) := by decide +kernel
theorem d_exp2_72 : decode method_3_code 72 = .ok (.ireturn, 1) := by decide +kernel
theorem d_exp2_58 : decode method_3_code 58 = .ok (.iconst 2, 1) := by decide +kernel
theorem d_exp2_59 : decode method_3_code 59 = .ok (.ireturn, 1) := by decide +kernel
def f_exp2 (v1 : Int64) (v2 : Int64) (v3 : Int64) (v4 : Int64) : Int32 := (if v1 < v2 then (if (0 : Int64) < v1 then (0 : Int32) else (1 : Int32)) else (2 : Int32))
theorem ef_exp2 (m : MethodId) (v1 : Int64) (v2 : Int64) (v3 : Int64) (v4 : Int64) : entryFrame m #[(.int (2 : Int32)), (.long v1), (.long v2), (.long v3), (.long v4)] 15 = mkF m 0 #[.val (.int (2 : Int32)), .val (.long v1), .second, .val (.long v2), .second, .val (.long v3), .second, .val (.long v4), .second, .unset, .unset, .unset, .unset, .unset, .unset] [] := by first | (simp [entryFrame, mkF, argsToLocals, Value.category]; done) | rfl
def Q_exp2 (Z : State) (v1 : Int64) (v2 : Int64) (v3 : Int64) (v4 : Int64) (h0 : Heap) (n0 : Nat) (v : Option Value) (h : Heap) (L : List Loc) : Prop := v = some (.int (f_exp2 v1 v2 v3 v4)) ∧ Fr n0 L ∧ h = h0
set_option maxRecDepth 65536 in
set_option maxHeartbeats 40000000 in
theorem rm_exp2 (l : Launch) (Z : State) (a0 : Array Value) (hw : ∀ d ∈ tables_1, d.before a0 Z = true) (ws : List Jvm.Cond) (v1 : Int64) (v2 : Int64) (v3 : Int64) (v4 : Int64) (h0 : Heap) (n0 : Nat) (Z0 : n0 ≤ h0.size) :
    MetFree l (⟨"com/example/quern/quern/core/TreeUpdateMergeCountPinLaw", "expected", "(IJJJJ)I"⟩ : MethodName) (head1 (Jvm.Cond.code (⟨"com/example/quern/quern/core/TreeUpdateMergeCountPinLaw", "expected", "(IJJJJ)I"⟩ : MethodName) method_3_code 15 (some .int) :: ws) ({ frames := 0, cells := 0, slots := 0, locals := 0 } : Room)) (fun a U => a = #[(.int (2 : Int32)), (.long v1), (.long v2), (.long v3), (.long v4)] ∧ Z.Warmed39 U.vm ∧ U.heap = h0) (fun _ _ _ _ _ => True) (fun _ U o U' => ∃ v L, o = .returned v ∧ Q_exp2 Z v1 v2 v3 v4 h0 n0 v U'.heap L ∧ FrameEnd U o U' L ({ frames := 0, cells := 0, slots := 0, locals := 0 } : Room).cells ({ frames := 0, cells := 0, slots := 0, locals := 0 } : Room).slots) := by
  refine MetFree.of_bodySF (plainFor_of_name (by first | (simp [plainName, overriddenIn]; done) | decide +kernel)) hisR ?_
  intro p e s m args below meth c s₁ Bd hml0 hP hK
  obtain ⟨rfl, hZ, hh⟩ := hP
  have hx := Bd.exec
  have hby := Bd.bytes
  have hml : c.maxLocals = 15 := hml0
  have hown : s.vm.findClass "com/example/quern/quern/core/TreeUpdateMergeCountPinLaw" = some m.cls := findClass_of_methodNamed Bd.named
  have hnm := (name_of_methodNamed Bd.named Bd.method).1
  have hlk : meth.locks = false := Bd.notSynchronized
  have X0 : Stand p l e ({ frames := 0, cells := 0, slots := 0, locals := 0 } : Room) s m #[(.int (2 : Int32)), (.long v1), (.long v2), (.long v3), (.long v4)] below meth c s₁ [] 0 0 := Stand.of_body Bd
  have e0 : s₁.heap = h0 := by rw [← hh, Bd.state]; rfl
  have N0 := Fr.nil n0
  refine Go.enter (Q := Q_exp2 Z v1 v2 v3 v4 h0 n0) (C := ({ frames := 0, cells := 0, slots := 0, locals := 0 } : Room).cells) (N := ({ frames := 0, cells := 0, slots := 0, locals := 0 } : Room).slots) (ef_exp2 m v1 v2 v3 v4) ?_
  show Go p e below s _ _ _ s₁ (mkF m 0 #[.val (.int (2 : Int32)), .val (.long v1), .second, .val (.long v2), .second, .val (.long v3), .second, .val (.long v4), .second, .unset, .unset, .unset, .unset, .unset, .unset] [])
  refine G_lloadN X0 hx (pc' := 1) rfl (hb hby d_exp2_0) rfl ?_
  refine G_lstore X0 hx (pc' := 3) rfl (hb hby d_exp2_1) (L' := #[.val (.int (2 : Int32)), .val (.long v1), .second, .val (.long v2), .second, .val (.long v3), .second, .val (.long v4), .second, .val (.long v1), .second, .unset, .unset, .unset, .unset]) rfl ?_
  refine G_lloadN X0 hx (pc' := 4) rfl (hb hby d_exp2_3) rfl ?_
  refine G_lloadN X0 hx (pc' := 5) rfl (hb hby d_exp2_4) rfl ?_
  refine G_ladd X0 hx (pc' := 6) rfl (hb hby d_exp2_5)  ?_
  refine G_lstore X0 hx (pc' := 8) rfl (hb hby d_exp2_6) (L' := #[.val (.int (2 : Int32)), .val (.long v1), .second, .val (.long v2), .second, .val (.long v3), .second, .val (.long v4), .second, .val (.long v1), .second, .val (.long (v1 + v2)), .second, .unset, .unset]) rfl ?_
  refine G_lloadN X0 hx (pc' := 9) rfl (hb hby d_exp2_8) rfl ?_
  refine G_lloadN X0 hx (pc' := 10) rfl (hb hby d_exp2_9) rfl ?_
  refine G_ladd X0 hx (pc' := 11) rfl (hb hby d_exp2_10)  ?_
  refine G_lload X0 hx (pc' := 13) rfl (hb hby d_exp2_11) rfl ?_
  refine G_ladd X0 hx (pc' := 14) rfl (hb hby d_exp2_13)  ?_
  refine G_lstore X0 hx (pc' := 16) rfl (hb hby d_exp2_14) (L' := #[.val (.int (2 : Int32)), .val (.long v1), .second, .val (.long v2), .second, .val (.long v3), .second, .val (.long v4), .second, .val (.long v1), .second, .val (.long (v1 + v2)), .second, .val (.long ((v1 + v2) + v3)), .second]) rfl ?_
  refine G_iloadN X0 hx (pc' := 17) rfl (hb hby d_exp2_16) rfl ?_
  refine G_iconst X0 hx (pc' := 18) rfl (hb hby d_exp2_17) (z := (4 : Int32)) rfl ?_
  refine G_icmpYes X0 hx (pc' := 31) (hb hby d_exp2_18) (tlt (by decide : (2 : Int32) < (4 : Int32))).1 (by decide) (by decide) ?_
  refine G_iloadN X0 hx (pc' := 32) rfl (hb hby d_exp2_31) rfl ?_
  refine G_iconst X0 hx (pc' := 33) rfl (hb hby d_exp2_32) (z := (3 : Int32)) rfl ?_
  refine G_icmpYes X0 hx (pc' := 46) (hb hby d_exp2_33) (tlt (by decide : (2 : Int32) < (3 : Int32))).1 (by decide) (by decide) ?_
  refine G_iloadN X0 hx (pc' := 47) rfl (hb hby d_exp2_46) rfl ?_
  refine G_iconst X0 hx (pc' := 48) rfl (hb hby d_exp2_47) (z := (2 : Int32)) rfl ?_
  refine G_icmpNo X0 hx (pc' := 51) rfl (hb hby d_exp2_48) (flt (by decide : ¬ ((2 : Int32) < (2 : Int32)))).1 ?_
  refine G_lloadN X0 hx (pc' := 52) rfl (hb hby d_exp2_51) rfl ?_
  refine G_lload X0 hx (pc' := 54) rfl (hb hby d_exp2_52) rfl ?_
  refine G_lcmp X0 hx (pc' := 55) rfl (hb hby d_exp2_54)  ?_
  by_cases hc55_1 : v1 < v2
  · refine G_ifYes X0 hx (pc' := 60) (hb hby d_exp2_55) ((if0 _ _).trans (tlt ((lw_gt _ _).2 hc55_1)).2.2.1) (by decide) (by decide) ?_
    refine G_iloadN X0 hx (pc' := 61) rfl (hb hby d_exp2_60) rfl ?_
    refine G_iconst X0 hx (pc' := 62) rfl (hb hby d_exp2_61) (z := (1 : Int32)) rfl ?_
    refine G_icmpNo X0 hx (pc' := 65) rfl (hb hby d_exp2_62) (flt (by decide : ¬ ((2 : Int32) < (1 : Int32)))).1 ?_
    refine G_lloadN X0 hx (pc' := 66) rfl (hb hby d_exp2_65) rfl ?_
    refine G_lconst X0 hx (pc' := 67) rfl (hb hby d_exp2_66) (z := (0 : Int64)) rfl ?_
    refine G_lcmp X0 hx (pc' := 68) rfl (hb hby d_exp2_67)  ?_
    by_cases hc68_2 : (0 : Int64) < v1
    · refine G_ifYes X0 hx (pc' := 73) (hb hby d_exp2_68) ((if0 _ _).trans (tlt ((lw_gt _ _).2 hc68_2)).2.2.1) (by decide) (by decide) ?_
      refine G_iconst X0 hx (pc' := 74) rfl (hb hby d_exp2_73) (z := (0 : Int32)) rfl ?_
      refine Go.fin X0 hlk (v := some (.int (0 : Int32))) (fun h => by rw [Bd.returns] at h; cases h) (by decide) (by decide) ?_ (fun fs hr => retOut X0 hx Bd.returns rfl (Or.inl ⟨rfl, Or.inl rfl, _, rfl⟩) (hb hby d_exp2_74) hr)
      show Q_exp2 Z v1 v2 v3 v4 h0 n0 _ s₁.heap _
      rw [e0]
      exact ⟨congrArg (fun z => some (Value.int z)) (by rw [f_exp2]; rw [if_pos hc55_1, if_pos hc68_2]), N0, rfl⟩
    · refine G_ifNo X0 hx (pc' := 71) rfl (hb hby d_exp2_68) ((if0 _ _).trans (flt (fun q => hc68_2 ((lw_gt _ _).1 q))).2.2.1) ?_
      refine G_iconst X0 hx (pc' := 72) rfl (hb hby d_exp2_71) (z := (1 : Int32)) rfl ?_
      refine Go.fin X0 hlk (v := some (.int (1 : Int32))) (fun h => by rw [Bd.returns] at h; cases h) (by decide) (by decide) ?_ (fun fs hr => retOut X0 hx Bd.returns rfl (Or.inl ⟨rfl, Or.inl rfl, _, rfl⟩) (hb hby d_exp2_72) hr)
      show Q_exp2 Z v1 v2 v3 v4 h0 n0 _ s₁.heap _
      rw [e0]
      exact ⟨congrArg (fun z => some (Value.int z)) (by rw [f_exp2]; rw [if_pos hc55_1, if_neg hc68_2]), N0, rfl⟩
  · refine G_ifNo X0 hx (pc' := 58) rfl (hb hby d_exp2_55) ((if0 _ _).trans (flt (fun q => hc55_1 ((lw_gt _ _).1 q))).2.2.1) ?_
    refine G_iconst X0 hx (pc' := 59) rfl (hb hby d_exp2_58) (z := (2 : Int32)) rfl ?_
    refine Go.fin X0 hlk (v := some (.int (2 : Int32))) (fun h => by rw [Bd.returns] at h; cases h) (by decide) (by decide) ?_ (fun fs hr => retOut X0 hx Bd.returns rfl (Or.inl ⟨rfl, Or.inl rfl, _, rfl⟩) (hb hby d_exp2_59) hr)
    show Q_exp2 Z v1 v2 v3 v4 h0 n0 _ s₁.heap _
    rw [e0]
    exact ⟨congrArg (fun z => some (Value.int z)) (by rw [f_exp2]; rw [if_neg hc55_1]), N0, rfl⟩
theorem own_m2 (v1 v2 v3 v4 : Int64) : f_merge2 v1 v2 = f_exp2 v1 v2 v3 v4 := by
  unfold f_merge2 f_exp2
  simp only [Int64.zero_add]
  repeat' split
  all_goals first | rfl | (exfalso; simp_all; done) | simp_all
theorem d_merge3_0 : decode prog_40_method_10_code 0 = .ok (.iconst 0, 1) := by decide +kernel
theorem d_merge3_1 : decode prog_40_method_10_code 1 = .ok (.istore_n 1, 1) := by decide +kernel
theorem d_merge3_2 : decode prog_40_method_10_code 2 = .ok (.lconst 0, 1) := by decide +kernel
theorem d_merge3_3 : decode prog_40_method_10_code 3 = .ok (.lstore_n 2, 1) := by decide +kernel
theorem d_merge3_4 : decode prog_40_method_10_code 4 = .ok (.iconst 0, 1) := by decide +kernel
theorem d_merge3_5 : decode prog_40_method_10_code 5 = .ok (.istore 4, 2) := by decide +kernel
theorem d_merge3_7 : decode prog_40_method_10_code 7 = .ok (.iload 4, 2) := by decide +kernel
theorem d_merge3_9 : decode prog_40_method_10_code 9 = .ok (.aload_n 0, 1) := by decide +kernel
theorem d_merge3_10 : decode prog_40_method_10_code 10 = .ok (.arraylength, 1) := by decide +kernel
theorem d_merge3_11 : decode prog_40_method_10_code 11 = .ok (.if_icmp .ge 30, 3) := by decide +kernel
theorem d_merge3_14 : decode prog_40_method_10_code 14 = .ok (.aload_n 0, 1) := by decide +kernel
theorem d_merge3_15 : decode prog_40_method_10_code 15 = .ok (.iload 4, 2) := by decide +kernel
theorem d_merge3_17 : decode prog_40_method_10_code 17 = .ok (.laload, 1) := by decide +kernel
theorem d_merge3_18 : decode prog_40_method_10_code 18 = .ok (.lload_n 2, 1) := by decide +kernel
theorem d_merge3_19 : decode prog_40_method_10_code 19 = .ok (.lcmp, 1) := by decide +kernel
theorem d_merge3_20 : decode prog_40_method_10_code 20 = .ok (.ifCond .gt 8, 3) := by decide +kernel
theorem d_merge3_28 : decode prog_40_method_10_code 28 = .ok (.lload_n 2, 1) := by decide +kernel
theorem d_merge3_29 : decode prog_40_method_10_code 29 = .ok (.aload_n 0, 1) := by decide +kernel
theorem d_merge3_30 : decode prog_40_method_10_code 30 = .ok (.iload 4, 2) := by decide +kernel
theorem d_merge3_32 : decode prog_40_method_10_code 32 = .ok (.laload, 1) := by decide +kernel
theorem d_merge3_33 : decode prog_40_method_10_code 33 = .ok (.ladd, 1) := by decide +kernel
theorem d_merge3_34 : decode prog_40_method_10_code 34 = .ok (.lstore_n 2, 1) := by decide +kernel
theorem d_merge3_35 : decode prog_40_method_10_code 35 = .ok (.iinc 4 1, 3) := by decide +kernel
theorem d_merge3_38 : decode prog_40_method_10_code 38 = .ok (.goto (-31), 3) := by decide +kernel
theorem d_merge3_41 : decode prog_40_method_10_code 41 = .ok (.iload_n 1, 1) := by decide +kernel
theorem d_merge3_42 : decode prog_40_method_10_code 42 = .ok (.ireturn, 1) := by decide +kernel
theorem d_merge3_23 : decode prog_40_method_10_code 23 = .ok (.iload 4, 2) := by decide +kernel
theorem d_merge3_25 : decode prog_40_method_10_code 25 = .ok (.iconst 1, 1) := by decide +kernel
theorem d_merge3_26 : decode prog_40_method_10_code 26 = .ok (.iadd, 1) := by decide +kernel
theorem d_merge3_27 : decode prog_40_method_10_code 27 = .ok (.istore_n 1, 1) := by decide +kernel
def f_merge3 (y0 : Int64) (y1 : Int64) (y2 : Int64) : Int32 := (if (0 : Int64) < y0 then (if ((0 : Int64) + y0) < y1 then (if (((0 : Int64) + y0) + y1) < y2 then (0 : Int32) else (3 : Int32)) else (if (((0 : Int64) + y0) + y1) < y2 then (2 : Int32) else (3 : Int32))) else (if ((0 : Int64) + y0) < y1 then (if (((0 : Int64) + y0) + y1) < y2 then (1 : Int32) else (3 : Int32)) else (if (((0 : Int64) + y0) + y1) < y2 then (2 : Int32) else (3 : Int32))))
theorem ef_merge3 (m : MethodId) (v0 : Addr) : entryFrame m #[(.ref v0)] 5 = mkF m 0 #[.val (.ref v0), .unset, .unset, .unset, .unset] [] := by first | (simp [entryFrame, mkF, argsToLocals, Value.category]; done) | rfl
def Q_merge3 (Z : State) (v0 : Addr) (y0 : Int64) (y1 : Int64) (y2 : Int64) (h0 : Heap) (n0 : Nat) (v : Option Value) (h : Heap) (L : List Loc) : Prop := v = some (.int (f_merge3 y0 y1 y2)) ∧ Fr n0 L ∧ h = h0
set_option maxRecDepth 65536 in
set_option maxHeartbeats 40000000 in
theorem rm_merge3 (l : Launch) (Z : State) (a0 : Array Value) (hw : ∀ d ∈ tables_1, d.before a0 Z = true) (ws : List Jvm.Cond) (v0 : Addr) (y0 : Int64) (y1 : Int64) (y2 : Int64) (h0 : Heap) (n0 : Nat) (Z0 : n0 ≤ h0.size) (f0_J_v0 : AJ Z h0 v0 [y0, y1, y2]) :
    MetFree l (⟨"com/example/quern/quern/core/TreeUpdate", "mergeCount", "([J)I"⟩ : MethodName) (head1 (Jvm.Cond.code (⟨"com/example/quern/quern/core/TreeUpdate", "mergeCount", "([J)I"⟩ : MethodName) prog_40_method_10_code 5 (some .int) :: ws) ({ frames := 0, cells := 0, slots := 0, locals := 0 } : Room)) (fun a U => a = #[(.ref v0)] ∧ Z.Warmed39 U.vm ∧ U.heap = h0) (fun _ _ _ _ _ => True) (fun _ U o U' => ∃ v L, o = .returned v ∧ Q_merge3 Z v0 y0 y1 y2 h0 n0 v U'.heap L ∧ FrameEnd U o U' L ({ frames := 0, cells := 0, slots := 0, locals := 0 } : Room).cells ({ frames := 0, cells := 0, slots := 0, locals := 0 } : Room).slots) := by
  refine MetFree.of_bodySF (plainFor_of_name (by first | (simp [plainName, overriddenIn]; done) | decide +kernel)) hisR ?_
  intro p e s m args below meth c s₁ Bd hml0 hP hK
  obtain ⟨rfl, hZ, hh⟩ := hP
  have hx := Bd.exec
  have hby := Bd.bytes
  have hml : c.maxLocals = 5 := hml0
  have hown : s.vm.findClass "com/example/quern/quern/core/TreeUpdate" = some m.cls := findClass_of_methodNamed Bd.named
  have hnm := (name_of_methodNamed Bd.named Bd.method).1
  have hlk : meth.locks = false := Bd.notSynchronized
  have X0 : Stand p l e ({ frames := 0, cells := 0, slots := 0, locals := 0 } : Room) s m #[(.ref v0)] below meth c s₁ [] 0 0 := Stand.of_body Bd
  have e0 : s₁.heap = h0 := by rw [← hh, Bd.state]; rfl
  have N0 := Fr.nil n0
  refine Go.enter (Q := Q_merge3 Z v0 y0 y1 y2 h0 n0) (C := ({ frames := 0, cells := 0, slots := 0, locals := 0 } : Room).cells) (N := ({ frames := 0, cells := 0, slots := 0, locals := 0 } : Room).slots) (ef_merge3 m v0) ?_
  show Go p e below s _ _ _ s₁ (mkF m 0 #[.val (.ref v0), .unset, .unset, .unset, .unset] [])
  refine G_iconst X0 hx (pc' := 1) rfl (hb hby d_merge3_0) (z := (0 : Int32)) rfl ?_
  refine G_istoreN X0 hx (pc' := 2) rfl (hb hby d_merge3_1) (L' := #[.val (.ref v0), .val (.int (0 : Int32)), .unset, .unset, .unset]) rfl ?_
  refine G_lconst X0 hx (pc' := 3) rfl (hb hby d_merge3_2) (z := (0 : Int64)) rfl ?_
  refine G_lstoreN X0 hx (pc' := 4) rfl (hb hby d_merge3_3) (L' := #[.val (.ref v0), .val (.int (0 : Int32)), .val (.long (0 : Int64)), .second, .unset]) rfl ?_
  refine G_iconst X0 hx (pc' := 5) rfl (hb hby d_merge3_4) (z := (0 : Int32)) rfl ?_
  refine G_istore X0 hx (pc' := 7) rfl (hb hby d_merge3_5) (L' := #[.val (.ref v0), .val (.int (0 : Int32)), .val (.long (0 : Int64)), .second, .val (.int (0 : Int32))]) rfl ?_
  refine G_iload X0 hx (pc' := 9) rfl (hb hby d_merge3_7) rfl ?_
  refine G_aloadN X0 hx (pc' := 10) rfl (hb hby d_merge3_9) rfl rfl ?_
  refine Go.st (lenAJ X0 hx hZ e0 f0_J_v0 (g := (mkF m 10 #[.val (.ref v0), .val (.int (0 : Int32)), .val (.long (0 : Int64)), .second, .val (.int (0 : Int32))] [(.ref v0), (.int (0 : Int32))])) rfl rfl (hb hby d_merge3_10)) ?_
  show Go p e below s _ _ _ s₁ (mkF m 11 #[.val (.ref v0), .val (.int (0 : Int32)), .val (.long (0 : Int64)), .second, .val (.int (0 : Int32))] [(.int (3 : Int32)), (.int (0 : Int32))])
  refine G_icmpNo X0 hx (pc' := 14) rfl (hb hby d_merge3_11) (tlt (by decide : (0 : Int32) < (3 : Int32))).2.1 ?_
  refine G_aloadN X0 hx (pc' := 15) rfl (hb hby d_merge3_14) rfl rfl ?_
  refine G_iload X0 hx (pc' := 17) rfl (hb hby d_merge3_15) rfl ?_
  refine Go.st (ldAJ X0 hx hZ e0 f0_J_v0 (j := (0 : Int32)) (by decide) (show Int32.toNatClampNeg 0 < 3 from by decide) (g := (mkF m 17 #[.val (.ref v0), .val (.int (0 : Int32)), .val (.long (0 : Int64)), .second, .val (.int (0 : Int32))] [(.int (0 : Int32)), (.ref v0)])) rfl rfl (hb hby d_merge3_17)) ?_
  show Go p e below s _ _ _ s₁ (mkF m 18 #[.val (.ref v0), .val (.int (0 : Int32)), .val (.long (0 : Int64)), .second, .val (.int (0 : Int32))] [(.long y0)])
  refine G_lloadN X0 hx (pc' := 19) rfl (hb hby d_merge3_18) rfl ?_
  refine G_lcmp X0 hx (pc' := 20) rfl (hb hby d_merge3_19)  ?_
  by_cases hc20_1 : (0 : Int64) < y0
  · refine G_ifYes X0 hx (pc' := 28) (hb hby d_merge3_20) ((if0 _ _).trans (tlt ((lw_gt _ _).2 hc20_1)).2.2.1) (by decide) (by decide) ?_
    refine G_lloadN X0 hx (pc' := 29) rfl (hb hby d_merge3_28) rfl ?_
    refine G_aloadN X0 hx (pc' := 30) rfl (hb hby d_merge3_29) rfl rfl ?_
    refine G_iload X0 hx (pc' := 32) rfl (hb hby d_merge3_30) rfl ?_
    refine Go.st (ldAJ X0 hx hZ e0 f0_J_v0 (j := (0 : Int32)) (by decide) (show Int32.toNatClampNeg 0 < 3 from by decide) (g := (mkF m 32 #[.val (.ref v0), .val (.int (0 : Int32)), .val (.long (0 : Int64)), .second, .val (.int (0 : Int32))] [(.int (0 : Int32)), (.ref v0), (.long (0 : Int64))])) rfl rfl (hb hby d_merge3_32)) ?_
    show Go p e below s _ _ _ s₁ (mkF m 33 #[.val (.ref v0), .val (.int (0 : Int32)), .val (.long (0 : Int64)), .second, .val (.int (0 : Int32))] [(.long y0), (.long (0 : Int64))])
    refine G_ladd X0 hx (pc' := 34) rfl (hb hby d_merge3_33)  ?_
    refine G_lstoreN X0 hx (pc' := 35) rfl (hb hby d_merge3_34) (L' := #[.val (.ref v0), .val (.int (0 : Int32)), .val (.long ((0 : Int64) + y0)), .second, .val (.int (0 : Int32))]) rfl ?_
    refine G_iinc X0 hx (pc' := 38) rfl (hb hby d_merge3_35) rfl (z := (1 : Int32)) rfl (L' := #[.val (.ref v0), .val (.int (0 : Int32)), .val (.long ((0 : Int64) + y0)), .second, .val (.int (1 : Int32))]) rfl ?_
    refine G_goto X0 hx (pc' := 7) (hb hby d_merge3_38)  (by decide) (by decide) ?_
    refine G_iload X0 hx (pc' := 9) rfl (hb hby d_merge3_7) rfl ?_
    refine G_aloadN X0 hx (pc' := 10) rfl (hb hby d_merge3_9) rfl rfl ?_
    refine Go.st (lenAJ X0 hx hZ e0 f0_J_v0 (g := (mkF m 10 #[.val (.ref v0), .val (.int (0 : Int32)), .val (.long ((0 : Int64) + y0)), .second, .val (.int (1 : Int32))] [(.ref v0), (.int (1 : Int32))])) rfl rfl (hb hby d_merge3_10)) ?_
    show Go p e below s _ _ _ s₁ (mkF m 11 #[.val (.ref v0), .val (.int (0 : Int32)), .val (.long ((0 : Int64) + y0)), .second, .val (.int (1 : Int32))] [(.int (3 : Int32)), (.int (1 : Int32))])
    refine G_icmpNo X0 hx (pc' := 14) rfl (hb hby d_merge3_11) (tlt (by decide : (1 : Int32) < (3 : Int32))).2.1 ?_
    refine G_aloadN X0 hx (pc' := 15) rfl (hb hby d_merge3_14) rfl rfl ?_
    refine G_iload X0 hx (pc' := 17) rfl (hb hby d_merge3_15) rfl ?_
    refine Go.st (ldAJ X0 hx hZ e0 f0_J_v0 (j := (1 : Int32)) (by decide) (show Int32.toNatClampNeg 1 < 3 from by decide) (g := (mkF m 17 #[.val (.ref v0), .val (.int (0 : Int32)), .val (.long ((0 : Int64) + y0)), .second, .val (.int (1 : Int32))] [(.int (1 : Int32)), (.ref v0)])) rfl rfl (hb hby d_merge3_17)) ?_
    show Go p e below s _ _ _ s₁ (mkF m 18 #[.val (.ref v0), .val (.int (0 : Int32)), .val (.long ((0 : Int64) + y0)), .second, .val (.int (1 : Int32))] [(.long y1)])
    refine G_lloadN X0 hx (pc' := 19) rfl (hb hby d_merge3_18) rfl ?_
    refine G_lcmp X0 hx (pc' := 20) rfl (hb hby d_merge3_19)  ?_
    by_cases hc20_2 : ((0 : Int64) + y0) < y1
    · refine G_ifYes X0 hx (pc' := 28) (hb hby d_merge3_20) ((if0 _ _).trans (tlt ((lw_gt _ _).2 hc20_2)).2.2.1) (by decide) (by decide) ?_
      refine G_lloadN X0 hx (pc' := 29) rfl (hb hby d_merge3_28) rfl ?_
      refine G_aloadN X0 hx (pc' := 30) rfl (hb hby d_merge3_29) rfl rfl ?_
      refine G_iload X0 hx (pc' := 32) rfl (hb hby d_merge3_30) rfl ?_
      refine Go.st (ldAJ X0 hx hZ e0 f0_J_v0 (j := (1 : Int32)) (by decide) (show Int32.toNatClampNeg 1 < 3 from by decide) (g := (mkF m 32 #[.val (.ref v0), .val (.int (0 : Int32)), .val (.long ((0 : Int64) + y0)), .second, .val (.int (1 : Int32))] [(.int (1 : Int32)), (.ref v0), (.long ((0 : Int64) + y0))])) rfl rfl (hb hby d_merge3_32)) ?_
      show Go p e below s _ _ _ s₁ (mkF m 33 #[.val (.ref v0), .val (.int (0 : Int32)), .val (.long ((0 : Int64) + y0)), .second, .val (.int (1 : Int32))] [(.long y1), (.long ((0 : Int64) + y0))])
      refine G_ladd X0 hx (pc' := 34) rfl (hb hby d_merge3_33)  ?_
      refine G_lstoreN X0 hx (pc' := 35) rfl (hb hby d_merge3_34) (L' := #[.val (.ref v0), .val (.int (0 : Int32)), .val (.long (((0 : Int64) + y0) + y1)), .second, .val (.int (1 : Int32))]) rfl ?_
      refine G_iinc X0 hx (pc' := 38) rfl (hb hby d_merge3_35) rfl (z := (2 : Int32)) rfl (L' := #[.val (.ref v0), .val (.int (0 : Int32)), .val (.long (((0 : Int64) + y0) + y1)), .second, .val (.int (2 : Int32))]) rfl ?_
      refine G_goto X0 hx (pc' := 7) (hb hby d_merge3_38)  (by decide) (by decide) ?_
      refine G_iload X0 hx (pc' := 9) rfl (hb hby d_merge3_7) rfl ?_
      refine G_aloadN X0 hx (pc' := 10) rfl (hb hby d_merge3_9) rfl rfl ?_
      refine Go.st (lenAJ X0 hx hZ e0 f0_J_v0 (g := (mkF m 10 #[.val (.ref v0), .val (.int (0 : Int32)), .val (.long (((0 : Int64) + y0) + y1)), .second, .val (.int (2 : Int32))] [(.ref v0), (.int (2 : Int32))])) rfl rfl (hb hby d_merge3_10)) ?_
      show Go p e below s _ _ _ s₁ (mkF m 11 #[.val (.ref v0), .val (.int (0 : Int32)), .val (.long (((0 : Int64) + y0) + y1)), .second, .val (.int (2 : Int32))] [(.int (3 : Int32)), (.int (2 : Int32))])
      refine G_icmpNo X0 hx (pc' := 14) rfl (hb hby d_merge3_11) (tlt (by decide : (2 : Int32) < (3 : Int32))).2.1 ?_
      refine G_aloadN X0 hx (pc' := 15) rfl (hb hby d_merge3_14) rfl rfl ?_
      refine G_iload X0 hx (pc' := 17) rfl (hb hby d_merge3_15) rfl ?_
      refine Go.st (ldAJ X0 hx hZ e0 f0_J_v0 (j := (2 : Int32)) (by decide) (show Int32.toNatClampNeg 2 < 3 from by decide) (g := (mkF m 17 #[.val (.ref v0), .val (.int (0 : Int32)), .val (.long (((0 : Int64) + y0) + y1)), .second, .val (.int (2 : Int32))] [(.int (2 : Int32)), (.ref v0)])) rfl rfl (hb hby d_merge3_17)) ?_
      show Go p e below s _ _ _ s₁ (mkF m 18 #[.val (.ref v0), .val (.int (0 : Int32)), .val (.long (((0 : Int64) + y0) + y1)), .second, .val (.int (2 : Int32))] [(.long y2)])
      refine G_lloadN X0 hx (pc' := 19) rfl (hb hby d_merge3_18) rfl ?_
      refine G_lcmp X0 hx (pc' := 20) rfl (hb hby d_merge3_19)  ?_
      by_cases hc20_3 : (((0 : Int64) + y0) + y1) < y2
      · refine G_ifYes X0 hx (pc' := 28) (hb hby d_merge3_20) ((if0 _ _).trans (tlt ((lw_gt _ _).2 hc20_3)).2.2.1) (by decide) (by decide) ?_
        refine G_lloadN X0 hx (pc' := 29) rfl (hb hby d_merge3_28) rfl ?_
        refine G_aloadN X0 hx (pc' := 30) rfl (hb hby d_merge3_29) rfl rfl ?_
        refine G_iload X0 hx (pc' := 32) rfl (hb hby d_merge3_30) rfl ?_
        refine Go.st (ldAJ X0 hx hZ e0 f0_J_v0 (j := (2 : Int32)) (by decide) (show Int32.toNatClampNeg 2 < 3 from by decide) (g := (mkF m 32 #[.val (.ref v0), .val (.int (0 : Int32)), .val (.long (((0 : Int64) + y0) + y1)), .second, .val (.int (2 : Int32))] [(.int (2 : Int32)), (.ref v0), (.long (((0 : Int64) + y0) + y1))])) rfl rfl (hb hby d_merge3_32)) ?_
        show Go p e below s _ _ _ s₁ (mkF m 33 #[.val (.ref v0), .val (.int (0 : Int32)), .val (.long (((0 : Int64) + y0) + y1)), .second, .val (.int (2 : Int32))] [(.long y2), (.long (((0 : Int64) + y0) + y1))])
        refine G_ladd X0 hx (pc' := 34) rfl (hb hby d_merge3_33)  ?_
        refine G_lstoreN X0 hx (pc' := 35) rfl (hb hby d_merge3_34) (L' := #[.val (.ref v0), .val (.int (0 : Int32)), .val (.long ((((0 : Int64) + y0) + y1) + y2)), .second, .val (.int (2 : Int32))]) rfl ?_
        refine G_iinc X0 hx (pc' := 38) rfl (hb hby d_merge3_35) rfl (z := (3 : Int32)) rfl (L' := #[.val (.ref v0), .val (.int (0 : Int32)), .val (.long ((((0 : Int64) + y0) + y1) + y2)), .second, .val (.int (3 : Int32))]) rfl ?_
        refine G_goto X0 hx (pc' := 7) (hb hby d_merge3_38)  (by decide) (by decide) ?_
        refine G_iload X0 hx (pc' := 9) rfl (hb hby d_merge3_7) rfl ?_
        refine G_aloadN X0 hx (pc' := 10) rfl (hb hby d_merge3_9) rfl rfl ?_
        refine Go.st (lenAJ X0 hx hZ e0 f0_J_v0 (g := (mkF m 10 #[.val (.ref v0), .val (.int (0 : Int32)), .val (.long ((((0 : Int64) + y0) + y1) + y2)), .second, .val (.int (3 : Int32))] [(.ref v0), (.int (3 : Int32))])) rfl rfl (hb hby d_merge3_10)) ?_
        show Go p e below s _ _ _ s₁ (mkF m 11 #[.val (.ref v0), .val (.int (0 : Int32)), .val (.long ((((0 : Int64) + y0) + y1) + y2)), .second, .val (.int (3 : Int32))] [(.int (3 : Int32)), (.int (3 : Int32))])
        refine G_icmpYes X0 hx (pc' := 41) (hb hby d_merge3_11) (flt (by decide : ¬ ((3 : Int32) < (3 : Int32)))).2.1 (by decide) (by decide) ?_
        refine G_iloadN X0 hx (pc' := 42) rfl (hb hby d_merge3_41) rfl ?_
        refine Go.fin X0 hlk (v := some (.int (0 : Int32))) (fun h => by rw [Bd.returns] at h; cases h) (by decide) (by decide) ?_ (fun fs hr => retOut X0 hx Bd.returns rfl (Or.inl ⟨rfl, Or.inl rfl, _, rfl⟩) (hb hby d_merge3_42) hr)
        show Q_merge3 Z v0 y0 y1 y2 h0 n0 _ s₁.heap _
        rw [e0]
        exact ⟨congrArg (fun z => some (Value.int z)) (by rw [f_merge3]; rw [if_pos hc20_1, if_pos hc20_2, if_pos hc20_3]), N0, rfl⟩
      · refine G_ifNo X0 hx (pc' := 23) rfl (hb hby d_merge3_20) ((if0 _ _).trans (flt (fun q => hc20_3 ((lw_gt _ _).1 q))).2.2.1) ?_
        refine G_iload X0 hx (pc' := 25) rfl (hb hby d_merge3_23) rfl ?_
        refine G_iconst X0 hx (pc' := 26) rfl (hb hby d_merge3_25) (z := (1 : Int32)) rfl ?_
        refine G_iadd X0 hx (pc' := 27) rfl (hb hby d_merge3_26)  ?_
        rw [show ((2 : Int32) + (1 : Int32)) = (3 : Int32) from by decide]
        refine G_istoreN X0 hx (pc' := 28) rfl (hb hby d_merge3_27) (L' := #[.val (.ref v0), .val (.int (3 : Int32)), .val (.long (((0 : Int64) + y0) + y1)), .second, .val (.int (2 : Int32))]) rfl ?_
        refine G_lloadN X0 hx (pc' := 29) rfl (hb hby d_merge3_28) rfl ?_
        refine G_aloadN X0 hx (pc' := 30) rfl (hb hby d_merge3_29) rfl rfl ?_
        refine G_iload X0 hx (pc' := 32) rfl (hb hby d_merge3_30) rfl ?_
        refine Go.st (ldAJ X0 hx hZ e0 f0_J_v0 (j := (2 : Int32)) (by decide) (show Int32.toNatClampNeg 2 < 3 from by decide) (g := (mkF m 32 #[.val (.ref v0), .val (.int (3 : Int32)), .val (.long (((0 : Int64) + y0) + y1)), .second, .val (.int (2 : Int32))] [(.int (2 : Int32)), (.ref v0), (.long (((0 : Int64) + y0) + y1))])) rfl rfl (hb hby d_merge3_32)) ?_
        show Go p e below s _ _ _ s₁ (mkF m 33 #[.val (.ref v0), .val (.int (3 : Int32)), .val (.long (((0 : Int64) + y0) + y1)), .second, .val (.int (2 : Int32))] [(.long y2), (.long (((0 : Int64) + y0) + y1))])
        refine G_ladd X0 hx (pc' := 34) rfl (hb hby d_merge3_33)  ?_
        refine G_lstoreN X0 hx (pc' := 35) rfl (hb hby d_merge3_34) (L' := #[.val (.ref v0), .val (.int (3 : Int32)), .val (.long ((((0 : Int64) + y0) + y1) + y2)), .second, .val (.int (2 : Int32))]) rfl ?_
        refine G_iinc X0 hx (pc' := 38) rfl (hb hby d_merge3_35) rfl (z := (3 : Int32)) rfl (L' := #[.val (.ref v0), .val (.int (3 : Int32)), .val (.long ((((0 : Int64) + y0) + y1) + y2)), .second, .val (.int (3 : Int32))]) rfl ?_
        refine G_goto X0 hx (pc' := 7) (hb hby d_merge3_38)  (by decide) (by decide) ?_
        refine G_iload X0 hx (pc' := 9) rfl (hb hby d_merge3_7) rfl ?_
        refine G_aloadN X0 hx (pc' := 10) rfl (hb hby d_merge3_9) rfl rfl ?_
        refine Go.st (lenAJ X0 hx hZ e0 f0_J_v0 (g := (mkF m 10 #[.val (.ref v0), .val (.int (3 : Int32)), .val (.long ((((0 : Int64) + y0) + y1) + y2)), .second, .val (.int (3 : Int32))] [(.ref v0), (.int (3 : Int32))])) rfl rfl (hb hby d_merge3_10)) ?_
        show Go p e below s _ _ _ s₁ (mkF m 11 #[.val (.ref v0), .val (.int (3 : Int32)), .val (.long ((((0 : Int64) + y0) + y1) + y2)), .second, .val (.int (3 : Int32))] [(.int (3 : Int32)), (.int (3 : Int32))])
        refine G_icmpYes X0 hx (pc' := 41) (hb hby d_merge3_11) (flt (by decide : ¬ ((3 : Int32) < (3 : Int32)))).2.1 (by decide) (by decide) ?_
        refine G_iloadN X0 hx (pc' := 42) rfl (hb hby d_merge3_41) rfl ?_
        refine Go.fin X0 hlk (v := some (.int (3 : Int32))) (fun h => by rw [Bd.returns] at h; cases h) (by decide) (by decide) ?_ (fun fs hr => retOut X0 hx Bd.returns rfl (Or.inl ⟨rfl, Or.inl rfl, _, rfl⟩) (hb hby d_merge3_42) hr)
        show Q_merge3 Z v0 y0 y1 y2 h0 n0 _ s₁.heap _
        rw [e0]
        exact ⟨congrArg (fun z => some (Value.int z)) (by rw [f_merge3]; rw [if_pos hc20_1, if_pos hc20_2, if_neg hc20_3]), N0, rfl⟩
    · refine G_ifNo X0 hx (pc' := 23) rfl (hb hby d_merge3_20) ((if0 _ _).trans (flt (fun q => hc20_2 ((lw_gt _ _).1 q))).2.2.1) ?_
      refine G_iload X0 hx (pc' := 25) rfl (hb hby d_merge3_23) rfl ?_
      refine G_iconst X0 hx (pc' := 26) rfl (hb hby d_merge3_25) (z := (1 : Int32)) rfl ?_
      refine G_iadd X0 hx (pc' := 27) rfl (hb hby d_merge3_26)  ?_
      rw [show ((1 : Int32) + (1 : Int32)) = (2 : Int32) from by decide]
      refine G_istoreN X0 hx (pc' := 28) rfl (hb hby d_merge3_27) (L' := #[.val (.ref v0), .val (.int (2 : Int32)), .val (.long ((0 : Int64) + y0)), .second, .val (.int (1 : Int32))]) rfl ?_
      refine G_lloadN X0 hx (pc' := 29) rfl (hb hby d_merge3_28) rfl ?_
      refine G_aloadN X0 hx (pc' := 30) rfl (hb hby d_merge3_29) rfl rfl ?_
      refine G_iload X0 hx (pc' := 32) rfl (hb hby d_merge3_30) rfl ?_
      refine Go.st (ldAJ X0 hx hZ e0 f0_J_v0 (j := (1 : Int32)) (by decide) (show Int32.toNatClampNeg 1 < 3 from by decide) (g := (mkF m 32 #[.val (.ref v0), .val (.int (2 : Int32)), .val (.long ((0 : Int64) + y0)), .second, .val (.int (1 : Int32))] [(.int (1 : Int32)), (.ref v0), (.long ((0 : Int64) + y0))])) rfl rfl (hb hby d_merge3_32)) ?_
      show Go p e below s _ _ _ s₁ (mkF m 33 #[.val (.ref v0), .val (.int (2 : Int32)), .val (.long ((0 : Int64) + y0)), .second, .val (.int (1 : Int32))] [(.long y1), (.long ((0 : Int64) + y0))])
      refine G_ladd X0 hx (pc' := 34) rfl (hb hby d_merge3_33)  ?_
      refine G_lstoreN X0 hx (pc' := 35) rfl (hb hby d_merge3_34) (L' := #[.val (.ref v0), .val (.int (2 : Int32)), .val (.long (((0 : Int64) + y0) + y1)), .second, .val (.int (1 : Int32))]) rfl ?_
      refine G_iinc X0 hx (pc' := 38) rfl (hb hby d_merge3_35) rfl (z := (2 : Int32)) rfl (L' := #[.val (.ref v0), .val (.int (2 : Int32)), .val (.long (((0 : Int64) + y0) + y1)), .second, .val (.int (2 : Int32))]) rfl ?_
      refine G_goto X0 hx (pc' := 7) (hb hby d_merge3_38)  (by decide) (by decide) ?_
      refine G_iload X0 hx (pc' := 9) rfl (hb hby d_merge3_7) rfl ?_
      refine G_aloadN X0 hx (pc' := 10) rfl (hb hby d_merge3_9) rfl rfl ?_
      refine Go.st (lenAJ X0 hx hZ e0 f0_J_v0 (g := (mkF m 10 #[.val (.ref v0), .val (.int (2 : Int32)), .val (.long (((0 : Int64) + y0) + y1)), .second, .val (.int (2 : Int32))] [(.ref v0), (.int (2 : Int32))])) rfl rfl (hb hby d_merge3_10)) ?_
      show Go p e below s _ _ _ s₁ (mkF m 11 #[.val (.ref v0), .val (.int (2 : Int32)), .val (.long (((0 : Int64) + y0) + y1)), .second, .val (.int (2 : Int32))] [(.int (3 : Int32)), (.int (2 : Int32))])
      refine G_icmpNo X0 hx (pc' := 14) rfl (hb hby d_merge3_11) (tlt (by decide : (2 : Int32) < (3 : Int32))).2.1 ?_
      refine G_aloadN X0 hx (pc' := 15) rfl (hb hby d_merge3_14) rfl rfl ?_
      refine G_iload X0 hx (pc' := 17) rfl (hb hby d_merge3_15) rfl ?_
      refine Go.st (ldAJ X0 hx hZ e0 f0_J_v0 (j := (2 : Int32)) (by decide) (show Int32.toNatClampNeg 2 < 3 from by decide) (g := (mkF m 17 #[.val (.ref v0), .val (.int (2 : Int32)), .val (.long (((0 : Int64) + y0) + y1)), .second, .val (.int (2 : Int32))] [(.int (2 : Int32)), (.ref v0)])) rfl rfl (hb hby d_merge3_17)) ?_
      show Go p e below s _ _ _ s₁ (mkF m 18 #[.val (.ref v0), .val (.int (2 : Int32)), .val (.long (((0 : Int64) + y0) + y1)), .second, .val (.int (2 : Int32))] [(.long y2)])
      refine G_lloadN X0 hx (pc' := 19) rfl (hb hby d_merge3_18) rfl ?_
      refine G_lcmp X0 hx (pc' := 20) rfl (hb hby d_merge3_19)  ?_
      by_cases hc20_4 : (((0 : Int64) + y0) + y1) < y2
      · refine G_ifYes X0 hx (pc' := 28) (hb hby d_merge3_20) ((if0 _ _).trans (tlt ((lw_gt _ _).2 hc20_4)).2.2.1) (by decide) (by decide) ?_
        refine G_lloadN X0 hx (pc' := 29) rfl (hb hby d_merge3_28) rfl ?_
        refine G_aloadN X0 hx (pc' := 30) rfl (hb hby d_merge3_29) rfl rfl ?_
        refine G_iload X0 hx (pc' := 32) rfl (hb hby d_merge3_30) rfl ?_
        refine Go.st (ldAJ X0 hx hZ e0 f0_J_v0 (j := (2 : Int32)) (by decide) (show Int32.toNatClampNeg 2 < 3 from by decide) (g := (mkF m 32 #[.val (.ref v0), .val (.int (2 : Int32)), .val (.long (((0 : Int64) + y0) + y1)), .second, .val (.int (2 : Int32))] [(.int (2 : Int32)), (.ref v0), (.long (((0 : Int64) + y0) + y1))])) rfl rfl (hb hby d_merge3_32)) ?_
        show Go p e below s _ _ _ s₁ (mkF m 33 #[.val (.ref v0), .val (.int (2 : Int32)), .val (.long (((0 : Int64) + y0) + y1)), .second, .val (.int (2 : Int32))] [(.long y2), (.long (((0 : Int64) + y0) + y1))])
        refine G_ladd X0 hx (pc' := 34) rfl (hb hby d_merge3_33)  ?_
        refine G_lstoreN X0 hx (pc' := 35) rfl (hb hby d_merge3_34) (L' := #[.val (.ref v0), .val (.int (2 : Int32)), .val (.long ((((0 : Int64) + y0) + y1) + y2)), .second, .val (.int (2 : Int32))]) rfl ?_
        refine G_iinc X0 hx (pc' := 38) rfl (hb hby d_merge3_35) rfl (z := (3 : Int32)) rfl (L' := #[.val (.ref v0), .val (.int (2 : Int32)), .val (.long ((((0 : Int64) + y0) + y1) + y2)), .second, .val (.int (3 : Int32))]) rfl ?_
        refine G_goto X0 hx (pc' := 7) (hb hby d_merge3_38)  (by decide) (by decide) ?_
        refine G_iload X0 hx (pc' := 9) rfl (hb hby d_merge3_7) rfl ?_
        refine G_aloadN X0 hx (pc' := 10) rfl (hb hby d_merge3_9) rfl rfl ?_
        refine Go.st (lenAJ X0 hx hZ e0 f0_J_v0 (g := (mkF m 10 #[.val (.ref v0), .val (.int (2 : Int32)), .val (.long ((((0 : Int64) + y0) + y1) + y2)), .second, .val (.int (3 : Int32))] [(.ref v0), (.int (3 : Int32))])) rfl rfl (hb hby d_merge3_10)) ?_
        show Go p e below s _ _ _ s₁ (mkF m 11 #[.val (.ref v0), .val (.int (2 : Int32)), .val (.long ((((0 : Int64) + y0) + y1) + y2)), .second, .val (.int (3 : Int32))] [(.int (3 : Int32)), (.int (3 : Int32))])
        refine G_icmpYes X0 hx (pc' := 41) (hb hby d_merge3_11) (flt (by decide : ¬ ((3 : Int32) < (3 : Int32)))).2.1 (by decide) (by decide) ?_
        refine G_iloadN X0 hx (pc' := 42) rfl (hb hby d_merge3_41) rfl ?_
        refine Go.fin X0 hlk (v := some (.int (2 : Int32))) (fun h => by rw [Bd.returns] at h; cases h) (by decide) (by decide) ?_ (fun fs hr => retOut X0 hx Bd.returns rfl (Or.inl ⟨rfl, Or.inl rfl, _, rfl⟩) (hb hby d_merge3_42) hr)
        show Q_merge3 Z v0 y0 y1 y2 h0 n0 _ s₁.heap _
        rw [e0]
        exact ⟨congrArg (fun z => some (Value.int z)) (by rw [f_merge3]; rw [if_pos hc20_1, if_neg hc20_2, if_pos hc20_4]), N0, rfl⟩
      · refine G_ifNo X0 hx (pc' := 23) rfl (hb hby d_merge3_20) ((if0 _ _).trans (flt (fun q => hc20_4 ((lw_gt _ _).1 q))).2.2.1) ?_
        refine G_iload X0 hx (pc' := 25) rfl (hb hby d_merge3_23) rfl ?_
        refine G_iconst X0 hx (pc' := 26) rfl (hb hby d_merge3_25) (z := (1 : Int32)) rfl ?_
        refine G_iadd X0 hx (pc' := 27) rfl (hb hby d_merge3_26)  ?_
        rw [show ((2 : Int32) + (1 : Int32)) = (3 : Int32) from by decide]
        refine G_istoreN X0 hx (pc' := 28) rfl (hb hby d_merge3_27) (L' := #[.val (.ref v0), .val (.int (3 : Int32)), .val (.long (((0 : Int64) + y0) + y1)), .second, .val (.int (2 : Int32))]) rfl ?_
        refine G_lloadN X0 hx (pc' := 29) rfl (hb hby d_merge3_28) rfl ?_
        refine G_aloadN X0 hx (pc' := 30) rfl (hb hby d_merge3_29) rfl rfl ?_
        refine G_iload X0 hx (pc' := 32) rfl (hb hby d_merge3_30) rfl ?_
        refine Go.st (ldAJ X0 hx hZ e0 f0_J_v0 (j := (2 : Int32)) (by decide) (show Int32.toNatClampNeg 2 < 3 from by decide) (g := (mkF m 32 #[.val (.ref v0), .val (.int (3 : Int32)), .val (.long (((0 : Int64) + y0) + y1)), .second, .val (.int (2 : Int32))] [(.int (2 : Int32)), (.ref v0), (.long (((0 : Int64) + y0) + y1))])) rfl rfl (hb hby d_merge3_32)) ?_
        show Go p e below s _ _ _ s₁ (mkF m 33 #[.val (.ref v0), .val (.int (3 : Int32)), .val (.long (((0 : Int64) + y0) + y1)), .second, .val (.int (2 : Int32))] [(.long y2), (.long (((0 : Int64) + y0) + y1))])
        refine G_ladd X0 hx (pc' := 34) rfl (hb hby d_merge3_33)  ?_
        refine G_lstoreN X0 hx (pc' := 35) rfl (hb hby d_merge3_34) (L' := #[.val (.ref v0), .val (.int (3 : Int32)), .val (.long ((((0 : Int64) + y0) + y1) + y2)), .second, .val (.int (2 : Int32))]) rfl ?_
        refine G_iinc X0 hx (pc' := 38) rfl (hb hby d_merge3_35) rfl (z := (3 : Int32)) rfl (L' := #[.val (.ref v0), .val (.int (3 : Int32)), .val (.long ((((0 : Int64) + y0) + y1) + y2)), .second, .val (.int (3 : Int32))]) rfl ?_
        refine G_goto X0 hx (pc' := 7) (hb hby d_merge3_38)  (by decide) (by decide) ?_
        refine G_iload X0 hx (pc' := 9) rfl (hb hby d_merge3_7) rfl ?_
        refine G_aloadN X0 hx (pc' := 10) rfl (hb hby d_merge3_9) rfl rfl ?_
        refine Go.st (lenAJ X0 hx hZ e0 f0_J_v0 (g := (mkF m 10 #[.val (.ref v0), .val (.int (3 : Int32)), .val (.long ((((0 : Int64) + y0) + y1) + y2)), .second, .val (.int (3 : Int32))] [(.ref v0), (.int (3 : Int32))])) rfl rfl (hb hby d_merge3_10)) ?_
        show Go p e below s _ _ _ s₁ (mkF m 11 #[.val (.ref v0), .val (.int (3 : Int32)), .val (.long ((((0 : Int64) + y0) + y1) + y2)), .second, .val (.int (3 : Int32))] [(.int (3 : Int32)), (.int (3 : Int32))])
        refine G_icmpYes X0 hx (pc' := 41) (hb hby d_merge3_11) (flt (by decide : ¬ ((3 : Int32) < (3 : Int32)))).2.1 (by decide) (by decide) ?_
        refine G_iloadN X0 hx (pc' := 42) rfl (hb hby d_merge3_41) rfl ?_
        refine Go.fin X0 hlk (v := some (.int (3 : Int32))) (fun h => by rw [Bd.returns] at h; cases h) (by decide) (by decide) ?_ (fun fs hr => retOut X0 hx Bd.returns rfl (Or.inl ⟨rfl, Or.inl rfl, _, rfl⟩) (hb hby d_merge3_42) hr)
        show Q_merge3 Z v0 y0 y1 y2 h0 n0 _ s₁.heap _
        rw [e0]
        exact ⟨congrArg (fun z => some (Value.int z)) (by rw [f_merge3]; rw [if_pos hc20_1, if_neg hc20_2, if_neg hc20_4]), N0, rfl⟩
  · refine G_ifNo X0 hx (pc' := 23) rfl (hb hby d_merge3_20) ((if0 _ _).trans (flt (fun q => hc20_1 ((lw_gt _ _).1 q))).2.2.1) ?_
    refine G_iload X0 hx (pc' := 25) rfl (hb hby d_merge3_23) rfl ?_
    refine G_iconst X0 hx (pc' := 26) rfl (hb hby d_merge3_25) (z := (1 : Int32)) rfl ?_
    refine G_iadd X0 hx (pc' := 27) rfl (hb hby d_merge3_26)  ?_
    rw [show ((0 : Int32) + (1 : Int32)) = (1 : Int32) from by decide]
    refine G_istoreN X0 hx (pc' := 28) rfl (hb hby d_merge3_27) (L' := #[.val (.ref v0), .val (.int (1 : Int32)), .val (.long (0 : Int64)), .second, .val (.int (0 : Int32))]) rfl ?_
    refine G_lloadN X0 hx (pc' := 29) rfl (hb hby d_merge3_28) rfl ?_
    refine G_aloadN X0 hx (pc' := 30) rfl (hb hby d_merge3_29) rfl rfl ?_
    refine G_iload X0 hx (pc' := 32) rfl (hb hby d_merge3_30) rfl ?_
    refine Go.st (ldAJ X0 hx hZ e0 f0_J_v0 (j := (0 : Int32)) (by decide) (show Int32.toNatClampNeg 0 < 3 from by decide) (g := (mkF m 32 #[.val (.ref v0), .val (.int (1 : Int32)), .val (.long (0 : Int64)), .second, .val (.int (0 : Int32))] [(.int (0 : Int32)), (.ref v0), (.long (0 : Int64))])) rfl rfl (hb hby d_merge3_32)) ?_
    show Go p e below s _ _ _ s₁ (mkF m 33 #[.val (.ref v0), .val (.int (1 : Int32)), .val (.long (0 : Int64)), .second, .val (.int (0 : Int32))] [(.long y0), (.long (0 : Int64))])
    refine G_ladd X0 hx (pc' := 34) rfl (hb hby d_merge3_33)  ?_
    refine G_lstoreN X0 hx (pc' := 35) rfl (hb hby d_merge3_34) (L' := #[.val (.ref v0), .val (.int (1 : Int32)), .val (.long ((0 : Int64) + y0)), .second, .val (.int (0 : Int32))]) rfl ?_
    refine G_iinc X0 hx (pc' := 38) rfl (hb hby d_merge3_35) rfl (z := (1 : Int32)) rfl (L' := #[.val (.ref v0), .val (.int (1 : Int32)), .val (.long ((0 : Int64) + y0)), .second, .val (.int (1 : Int32))]) rfl ?_
    refine G_goto X0 hx (pc' := 7) (hb hby d_merge3_38)  (by decide) (by decide) ?_
    refine G_iload X0 hx (pc' := 9) rfl (hb hby d_merge3_7) rfl ?_
    refine G_aloadN X0 hx (pc' := 10) rfl (hb hby d_merge3_9) rfl rfl ?_
    refine Go.st (lenAJ X0 hx hZ e0 f0_J_v0 (g := (mkF m 10 #[.val (.ref v0), .val (.int (1 : Int32)), .val (.long ((0 : Int64) + y0)), .second, .val (.int (1 : Int32))] [(.ref v0), (.int (1 : Int32))])) rfl rfl (hb hby d_merge3_10)) ?_
    show Go p e below s _ _ _ s₁ (mkF m 11 #[.val (.ref v0), .val (.int (1 : Int32)), .val (.long ((0 : Int64) + y0)), .second, .val (.int (1 : Int32))] [(.int (3 : Int32)), (.int (1 : Int32))])
    refine G_icmpNo X0 hx (pc' := 14) rfl (hb hby d_merge3_11) (tlt (by decide : (1 : Int32) < (3 : Int32))).2.1 ?_
    refine G_aloadN X0 hx (pc' := 15) rfl (hb hby d_merge3_14) rfl rfl ?_
    refine G_iload X0 hx (pc' := 17) rfl (hb hby d_merge3_15) rfl ?_
    refine Go.st (ldAJ X0 hx hZ e0 f0_J_v0 (j := (1 : Int32)) (by decide) (show Int32.toNatClampNeg 1 < 3 from by decide) (g := (mkF m 17 #[.val (.ref v0), .val (.int (1 : Int32)), .val (.long ((0 : Int64) + y0)), .second, .val (.int (1 : Int32))] [(.int (1 : Int32)), (.ref v0)])) rfl rfl (hb hby d_merge3_17)) ?_
    show Go p e below s _ _ _ s₁ (mkF m 18 #[.val (.ref v0), .val (.int (1 : Int32)), .val (.long ((0 : Int64) + y0)), .second, .val (.int (1 : Int32))] [(.long y1)])
    refine G_lloadN X0 hx (pc' := 19) rfl (hb hby d_merge3_18) rfl ?_
    refine G_lcmp X0 hx (pc' := 20) rfl (hb hby d_merge3_19)  ?_
    by_cases hc20_5 : ((0 : Int64) + y0) < y1
    · refine G_ifYes X0 hx (pc' := 28) (hb hby d_merge3_20) ((if0 _ _).trans (tlt ((lw_gt _ _).2 hc20_5)).2.2.1) (by decide) (by decide) ?_
      refine G_lloadN X0 hx (pc' := 29) rfl (hb hby d_merge3_28) rfl ?_
      refine G_aloadN X0 hx (pc' := 30) rfl (hb hby d_merge3_29) rfl rfl ?_
      refine G_iload X0 hx (pc' := 32) rfl (hb hby d_merge3_30) rfl ?_
      refine Go.st (ldAJ X0 hx hZ e0 f0_J_v0 (j := (1 : Int32)) (by decide) (show Int32.toNatClampNeg 1 < 3 from by decide) (g := (mkF m 32 #[.val (.ref v0), .val (.int (1 : Int32)), .val (.long ((0 : Int64) + y0)), .second, .val (.int (1 : Int32))] [(.int (1 : Int32)), (.ref v0), (.long ((0 : Int64) + y0))])) rfl rfl (hb hby d_merge3_32)) ?_
      show Go p e below s _ _ _ s₁ (mkF m 33 #[.val (.ref v0), .val (.int (1 : Int32)), .val (.long ((0 : Int64) + y0)), .second, .val (.int (1 : Int32))] [(.long y1), (.long ((0 : Int64) + y0))])
      refine G_ladd X0 hx (pc' := 34) rfl (hb hby d_merge3_33)  ?_
      refine G_lstoreN X0 hx (pc' := 35) rfl (hb hby d_merge3_34) (L' := #[.val (.ref v0), .val (.int (1 : Int32)), .val (.long (((0 : Int64) + y0) + y1)), .second, .val (.int (1 : Int32))]) rfl ?_
      refine G_iinc X0 hx (pc' := 38) rfl (hb hby d_merge3_35) rfl (z := (2 : Int32)) rfl (L' := #[.val (.ref v0), .val (.int (1 : Int32)), .val (.long (((0 : Int64) + y0) + y1)), .second, .val (.int (2 : Int32))]) rfl ?_
      refine G_goto X0 hx (pc' := 7) (hb hby d_merge3_38)  (by decide) (by decide) ?_
      refine G_iload X0 hx (pc' := 9) rfl (hb hby d_merge3_7) rfl ?_
      refine G_aloadN X0 hx (pc' := 10) rfl (hb hby d_merge3_9) rfl rfl ?_
      refine Go.st (lenAJ X0 hx hZ e0 f0_J_v0 (g := (mkF m 10 #[.val (.ref v0), .val (.int (1 : Int32)), .val (.long (((0 : Int64) + y0) + y1)), .second, .val (.int (2 : Int32))] [(.ref v0), (.int (2 : Int32))])) rfl rfl (hb hby d_merge3_10)) ?_
      show Go p e below s _ _ _ s₁ (mkF m 11 #[.val (.ref v0), .val (.int (1 : Int32)), .val (.long (((0 : Int64) + y0) + y1)), .second, .val (.int (2 : Int32))] [(.int (3 : Int32)), (.int (2 : Int32))])
      refine G_icmpNo X0 hx (pc' := 14) rfl (hb hby d_merge3_11) (tlt (by decide : (2 : Int32) < (3 : Int32))).2.1 ?_
      refine G_aloadN X0 hx (pc' := 15) rfl (hb hby d_merge3_14) rfl rfl ?_
      refine G_iload X0 hx (pc' := 17) rfl (hb hby d_merge3_15) rfl ?_
      refine Go.st (ldAJ X0 hx hZ e0 f0_J_v0 (j := (2 : Int32)) (by decide) (show Int32.toNatClampNeg 2 < 3 from by decide) (g := (mkF m 17 #[.val (.ref v0), .val (.int (1 : Int32)), .val (.long (((0 : Int64) + y0) + y1)), .second, .val (.int (2 : Int32))] [(.int (2 : Int32)), (.ref v0)])) rfl rfl (hb hby d_merge3_17)) ?_
      show Go p e below s _ _ _ s₁ (mkF m 18 #[.val (.ref v0), .val (.int (1 : Int32)), .val (.long (((0 : Int64) + y0) + y1)), .second, .val (.int (2 : Int32))] [(.long y2)])
      refine G_lloadN X0 hx (pc' := 19) rfl (hb hby d_merge3_18) rfl ?_
      refine G_lcmp X0 hx (pc' := 20) rfl (hb hby d_merge3_19)  ?_
      by_cases hc20_6 : (((0 : Int64) + y0) + y1) < y2
      · refine G_ifYes X0 hx (pc' := 28) (hb hby d_merge3_20) ((if0 _ _).trans (tlt ((lw_gt _ _).2 hc20_6)).2.2.1) (by decide) (by decide) ?_
        refine G_lloadN X0 hx (pc' := 29) rfl (hb hby d_merge3_28) rfl ?_
        refine G_aloadN X0 hx (pc' := 30) rfl (hb hby d_merge3_29) rfl rfl ?_
        refine G_iload X0 hx (pc' := 32) rfl (hb hby d_merge3_30) rfl ?_
        refine Go.st (ldAJ X0 hx hZ e0 f0_J_v0 (j := (2 : Int32)) (by decide) (show Int32.toNatClampNeg 2 < 3 from by decide) (g := (mkF m 32 #[.val (.ref v0), .val (.int (1 : Int32)), .val (.long (((0 : Int64) + y0) + y1)), .second, .val (.int (2 : Int32))] [(.int (2 : Int32)), (.ref v0), (.long (((0 : Int64) + y0) + y1))])) rfl rfl (hb hby d_merge3_32)) ?_
        show Go p e below s _ _ _ s₁ (mkF m 33 #[.val (.ref v0), .val (.int (1 : Int32)), .val (.long (((0 : Int64) + y0) + y1)), .second, .val (.int (2 : Int32))] [(.long y2), (.long (((0 : Int64) + y0) + y1))])
        refine G_ladd X0 hx (pc' := 34) rfl (hb hby d_merge3_33)  ?_
        refine G_lstoreN X0 hx (pc' := 35) rfl (hb hby d_merge3_34) (L' := #[.val (.ref v0), .val (.int (1 : Int32)), .val (.long ((((0 : Int64) + y0) + y1) + y2)), .second, .val (.int (2 : Int32))]) rfl ?_
        refine G_iinc X0 hx (pc' := 38) rfl (hb hby d_merge3_35) rfl (z := (3 : Int32)) rfl (L' := #[.val (.ref v0), .val (.int (1 : Int32)), .val (.long ((((0 : Int64) + y0) + y1) + y2)), .second, .val (.int (3 : Int32))]) rfl ?_
        refine G_goto X0 hx (pc' := 7) (hb hby d_merge3_38)  (by decide) (by decide) ?_
        refine G_iload X0 hx (pc' := 9) rfl (hb hby d_merge3_7) rfl ?_
        refine G_aloadN X0 hx (pc' := 10) rfl (hb hby d_merge3_9) rfl rfl ?_
        refine Go.st (lenAJ X0 hx hZ e0 f0_J_v0 (g := (mkF m 10 #[.val (.ref v0), .val (.int (1 : Int32)), .val (.long ((((0 : Int64) + y0) + y1) + y2)), .second, .val (.int (3 : Int32))] [(.ref v0), (.int (3 : Int32))])) rfl rfl (hb hby d_merge3_10)) ?_
        show Go p e below s _ _ _ s₁ (mkF m 11 #[.val (.ref v0), .val (.int (1 : Int32)), .val (.long ((((0 : Int64) + y0) + y1) + y2)), .second, .val (.int (3 : Int32))] [(.int (3 : Int32)), (.int (3 : Int32))])
        refine G_icmpYes X0 hx (pc' := 41) (hb hby d_merge3_11) (flt (by decide : ¬ ((3 : Int32) < (3 : Int32)))).2.1 (by decide) (by decide) ?_
        refine G_iloadN X0 hx (pc' := 42) rfl (hb hby d_merge3_41) rfl ?_
        refine Go.fin X0 hlk (v := some (.int (1 : Int32))) (fun h => by rw [Bd.returns] at h; cases h) (by decide) (by decide) ?_ (fun fs hr => retOut X0 hx Bd.returns rfl (Or.inl ⟨rfl, Or.inl rfl, _, rfl⟩) (hb hby d_merge3_42) hr)
        show Q_merge3 Z v0 y0 y1 y2 h0 n0 _ s₁.heap _
        rw [e0]
        exact ⟨congrArg (fun z => some (Value.int z)) (by rw [f_merge3]; rw [if_neg hc20_1, if_pos hc20_5, if_pos hc20_6]), N0, rfl⟩
      · refine G_ifNo X0 hx (pc' := 23) rfl (hb hby d_merge3_20) ((if0 _ _).trans (flt (fun q => hc20_6 ((lw_gt _ _).1 q))).2.2.1) ?_
        refine G_iload X0 hx (pc' := 25) rfl (hb hby d_merge3_23) rfl ?_
        refine G_iconst X0 hx (pc' := 26) rfl (hb hby d_merge3_25) (z := (1 : Int32)) rfl ?_
        refine G_iadd X0 hx (pc' := 27) rfl (hb hby d_merge3_26)  ?_
        rw [show ((2 : Int32) + (1 : Int32)) = (3 : Int32) from by decide]
        refine G_istoreN X0 hx (pc' := 28) rfl (hb hby d_merge3_27) (L' := #[.val (.ref v0), .val (.int (3 : Int32)), .val (.long (((0 : Int64) + y0) + y1)), .second, .val (.int (2 : Int32))]) rfl ?_
        refine G_lloadN X0 hx (pc' := 29) rfl (hb hby d_merge3_28) rfl ?_
        refine G_aloadN X0 hx (pc' := 30) rfl (hb hby d_merge3_29) rfl rfl ?_
        refine G_iload X0 hx (pc' := 32) rfl (hb hby d_merge3_30) rfl ?_
        refine Go.st (ldAJ X0 hx hZ e0 f0_J_v0 (j := (2 : Int32)) (by decide) (show Int32.toNatClampNeg 2 < 3 from by decide) (g := (mkF m 32 #[.val (.ref v0), .val (.int (3 : Int32)), .val (.long (((0 : Int64) + y0) + y1)), .second, .val (.int (2 : Int32))] [(.int (2 : Int32)), (.ref v0), (.long (((0 : Int64) + y0) + y1))])) rfl rfl (hb hby d_merge3_32)) ?_
        show Go p e below s _ _ _ s₁ (mkF m 33 #[.val (.ref v0), .val (.int (3 : Int32)), .val (.long (((0 : Int64) + y0) + y1)), .second, .val (.int (2 : Int32))] [(.long y2), (.long (((0 : Int64) + y0) + y1))])
        refine G_ladd X0 hx (pc' := 34) rfl (hb hby d_merge3_33)  ?_
        refine G_lstoreN X0 hx (pc' := 35) rfl (hb hby d_merge3_34) (L' := #[.val (.ref v0), .val (.int (3 : Int32)), .val (.long ((((0 : Int64) + y0) + y1) + y2)), .second, .val (.int (2 : Int32))]) rfl ?_
        refine G_iinc X0 hx (pc' := 38) rfl (hb hby d_merge3_35) rfl (z := (3 : Int32)) rfl (L' := #[.val (.ref v0), .val (.int (3 : Int32)), .val (.long ((((0 : Int64) + y0) + y1) + y2)), .second, .val (.int (3 : Int32))]) rfl ?_
        refine G_goto X0 hx (pc' := 7) (hb hby d_merge3_38)  (by decide) (by decide) ?_
        refine G_iload X0 hx (pc' := 9) rfl (hb hby d_merge3_7) rfl ?_
        refine G_aloadN X0 hx (pc' := 10) rfl (hb hby d_merge3_9) rfl rfl ?_
        refine Go.st (lenAJ X0 hx hZ e0 f0_J_v0 (g := (mkF m 10 #[.val (.ref v0), .val (.int (3 : Int32)), .val (.long ((((0 : Int64) + y0) + y1) + y2)), .second, .val (.int (3 : Int32))] [(.ref v0), (.int (3 : Int32))])) rfl rfl (hb hby d_merge3_10)) ?_
        show Go p e below s _ _ _ s₁ (mkF m 11 #[.val (.ref v0), .val (.int (3 : Int32)), .val (.long ((((0 : Int64) + y0) + y1) + y2)), .second, .val (.int (3 : Int32))] [(.int (3 : Int32)), (.int (3 : Int32))])
        refine G_icmpYes X0 hx (pc' := 41) (hb hby d_merge3_11) (flt (by decide : ¬ ((3 : Int32) < (3 : Int32)))).2.1 (by decide) (by decide) ?_
        refine G_iloadN X0 hx (pc' := 42) rfl (hb hby d_merge3_41) rfl ?_
        refine Go.fin X0 hlk (v := some (.int (3 : Int32))) (fun h => by rw [Bd.returns] at h; cases h) (by decide) (by decide) ?_ (fun fs hr => retOut X0 hx Bd.returns rfl (Or.inl ⟨rfl, Or.inl rfl, _, rfl⟩) (hb hby d_merge3_42) hr)
        show Q_merge3 Z v0 y0 y1 y2 h0 n0 _ s₁.heap _
        rw [e0]
        exact ⟨congrArg (fun z => some (Value.int z)) (by rw [f_merge3]; rw [if_neg hc20_1, if_pos hc20_5, if_neg hc20_6]), N0, rfl⟩
    · refine G_ifNo X0 hx (pc' := 23) rfl (hb hby d_merge3_20) ((if0 _ _).trans (flt (fun q => hc20_5 ((lw_gt _ _).1 q))).2.2.1) ?_
      refine G_iload X0 hx (pc' := 25) rfl (hb hby d_merge3_23) rfl ?_
      refine G_iconst X0 hx (pc' := 26) rfl (hb hby d_merge3_25) (z := (1 : Int32)) rfl ?_
      refine G_iadd X0 hx (pc' := 27) rfl (hb hby d_merge3_26)  ?_
      rw [show ((1 : Int32) + (1 : Int32)) = (2 : Int32) from by decide]
      refine G_istoreN X0 hx (pc' := 28) rfl (hb hby d_merge3_27) (L' := #[.val (.ref v0), .val (.int (2 : Int32)), .val (.long ((0 : Int64) + y0)), .second, .val (.int (1 : Int32))]) rfl ?_
      refine G_lloadN X0 hx (pc' := 29) rfl (hb hby d_merge3_28) rfl ?_
      refine G_aloadN X0 hx (pc' := 30) rfl (hb hby d_merge3_29) rfl rfl ?_
      refine G_iload X0 hx (pc' := 32) rfl (hb hby d_merge3_30) rfl ?_
      refine Go.st (ldAJ X0 hx hZ e0 f0_J_v0 (j := (1 : Int32)) (by decide) (show Int32.toNatClampNeg 1 < 3 from by decide) (g := (mkF m 32 #[.val (.ref v0), .val (.int (2 : Int32)), .val (.long ((0 : Int64) + y0)), .second, .val (.int (1 : Int32))] [(.int (1 : Int32)), (.ref v0), (.long ((0 : Int64) + y0))])) rfl rfl (hb hby d_merge3_32)) ?_
      show Go p e below s _ _ _ s₁ (mkF m 33 #[.val (.ref v0), .val (.int (2 : Int32)), .val (.long ((0 : Int64) + y0)), .second, .val (.int (1 : Int32))] [(.long y1), (.long ((0 : Int64) + y0))])
      refine G_ladd X0 hx (pc' := 34) rfl (hb hby d_merge3_33)  ?_
      refine G_lstoreN X0 hx (pc' := 35) rfl (hb hby d_merge3_34) (L' := #[.val (.ref v0), .val (.int (2 : Int32)), .val (.long (((0 : Int64) + y0) + y1)), .second, .val (.int (1 : Int32))]) rfl ?_
      refine G_iinc X0 hx (pc' := 38) rfl (hb hby d_merge3_35) rfl (z := (2 : Int32)) rfl (L' := #[.val (.ref v0), .val (.int (2 : Int32)), .val (.long (((0 : Int64) + y0) + y1)), .second, .val (.int (2 : Int32))]) rfl ?_
      refine G_goto X0 hx (pc' := 7) (hb hby d_merge3_38)  (by decide) (by decide) ?_
      refine G_iload X0 hx (pc' := 9) rfl (hb hby d_merge3_7) rfl ?_
      refine G_aloadN X0 hx (pc' := 10) rfl (hb hby d_merge3_9) rfl rfl ?_
      refine Go.st (lenAJ X0 hx hZ e0 f0_J_v0 (g := (mkF m 10 #[.val (.ref v0), .val (.int (2 : Int32)), .val (.long (((0 : Int64) + y0) + y1)), .second, .val (.int (2 : Int32))] [(.ref v0), (.int (2 : Int32))])) rfl rfl (hb hby d_merge3_10)) ?_
      show Go p e below s _ _ _ s₁ (mkF m 11 #[.val (.ref v0), .val (.int (2 : Int32)), .val (.long (((0 : Int64) + y0) + y1)), .second, .val (.int (2 : Int32))] [(.int (3 : Int32)), (.int (2 : Int32))])
      refine G_icmpNo X0 hx (pc' := 14) rfl (hb hby d_merge3_11) (tlt (by decide : (2 : Int32) < (3 : Int32))).2.1 ?_
      refine G_aloadN X0 hx (pc' := 15) rfl (hb hby d_merge3_14) rfl rfl ?_
      refine G_iload X0 hx (pc' := 17) rfl (hb hby d_merge3_15) rfl ?_
      refine Go.st (ldAJ X0 hx hZ e0 f0_J_v0 (j := (2 : Int32)) (by decide) (show Int32.toNatClampNeg 2 < 3 from by decide) (g := (mkF m 17 #[.val (.ref v0), .val (.int (2 : Int32)), .val (.long (((0 : Int64) + y0) + y1)), .second, .val (.int (2 : Int32))] [(.int (2 : Int32)), (.ref v0)])) rfl rfl (hb hby d_merge3_17)) ?_
      show Go p e below s _ _ _ s₁ (mkF m 18 #[.val (.ref v0), .val (.int (2 : Int32)), .val (.long (((0 : Int64) + y0) + y1)), .second, .val (.int (2 : Int32))] [(.long y2)])
      refine G_lloadN X0 hx (pc' := 19) rfl (hb hby d_merge3_18) rfl ?_
      refine G_lcmp X0 hx (pc' := 20) rfl (hb hby d_merge3_19)  ?_
      by_cases hc20_7 : (((0 : Int64) + y0) + y1) < y2
      · refine G_ifYes X0 hx (pc' := 28) (hb hby d_merge3_20) ((if0 _ _).trans (tlt ((lw_gt _ _).2 hc20_7)).2.2.1) (by decide) (by decide) ?_
        refine G_lloadN X0 hx (pc' := 29) rfl (hb hby d_merge3_28) rfl ?_
        refine G_aloadN X0 hx (pc' := 30) rfl (hb hby d_merge3_29) rfl rfl ?_
        refine G_iload X0 hx (pc' := 32) rfl (hb hby d_merge3_30) rfl ?_
        refine Go.st (ldAJ X0 hx hZ e0 f0_J_v0 (j := (2 : Int32)) (by decide) (show Int32.toNatClampNeg 2 < 3 from by decide) (g := (mkF m 32 #[.val (.ref v0), .val (.int (2 : Int32)), .val (.long (((0 : Int64) + y0) + y1)), .second, .val (.int (2 : Int32))] [(.int (2 : Int32)), (.ref v0), (.long (((0 : Int64) + y0) + y1))])) rfl rfl (hb hby d_merge3_32)) ?_
        show Go p e below s _ _ _ s₁ (mkF m 33 #[.val (.ref v0), .val (.int (2 : Int32)), .val (.long (((0 : Int64) + y0) + y1)), .second, .val (.int (2 : Int32))] [(.long y2), (.long (((0 : Int64) + y0) + y1))])
        refine G_ladd X0 hx (pc' := 34) rfl (hb hby d_merge3_33)  ?_
        refine G_lstoreN X0 hx (pc' := 35) rfl (hb hby d_merge3_34) (L' := #[.val (.ref v0), .val (.int (2 : Int32)), .val (.long ((((0 : Int64) + y0) + y1) + y2)), .second, .val (.int (2 : Int32))]) rfl ?_
        refine G_iinc X0 hx (pc' := 38) rfl (hb hby d_merge3_35) rfl (z := (3 : Int32)) rfl (L' := #[.val (.ref v0), .val (.int (2 : Int32)), .val (.long ((((0 : Int64) + y0) + y1) + y2)), .second, .val (.int (3 : Int32))]) rfl ?_
        refine G_goto X0 hx (pc' := 7) (hb hby d_merge3_38)  (by decide) (by decide) ?_
        refine G_iload X0 hx (pc' := 9) rfl (hb hby d_merge3_7) rfl ?_
        refine G_aloadN X0 hx (pc' := 10) rfl (hb hby d_merge3_9) rfl rfl ?_
        refine Go.st (lenAJ X0 hx hZ e0 f0_J_v0 (g := (mkF m 10 #[.val (.ref v0), .val (.int (2 : Int32)), .val (.long ((((0 : Int64) + y0) + y1) + y2)), .second, .val (.int (3 : Int32))] [(.ref v0), (.int (3 : Int32))])) rfl rfl (hb hby d_merge3_10)) ?_
        show Go p e below s _ _ _ s₁ (mkF m 11 #[.val (.ref v0), .val (.int (2 : Int32)), .val (.long ((((0 : Int64) + y0) + y1) + y2)), .second, .val (.int (3 : Int32))] [(.int (3 : Int32)), (.int (3 : Int32))])
        refine G_icmpYes X0 hx (pc' := 41) (hb hby d_merge3_11) (flt (by decide : ¬ ((3 : Int32) < (3 : Int32)))).2.1 (by decide) (by decide) ?_
        refine G_iloadN X0 hx (pc' := 42) rfl (hb hby d_merge3_41) rfl ?_
        refine Go.fin X0 hlk (v := some (.int (2 : Int32))) (fun h => by rw [Bd.returns] at h; cases h) (by decide) (by decide) ?_ (fun fs hr => retOut X0 hx Bd.returns rfl (Or.inl ⟨rfl, Or.inl rfl, _, rfl⟩) (hb hby d_merge3_42) hr)
        show Q_merge3 Z v0 y0 y1 y2 h0 n0 _ s₁.heap _
        rw [e0]
        exact ⟨congrArg (fun z => some (Value.int z)) (by rw [f_merge3]; rw [if_neg hc20_1, if_neg hc20_5, if_pos hc20_7]), N0, rfl⟩
      · refine G_ifNo X0 hx (pc' := 23) rfl (hb hby d_merge3_20) ((if0 _ _).trans (flt (fun q => hc20_7 ((lw_gt _ _).1 q))).2.2.1) ?_
        refine G_iload X0 hx (pc' := 25) rfl (hb hby d_merge3_23) rfl ?_
        refine G_iconst X0 hx (pc' := 26) rfl (hb hby d_merge3_25) (z := (1 : Int32)) rfl ?_
        refine G_iadd X0 hx (pc' := 27) rfl (hb hby d_merge3_26)  ?_
        rw [show ((2 : Int32) + (1 : Int32)) = (3 : Int32) from by decide]
        refine G_istoreN X0 hx (pc' := 28) rfl (hb hby d_merge3_27) (L' := #[.val (.ref v0), .val (.int (3 : Int32)), .val (.long (((0 : Int64) + y0) + y1)), .second, .val (.int (2 : Int32))]) rfl ?_
        refine G_lloadN X0 hx (pc' := 29) rfl (hb hby d_merge3_28) rfl ?_
        refine G_aloadN X0 hx (pc' := 30) rfl (hb hby d_merge3_29) rfl rfl ?_
        refine G_iload X0 hx (pc' := 32) rfl (hb hby d_merge3_30) rfl ?_
        refine Go.st (ldAJ X0 hx hZ e0 f0_J_v0 (j := (2 : Int32)) (by decide) (show Int32.toNatClampNeg 2 < 3 from by decide) (g := (mkF m 32 #[.val (.ref v0), .val (.int (3 : Int32)), .val (.long (((0 : Int64) + y0) + y1)), .second, .val (.int (2 : Int32))] [(.int (2 : Int32)), (.ref v0), (.long (((0 : Int64) + y0) + y1))])) rfl rfl (hb hby d_merge3_32)) ?_
        show Go p e below s _ _ _ s₁ (mkF m 33 #[.val (.ref v0), .val (.int (3 : Int32)), .val (.long (((0 : Int64) + y0) + y1)), .second, .val (.int (2 : Int32))] [(.long y2), (.long (((0 : Int64) + y0) + y1))])
        refine G_ladd X0 hx (pc' := 34) rfl (hb hby d_merge3_33)  ?_
        refine G_lstoreN X0 hx (pc' := 35) rfl (hb hby d_merge3_34) (L' := #[.val (.ref v0), .val (.int (3 : Int32)), .val (.long ((((0 : Int64) + y0) + y1) + y2)), .second, .val (.int (2 : Int32))]) rfl ?_
        refine G_iinc X0 hx (pc' := 38) rfl (hb hby d_merge3_35) rfl (z := (3 : Int32)) rfl (L' := #[.val (.ref v0), .val (.int (3 : Int32)), .val (.long ((((0 : Int64) + y0) + y1) + y2)), .second, .val (.int (3 : Int32))]) rfl ?_
        refine G_goto X0 hx (pc' := 7) (hb hby d_merge3_38)  (by decide) (by decide) ?_
        refine G_iload X0 hx (pc' := 9) rfl (hb hby d_merge3_7) rfl ?_
        refine G_aloadN X0 hx (pc' := 10) rfl (hb hby d_merge3_9) rfl rfl ?_
        refine Go.st (lenAJ X0 hx hZ e0 f0_J_v0 (g := (mkF m 10 #[.val (.ref v0), .val (.int (3 : Int32)), .val (.long ((((0 : Int64) + y0) + y1) + y2)), .second, .val (.int (3 : Int32))] [(.ref v0), (.int (3 : Int32))])) rfl rfl (hb hby d_merge3_10)) ?_
        show Go p e below s _ _ _ s₁ (mkF m 11 #[.val (.ref v0), .val (.int (3 : Int32)), .val (.long ((((0 : Int64) + y0) + y1) + y2)), .second, .val (.int (3 : Int32))] [(.int (3 : Int32)), (.int (3 : Int32))])
        refine G_icmpYes X0 hx (pc' := 41) (hb hby d_merge3_11) (flt (by decide : ¬ ((3 : Int32) < (3 : Int32)))).2.1 (by decide) (by decide) ?_
        refine G_iloadN X0 hx (pc' := 42) rfl (hb hby d_merge3_41) rfl ?_
        refine Go.fin X0 hlk (v := some (.int (3 : Int32))) (fun h => by rw [Bd.returns] at h; cases h) (by decide) (by decide) ?_ (fun fs hr => retOut X0 hx Bd.returns rfl (Or.inl ⟨rfl, Or.inl rfl, _, rfl⟩) (hb hby d_merge3_42) hr)
        show Q_merge3 Z v0 y0 y1 y2 h0 n0 _ s₁.heap _
        rw [e0]
        exact ⟨congrArg (fun z => some (Value.int z)) (by rw [f_merge3]; rw [if_neg hc20_1, if_neg hc20_5, if_neg hc20_7]), N0, rfl⟩
theorem d_exp3_0 : decode method_3_code 0 = .ok (.lload_n 1, 1) := by decide +kernel
theorem d_exp3_1 : decode method_3_code 1 = .ok (.lstore 9, 2) := by decide +kernel
theorem d_exp3_3 : decode method_3_code 3 = .ok (.lload_n 1, 1) := by decide +kernel
theorem d_exp3_4 : decode method_3_code 4 = .ok (.lload_n 3, 1) := by decide +kernel
theorem d_exp3_5 : decode method_3_code 5 = .ok (.ladd, 1) := by decide +kernel
theorem d_exp3_6 : decode method_3_code 6 = .ok (.lstore 11, 2) := by decide +kernel
theorem d_exp3_8 : decode method_3_code 8 = .ok (.lload_n 1, 1) := by decide +kernel
theorem d_exp3_9 : decode method_3_code 9 = .ok (.lload_n 3, 1) := by decide +kernel
theorem d_exp3_10 : decode method_3_code 10 = .ok (.ladd, 1) := by decide +kernel
theorem d_exp3_11 : decode method_3_code 11 = .ok (.lload 5, 2) := by decide +kernel
theorem d_exp3_13 : decode method_3_code 13 = .ok (.ladd, 1) := by decide +kernel
theorem d_exp3_14 : decode method_3_code 14 = .ok (.lstore 13, 2) := by decide +kernel
theorem d_exp3_16 : decode method_3_code 16 = .ok (.iload_n 0, 1) := by decide +kernel
theorem d_exp3_17 : decode method_3_code 17 = .ok (.iconst 4, 1) := by decide +kernel
theorem d_exp3_18 : decode method_3_code 18 = .ok (.if_icmp .lt 13, 3) := by decide +kernel
theorem d_exp3_31 : decode method_3_code 31 = .ok (.iload_n 0, 1) := by decide +kernel
theorem d_exp3_32 : decode method_3_code 32 = .ok (.iconst 3, 1) := by decide +kernel
theorem d_exp3_33 : decode method_3_code 33 = .ok (.if_icmp .lt 13, 3) := by decide +kernel
theorem d_exp3_36 : decode method_3_code 36 = .ok (.lload 5, 2) := by decide +kernel
theorem d_exp3_38 : decode method_3_code 38 = .ok (.lload 11, 2) := by decide +kernel
theorem d_exp3_40 : decode method_3_code 40 = .ok (.lcmp, 1) := by decide +kernel
theorem d_exp3_41 : decode method_3_code 41 = .ok (.ifCond .gt 5, 3) := by decide +kernel
theorem d_exp3_46 : decode method_3_code 46 = .ok (.iload_n 0, 1) := by decide +kernel
theorem d_exp3_47 : decode method_3_code 47 = .ok (.iconst 2, 1) := by decide +kernel
theorem d_exp3_48 : decode method_3_code 48 = .ok (.if_icmp .lt 12, 3) := by decide +kernel
theorem d_exp3_51 : decode method_3_code 51 = .ok (.lload_n 3, 1) := by decide +kernel
theorem d_exp3_52 : decode method_3_code 52 = .ok (.lload 9, 2) := by decide +kernel
theorem d_exp3_54 : decode method_3_code 54 = .ok (.lcmp, 1) := by decide +kernel
theorem d_exp3_55 : decode method_3_code 55 = .ok (.ifCond .gt 5, 3) := by decide +kernel
theorem d_exp3_60 : decode method_3_code 60 = .ok (.iload_n 0, 1) := by decide +kernel
theorem d_exp3_61 : decode method_3_code 61 = .ok (.iconst 1, 1) := by decide +kernel
theorem d_exp3_62 : decode method_3_code 62 = .ok (.if_icmp .lt 11, 3) := by decide +kernel
theorem d_exp3_65 : decode method_3_code 65 = .ok (.lload_n 1, 1) := by decide +kernel
theorem d_exp3_66 : decode method_3_code 66 = .ok (.lconst 0, 1) := by decide +kernel
theorem d_exp3_67 : decode method_3_code 67 = .ok (.lcmp, 1) := by decide +kernel
theorem d_exp3_68 : decode method_3_code 68 = .ok (.ifCond .gt 5, 3) := by decide +kernel
theorem d_exp3_73 : decode method_3_code 73 = .ok (.iconst 0, 1) := by decide +kernel
theorem d_exp3_74 : decode method_3_code 74 = .ok (.ireturn, 1) := by decide +kernel
theorem d_exp3_71 : decode method_3_code 71 = .ok (.iconst 1, 1) := by decide +kernel
theorem d_exp3_72 : decode method_3_code 72 = .ok (.ireturn, 1) := by decide +kernel
theorem d_exp3_58 : decode method_3_code 58 = .ok (.iconst 2, 1) := by decide +kernel
theorem d_exp3_59 : decode method_3_code 59 = .ok (.ireturn, 1) := by decide +kernel
theorem d_exp3_44 : decode method_3_code 44 = .ok (.iconst 3, 1) := by decide +kernel
theorem d_exp3_45 : decode method_3_code 45 = .ok (.ireturn, 1) := by decide +kernel
def f_exp3 (v1 : Int64) (v2 : Int64) (v3 : Int64) (v4 : Int64) : Int32 := (if (v1 + v2) < v3 then (if v1 < v2 then (if (0 : Int64) < v1 then (0 : Int32) else (1 : Int32)) else (2 : Int32)) else (3 : Int32))
theorem ef_exp3 (m : MethodId) (v1 : Int64) (v2 : Int64) (v3 : Int64) (v4 : Int64) : entryFrame m #[(.int (3 : Int32)), (.long v1), (.long v2), (.long v3), (.long v4)] 15 = mkF m 0 #[.val (.int (3 : Int32)), .val (.long v1), .second, .val (.long v2), .second, .val (.long v3), .second, .val (.long v4), .second, .unset, .unset, .unset, .unset, .unset, .unset] [] := by first | (simp [entryFrame, mkF, argsToLocals, Value.category]; done) | rfl
def Q_exp3 (Z : State) (v1 : Int64) (v2 : Int64) (v3 : Int64) (v4 : Int64) (h0 : Heap) (n0 : Nat) (v : Option Value) (h : Heap) (L : List Loc) : Prop := v = some (.int (f_exp3 v1 v2 v3 v4)) ∧ Fr n0 L ∧ h = h0
set_option maxRecDepth 65536 in
set_option maxHeartbeats 40000000 in
theorem rm_exp3 (l : Launch) (Z : State) (a0 : Array Value) (hw : ∀ d ∈ tables_1, d.before a0 Z = true) (ws : List Jvm.Cond) (v1 : Int64) (v2 : Int64) (v3 : Int64) (v4 : Int64) (h0 : Heap) (n0 : Nat) (Z0 : n0 ≤ h0.size) :
    MetFree l (⟨"com/example/quern/quern/core/TreeUpdateMergeCountPinLaw", "expected", "(IJJJJ)I"⟩ : MethodName) (head1 (Jvm.Cond.code (⟨"com/example/quern/quern/core/TreeUpdateMergeCountPinLaw", "expected", "(IJJJJ)I"⟩ : MethodName) method_3_code 15 (some .int) :: ws) ({ frames := 0, cells := 0, slots := 0, locals := 0 } : Room)) (fun a U => a = #[(.int (3 : Int32)), (.long v1), (.long v2), (.long v3), (.long v4)] ∧ Z.Warmed39 U.vm ∧ U.heap = h0) (fun _ _ _ _ _ => True) (fun _ U o U' => ∃ v L, o = .returned v ∧ Q_exp3 Z v1 v2 v3 v4 h0 n0 v U'.heap L ∧ FrameEnd U o U' L ({ frames := 0, cells := 0, slots := 0, locals := 0 } : Room).cells ({ frames := 0, cells := 0, slots := 0, locals := 0 } : Room).slots) := by
  refine MetFree.of_bodySF (plainFor_of_name (by first | (simp [plainName, overriddenIn]; done) | decide +kernel)) hisR ?_
  intro p e s m args below meth c s₁ Bd hml0 hP hK
  obtain ⟨rfl, hZ, hh⟩ := hP
  have hx := Bd.exec
  have hby := Bd.bytes
  have hml : c.maxLocals = 15 := hml0
  have hown : s.vm.findClass "com/example/quern/quern/core/TreeUpdateMergeCountPinLaw" = some m.cls := findClass_of_methodNamed Bd.named
  have hnm := (name_of_methodNamed Bd.named Bd.method).1
  have hlk : meth.locks = false := Bd.notSynchronized
  have X0 : Stand p l e ({ frames := 0, cells := 0, slots := 0, locals := 0 } : Room) s m #[(.int (3 : Int32)), (.long v1), (.long v2), (.long v3), (.long v4)] below meth c s₁ [] 0 0 := Stand.of_body Bd
  have e0 : s₁.heap = h0 := by rw [← hh, Bd.state]; rfl
  have N0 := Fr.nil n0
  refine Go.enter (Q := Q_exp3 Z v1 v2 v3 v4 h0 n0) (C := ({ frames := 0, cells := 0, slots := 0, locals := 0 } : Room).cells) (N := ({ frames := 0, cells := 0, slots := 0, locals := 0 } : Room).slots) (ef_exp3 m v1 v2 v3 v4) ?_
  show Go p e below s _ _ _ s₁ (mkF m 0 #[.val (.int (3 : Int32)), .val (.long v1), .second, .val (.long v2), .second, .val (.long v3), .second, .val (.long v4), .second, .unset, .unset, .unset, .unset, .unset, .unset] [])
  refine G_lloadN X0 hx (pc' := 1) rfl (hb hby d_exp3_0) rfl ?_
  refine G_lstore X0 hx (pc' := 3) rfl (hb hby d_exp3_1) (L' := #[.val (.int (3 : Int32)), .val (.long v1), .second, .val (.long v2), .second, .val (.long v3), .second, .val (.long v4), .second, .val (.long v1), .second, .unset, .unset, .unset, .unset]) rfl ?_
  refine G_lloadN X0 hx (pc' := 4) rfl (hb hby d_exp3_3) rfl ?_
  refine G_lloadN X0 hx (pc' := 5) rfl (hb hby d_exp3_4) rfl ?_
  refine G_ladd X0 hx (pc' := 6) rfl (hb hby d_exp3_5)  ?_
  refine G_lstore X0 hx (pc' := 8) rfl (hb hby d_exp3_6) (L' := #[.val (.int (3 : Int32)), .val (.long v1), .second, .val (.long v2), .second, .val (.long v3), .second, .val (.long v4), .second, .val (.long v1), .second, .val (.long (v1 + v2)), .second, .unset, .unset]) rfl ?_
  refine G_lloadN X0 hx (pc' := 9) rfl (hb hby d_exp3_8) rfl ?_
  refine G_lloadN X0 hx (pc' := 10) rfl (hb hby d_exp3_9) rfl ?_
  refine G_ladd X0 hx (pc' := 11) rfl (hb hby d_exp3_10)  ?_
  refine G_lload X0 hx (pc' := 13) rfl (hb hby d_exp3_11) rfl ?_
  refine G_ladd X0 hx (pc' := 14) rfl (hb hby d_exp3_13)  ?_
  refine G_lstore X0 hx (pc' := 16) rfl (hb hby d_exp3_14) (L' := #[.val (.int (3 : Int32)), .val (.long v1), .second, .val (.long v2), .second, .val (.long v3), .second, .val (.long v4), .second, .val (.long v1), .second, .val (.long (v1 + v2)), .second, .val (.long ((v1 + v2) + v3)), .second]) rfl ?_
  refine G_iloadN X0 hx (pc' := 17) rfl (hb hby d_exp3_16) rfl ?_
  refine G_iconst X0 hx (pc' := 18) rfl (hb hby d_exp3_17) (z := (4 : Int32)) rfl ?_
  refine G_icmpYes X0 hx (pc' := 31) (hb hby d_exp3_18) (tlt (by decide : (3 : Int32) < (4 : Int32))).1 (by decide) (by decide) ?_
  refine G_iloadN X0 hx (pc' := 32) rfl (hb hby d_exp3_31) rfl ?_
  refine G_iconst X0 hx (pc' := 33) rfl (hb hby d_exp3_32) (z := (3 : Int32)) rfl ?_
  refine G_icmpNo X0 hx (pc' := 36) rfl (hb hby d_exp3_33) (flt (by decide : ¬ ((3 : Int32) < (3 : Int32)))).1 ?_
  refine G_lload X0 hx (pc' := 38) rfl (hb hby d_exp3_36) rfl ?_
  refine G_lload X0 hx (pc' := 40) rfl (hb hby d_exp3_38) rfl ?_
  refine G_lcmp X0 hx (pc' := 41) rfl (hb hby d_exp3_40)  ?_
  by_cases hc41_1 : (v1 + v2) < v3
  · refine G_ifYes X0 hx (pc' := 46) (hb hby d_exp3_41) ((if0 _ _).trans (tlt ((lw_gt _ _).2 hc41_1)).2.2.1) (by decide) (by decide) ?_
    refine G_iloadN X0 hx (pc' := 47) rfl (hb hby d_exp3_46) rfl ?_
    refine G_iconst X0 hx (pc' := 48) rfl (hb hby d_exp3_47) (z := (2 : Int32)) rfl ?_
    refine G_icmpNo X0 hx (pc' := 51) rfl (hb hby d_exp3_48) (flt (by decide : ¬ ((3 : Int32) < (2 : Int32)))).1 ?_
    refine G_lloadN X0 hx (pc' := 52) rfl (hb hby d_exp3_51) rfl ?_
    refine G_lload X0 hx (pc' := 54) rfl (hb hby d_exp3_52) rfl ?_
    refine G_lcmp X0 hx (pc' := 55) rfl (hb hby d_exp3_54)  ?_
    by_cases hc55_2 : v1 < v2
    · refine G_ifYes X0 hx (pc' := 60) (hb hby d_exp3_55) ((if0 _ _).trans (tlt ((lw_gt _ _).2 hc55_2)).2.2.1) (by decide) (by decide) ?_
      refine G_iloadN X0 hx (pc' := 61) rfl (hb hby d_exp3_60) rfl ?_
      refine G_iconst X0 hx (pc' := 62) rfl (hb hby d_exp3_61) (z := (1 : Int32)) rfl ?_
      refine G_icmpNo X0 hx (pc' := 65) rfl (hb hby d_exp3_62) (flt (by decide : ¬ ((3 : Int32) < (1 : Int32)))).1 ?_
      refine G_lloadN X0 hx (pc' := 66) rfl (hb hby d_exp3_65) rfl ?_
      refine G_lconst X0 hx (pc' := 67) rfl (hb hby d_exp3_66) (z := (0 : Int64)) rfl ?_
      refine G_lcmp X0 hx (pc' := 68) rfl (hb hby d_exp3_67)  ?_
      by_cases hc68_3 : (0 : Int64) < v1
      · refine G_ifYes X0 hx (pc' := 73) (hb hby d_exp3_68) ((if0 _ _).trans (tlt ((lw_gt _ _).2 hc68_3)).2.2.1) (by decide) (by decide) ?_
        refine G_iconst X0 hx (pc' := 74) rfl (hb hby d_exp3_73) (z := (0 : Int32)) rfl ?_
        refine Go.fin X0 hlk (v := some (.int (0 : Int32))) (fun h => by rw [Bd.returns] at h; cases h) (by decide) (by decide) ?_ (fun fs hr => retOut X0 hx Bd.returns rfl (Or.inl ⟨rfl, Or.inl rfl, _, rfl⟩) (hb hby d_exp3_74) hr)
        show Q_exp3 Z v1 v2 v3 v4 h0 n0 _ s₁.heap _
        rw [e0]
        exact ⟨congrArg (fun z => some (Value.int z)) (by rw [f_exp3]; rw [if_pos hc41_1, if_pos hc55_2, if_pos hc68_3]), N0, rfl⟩
      · refine G_ifNo X0 hx (pc' := 71) rfl (hb hby d_exp3_68) ((if0 _ _).trans (flt (fun q => hc68_3 ((lw_gt _ _).1 q))).2.2.1) ?_
        refine G_iconst X0 hx (pc' := 72) rfl (hb hby d_exp3_71) (z := (1 : Int32)) rfl ?_
        refine Go.fin X0 hlk (v := some (.int (1 : Int32))) (fun h => by rw [Bd.returns] at h; cases h) (by decide) (by decide) ?_ (fun fs hr => retOut X0 hx Bd.returns rfl (Or.inl ⟨rfl, Or.inl rfl, _, rfl⟩) (hb hby d_exp3_72) hr)
        show Q_exp3 Z v1 v2 v3 v4 h0 n0 _ s₁.heap _
        rw [e0]
        exact ⟨congrArg (fun z => some (Value.int z)) (by rw [f_exp3]; rw [if_pos hc41_1, if_pos hc55_2, if_neg hc68_3]), N0, rfl⟩
    · refine G_ifNo X0 hx (pc' := 58) rfl (hb hby d_exp3_55) ((if0 _ _).trans (flt (fun q => hc55_2 ((lw_gt _ _).1 q))).2.2.1) ?_
      refine G_iconst X0 hx (pc' := 59) rfl (hb hby d_exp3_58) (z := (2 : Int32)) rfl ?_
      refine Go.fin X0 hlk (v := some (.int (2 : Int32))) (fun h => by rw [Bd.returns] at h; cases h) (by decide) (by decide) ?_ (fun fs hr => retOut X0 hx Bd.returns rfl (Or.inl ⟨rfl, Or.inl rfl, _, rfl⟩) (hb hby d_exp3_59) hr)
      show Q_exp3 Z v1 v2 v3 v4 h0 n0 _ s₁.heap _
      rw [e0]
      exact ⟨congrArg (fun z => some (Value.int z)) (by rw [f_exp3]; rw [if_pos hc41_1, if_neg hc55_2]), N0, rfl⟩
  · refine G_ifNo X0 hx (pc' := 44) rfl (hb hby d_exp3_41) ((if0 _ _).trans (flt (fun q => hc41_1 ((lw_gt _ _).1 q))).2.2.1) ?_
    refine G_iconst X0 hx (pc' := 45) rfl (hb hby d_exp3_44) (z := (3 : Int32)) rfl ?_
    refine Go.fin X0 hlk (v := some (.int (3 : Int32))) (fun h => by rw [Bd.returns] at h; cases h) (by decide) (by decide) ?_ (fun fs hr => retOut X0 hx Bd.returns rfl (Or.inl ⟨rfl, Or.inl rfl, _, rfl⟩) (hb hby d_exp3_45) hr)
    show Q_exp3 Z v1 v2 v3 v4 h0 n0 _ s₁.heap _
    rw [e0]
    exact ⟨congrArg (fun z => some (Value.int z)) (by rw [f_exp3]; rw [if_neg hc41_1]), N0, rfl⟩
theorem own_m3 (v1 v2 v3 v4 : Int64) : f_merge3 v1 v2 v3 = f_exp3 v1 v2 v3 v4 := by
  unfold f_merge3 f_exp3
  simp only [Int64.zero_add]
  repeat' split
  all_goals first | rfl | (exfalso; simp_all; done) | simp_all
theorem d_merge4_0 : decode prog_40_method_10_code 0 = .ok (.iconst 0, 1) := by decide +kernel
theorem d_merge4_1 : decode prog_40_method_10_code 1 = .ok (.istore_n 1, 1) := by decide +kernel
theorem d_merge4_2 : decode prog_40_method_10_code 2 = .ok (.lconst 0, 1) := by decide +kernel
theorem d_merge4_3 : decode prog_40_method_10_code 3 = .ok (.lstore_n 2, 1) := by decide +kernel
theorem d_merge4_4 : decode prog_40_method_10_code 4 = .ok (.iconst 0, 1) := by decide +kernel
theorem d_merge4_5 : decode prog_40_method_10_code 5 = .ok (.istore 4, 2) := by decide +kernel
theorem d_merge4_7 : decode prog_40_method_10_code 7 = .ok (.iload 4, 2) := by decide +kernel
theorem d_merge4_9 : decode prog_40_method_10_code 9 = .ok (.aload_n 0, 1) := by decide +kernel
theorem d_merge4_10 : decode prog_40_method_10_code 10 = .ok (.arraylength, 1) := by decide +kernel
theorem d_merge4_11 : decode prog_40_method_10_code 11 = .ok (.if_icmp .ge 30, 3) := by decide +kernel
theorem d_merge4_14 : decode prog_40_method_10_code 14 = .ok (.aload_n 0, 1) := by decide +kernel
theorem d_merge4_15 : decode prog_40_method_10_code 15 = .ok (.iload 4, 2) := by decide +kernel
theorem d_merge4_17 : decode prog_40_method_10_code 17 = .ok (.laload, 1) := by decide +kernel
theorem d_merge4_18 : decode prog_40_method_10_code 18 = .ok (.lload_n 2, 1) := by decide +kernel
theorem d_merge4_19 : decode prog_40_method_10_code 19 = .ok (.lcmp, 1) := by decide +kernel
theorem d_merge4_20 : decode prog_40_method_10_code 20 = .ok (.ifCond .gt 8, 3) := by decide +kernel
theorem d_merge4_28 : decode prog_40_method_10_code 28 = .ok (.lload_n 2, 1) := by decide +kernel
theorem d_merge4_29 : decode prog_40_method_10_code 29 = .ok (.aload_n 0, 1) := by decide +kernel
theorem d_merge4_30 : decode prog_40_method_10_code 30 = .ok (.iload 4, 2) := by decide +kernel
theorem d_merge4_32 : decode prog_40_method_10_code 32 = .ok (.laload, 1) := by decide +kernel
theorem d_merge4_33 : decode prog_40_method_10_code 33 = .ok (.ladd, 1) := by decide +kernel
theorem d_merge4_34 : decode prog_40_method_10_code 34 = .ok (.lstore_n 2, 1) := by decide +kernel
theorem d_merge4_35 : decode prog_40_method_10_code 35 = .ok (.iinc 4 1, 3) := by decide +kernel
theorem d_merge4_38 : decode prog_40_method_10_code 38 = .ok (.goto (-31), 3) := by decide +kernel
theorem d_merge4_41 : decode prog_40_method_10_code 41 = .ok (.iload_n 1, 1) := by decide +kernel
theorem d_merge4_42 : decode prog_40_method_10_code 42 = .ok (.ireturn, 1) := by decide +kernel
theorem d_merge4_23 : decode prog_40_method_10_code 23 = .ok (.iload 4, 2) := by decide +kernel
theorem d_merge4_25 : decode prog_40_method_10_code 25 = .ok (.iconst 1, 1) := by decide +kernel
theorem d_merge4_26 : decode prog_40_method_10_code 26 = .ok (.iadd, 1) := by decide +kernel
theorem d_merge4_27 : decode prog_40_method_10_code 27 = .ok (.istore_n 1, 1) := by decide +kernel
def f_merge4 (y0 : Int64) (y1 : Int64) (y2 : Int64) (y3 : Int64) : Int32 := (if (0 : Int64) < y0 then (if ((0 : Int64) + y0) < y1 then (if (((0 : Int64) + y0) + y1) < y2 then (if ((((0 : Int64) + y0) + y1) + y2) < y3 then (0 : Int32) else (4 : Int32)) else (if ((((0 : Int64) + y0) + y1) + y2) < y3 then (3 : Int32) else (4 : Int32))) else (if (((0 : Int64) + y0) + y1) < y2 then (if ((((0 : Int64) + y0) + y1) + y2) < y3 then (2 : Int32) else (4 : Int32)) else (if ((((0 : Int64) + y0) + y1) + y2) < y3 then (3 : Int32) else (4 : Int32)))) else (if ((0 : Int64) + y0) < y1 then (if (((0 : Int64) + y0) + y1) < y2 then (if ((((0 : Int64) + y0) + y1) + y2) < y3 then (1 : Int32) else (4 : Int32)) else (if ((((0 : Int64) + y0) + y1) + y2) < y3 then (3 : Int32) else (4 : Int32))) else (if (((0 : Int64) + y0) + y1) < y2 then (if ((((0 : Int64) + y0) + y1) + y2) < y3 then (2 : Int32) else (4 : Int32)) else (if ((((0 : Int64) + y0) + y1) + y2) < y3 then (3 : Int32) else (4 : Int32)))))
theorem ef_merge4 (m : MethodId) (v0 : Addr) : entryFrame m #[(.ref v0)] 5 = mkF m 0 #[.val (.ref v0), .unset, .unset, .unset, .unset] [] := by first | (simp [entryFrame, mkF, argsToLocals, Value.category]; done) | rfl
def Q_merge4 (Z : State) (v0 : Addr) (y0 : Int64) (y1 : Int64) (y2 : Int64) (y3 : Int64) (h0 : Heap) (n0 : Nat) (v : Option Value) (h : Heap) (L : List Loc) : Prop := v = some (.int (f_merge4 y0 y1 y2 y3)) ∧ Fr n0 L ∧ h = h0
set_option maxRecDepth 65536 in
set_option maxHeartbeats 40000000 in
theorem rm_merge4 (l : Launch) (Z : State) (a0 : Array Value) (hw : ∀ d ∈ tables_1, d.before a0 Z = true) (ws : List Jvm.Cond) (v0 : Addr) (y0 : Int64) (y1 : Int64) (y2 : Int64) (y3 : Int64) (h0 : Heap) (n0 : Nat) (Z0 : n0 ≤ h0.size) (f0_J_v0 : AJ Z h0 v0 [y0, y1, y2, y3]) :
    MetFree l (⟨"com/example/quern/quern/core/TreeUpdate", "mergeCount", "([J)I"⟩ : MethodName) (head1 (Jvm.Cond.code (⟨"com/example/quern/quern/core/TreeUpdate", "mergeCount", "([J)I"⟩ : MethodName) prog_40_method_10_code 5 (some .int) :: ws) ({ frames := 0, cells := 0, slots := 0, locals := 0 } : Room)) (fun a U => a = #[(.ref v0)] ∧ Z.Warmed39 U.vm ∧ U.heap = h0) (fun _ _ _ _ _ => True) (fun _ U o U' => ∃ v L, o = .returned v ∧ Q_merge4 Z v0 y0 y1 y2 y3 h0 n0 v U'.heap L ∧ FrameEnd U o U' L ({ frames := 0, cells := 0, slots := 0, locals := 0 } : Room).cells ({ frames := 0, cells := 0, slots := 0, locals := 0 } : Room).slots) := by
  refine MetFree.of_bodySF (plainFor_of_name (by first | (simp [plainName, overriddenIn]; done) | decide +kernel)) hisR ?_
  intro p e s m args below meth c s₁ Bd hml0 hP hK
  obtain ⟨rfl, hZ, hh⟩ := hP
  have hx := Bd.exec
  have hby := Bd.bytes
  have hml : c.maxLocals = 5 := hml0
  have hown : s.vm.findClass "com/example/quern/quern/core/TreeUpdate" = some m.cls := findClass_of_methodNamed Bd.named
  have hnm := (name_of_methodNamed Bd.named Bd.method).1
  have hlk : meth.locks = false := Bd.notSynchronized
  have X0 : Stand p l e ({ frames := 0, cells := 0, slots := 0, locals := 0 } : Room) s m #[(.ref v0)] below meth c s₁ [] 0 0 := Stand.of_body Bd
  have e0 : s₁.heap = h0 := by rw [← hh, Bd.state]; rfl
  have N0 := Fr.nil n0
  refine Go.enter (Q := Q_merge4 Z v0 y0 y1 y2 y3 h0 n0) (C := ({ frames := 0, cells := 0, slots := 0, locals := 0 } : Room).cells) (N := ({ frames := 0, cells := 0, slots := 0, locals := 0 } : Room).slots) (ef_merge4 m v0) ?_
  show Go p e below s _ _ _ s₁ (mkF m 0 #[.val (.ref v0), .unset, .unset, .unset, .unset] [])
  refine G_iconst X0 hx (pc' := 1) rfl (hb hby d_merge4_0) (z := (0 : Int32)) rfl ?_
  refine G_istoreN X0 hx (pc' := 2) rfl (hb hby d_merge4_1) (L' := #[.val (.ref v0), .val (.int (0 : Int32)), .unset, .unset, .unset]) rfl ?_
  refine G_lconst X0 hx (pc' := 3) rfl (hb hby d_merge4_2) (z := (0 : Int64)) rfl ?_
  refine G_lstoreN X0 hx (pc' := 4) rfl (hb hby d_merge4_3) (L' := #[.val (.ref v0), .val (.int (0 : Int32)), .val (.long (0 : Int64)), .second, .unset]) rfl ?_
  refine G_iconst X0 hx (pc' := 5) rfl (hb hby d_merge4_4) (z := (0 : Int32)) rfl ?_
  refine G_istore X0 hx (pc' := 7) rfl (hb hby d_merge4_5) (L' := #[.val (.ref v0), .val (.int (0 : Int32)), .val (.long (0 : Int64)), .second, .val (.int (0 : Int32))]) rfl ?_
  refine G_iload X0 hx (pc' := 9) rfl (hb hby d_merge4_7) rfl ?_
  refine G_aloadN X0 hx (pc' := 10) rfl (hb hby d_merge4_9) rfl rfl ?_
  refine Go.st (lenAJ X0 hx hZ e0 f0_J_v0 (g := (mkF m 10 #[.val (.ref v0), .val (.int (0 : Int32)), .val (.long (0 : Int64)), .second, .val (.int (0 : Int32))] [(.ref v0), (.int (0 : Int32))])) rfl rfl (hb hby d_merge4_10)) ?_
  show Go p e below s _ _ _ s₁ (mkF m 11 #[.val (.ref v0), .val (.int (0 : Int32)), .val (.long (0 : Int64)), .second, .val (.int (0 : Int32))] [(.int (4 : Int32)), (.int (0 : Int32))])
  refine G_icmpNo X0 hx (pc' := 14) rfl (hb hby d_merge4_11) (tlt (by decide : (0 : Int32) < (4 : Int32))).2.1 ?_
  refine G_aloadN X0 hx (pc' := 15) rfl (hb hby d_merge4_14) rfl rfl ?_
  refine G_iload X0 hx (pc' := 17) rfl (hb hby d_merge4_15) rfl ?_
  refine Go.st (ldAJ X0 hx hZ e0 f0_J_v0 (j := (0 : Int32)) (by decide) (show Int32.toNatClampNeg 0 < 4 from by decide) (g := (mkF m 17 #[.val (.ref v0), .val (.int (0 : Int32)), .val (.long (0 : Int64)), .second, .val (.int (0 : Int32))] [(.int (0 : Int32)), (.ref v0)])) rfl rfl (hb hby d_merge4_17)) ?_
  show Go p e below s _ _ _ s₁ (mkF m 18 #[.val (.ref v0), .val (.int (0 : Int32)), .val (.long (0 : Int64)), .second, .val (.int (0 : Int32))] [(.long y0)])
  refine G_lloadN X0 hx (pc' := 19) rfl (hb hby d_merge4_18) rfl ?_
  refine G_lcmp X0 hx (pc' := 20) rfl (hb hby d_merge4_19)  ?_
  by_cases hc20_1 : (0 : Int64) < y0
  · refine G_ifYes X0 hx (pc' := 28) (hb hby d_merge4_20) ((if0 _ _).trans (tlt ((lw_gt _ _).2 hc20_1)).2.2.1) (by decide) (by decide) ?_
    refine G_lloadN X0 hx (pc' := 29) rfl (hb hby d_merge4_28) rfl ?_
    refine G_aloadN X0 hx (pc' := 30) rfl (hb hby d_merge4_29) rfl rfl ?_
    refine G_iload X0 hx (pc' := 32) rfl (hb hby d_merge4_30) rfl ?_
    refine Go.st (ldAJ X0 hx hZ e0 f0_J_v0 (j := (0 : Int32)) (by decide) (show Int32.toNatClampNeg 0 < 4 from by decide) (g := (mkF m 32 #[.val (.ref v0), .val (.int (0 : Int32)), .val (.long (0 : Int64)), .second, .val (.int (0 : Int32))] [(.int (0 : Int32)), (.ref v0), (.long (0 : Int64))])) rfl rfl (hb hby d_merge4_32)) ?_
    show Go p e below s _ _ _ s₁ (mkF m 33 #[.val (.ref v0), .val (.int (0 : Int32)), .val (.long (0 : Int64)), .second, .val (.int (0 : Int32))] [(.long y0), (.long (0 : Int64))])
    refine G_ladd X0 hx (pc' := 34) rfl (hb hby d_merge4_33)  ?_
    refine G_lstoreN X0 hx (pc' := 35) rfl (hb hby d_merge4_34) (L' := #[.val (.ref v0), .val (.int (0 : Int32)), .val (.long ((0 : Int64) + y0)), .second, .val (.int (0 : Int32))]) rfl ?_
    refine G_iinc X0 hx (pc' := 38) rfl (hb hby d_merge4_35) rfl (z := (1 : Int32)) rfl (L' := #[.val (.ref v0), .val (.int (0 : Int32)), .val (.long ((0 : Int64) + y0)), .second, .val (.int (1 : Int32))]) rfl ?_
    refine G_goto X0 hx (pc' := 7) (hb hby d_merge4_38)  (by decide) (by decide) ?_
    refine G_iload X0 hx (pc' := 9) rfl (hb hby d_merge4_7) rfl ?_
    refine G_aloadN X0 hx (pc' := 10) rfl (hb hby d_merge4_9) rfl rfl ?_
    refine Go.st (lenAJ X0 hx hZ e0 f0_J_v0 (g := (mkF m 10 #[.val (.ref v0), .val (.int (0 : Int32)), .val (.long ((0 : Int64) + y0)), .second, .val (.int (1 : Int32))] [(.ref v0), (.int (1 : Int32))])) rfl rfl (hb hby d_merge4_10)) ?_
    show Go p e below s _ _ _ s₁ (mkF m 11 #[.val (.ref v0), .val (.int (0 : Int32)), .val (.long ((0 : Int64) + y0)), .second, .val (.int (1 : Int32))] [(.int (4 : Int32)), (.int (1 : Int32))])
    refine G_icmpNo X0 hx (pc' := 14) rfl (hb hby d_merge4_11) (tlt (by decide : (1 : Int32) < (4 : Int32))).2.1 ?_
    refine G_aloadN X0 hx (pc' := 15) rfl (hb hby d_merge4_14) rfl rfl ?_
    refine G_iload X0 hx (pc' := 17) rfl (hb hby d_merge4_15) rfl ?_
    refine Go.st (ldAJ X0 hx hZ e0 f0_J_v0 (j := (1 : Int32)) (by decide) (show Int32.toNatClampNeg 1 < 4 from by decide) (g := (mkF m 17 #[.val (.ref v0), .val (.int (0 : Int32)), .val (.long ((0 : Int64) + y0)), .second, .val (.int (1 : Int32))] [(.int (1 : Int32)), (.ref v0)])) rfl rfl (hb hby d_merge4_17)) ?_
    show Go p e below s _ _ _ s₁ (mkF m 18 #[.val (.ref v0), .val (.int (0 : Int32)), .val (.long ((0 : Int64) + y0)), .second, .val (.int (1 : Int32))] [(.long y1)])
    refine G_lloadN X0 hx (pc' := 19) rfl (hb hby d_merge4_18) rfl ?_
    refine G_lcmp X0 hx (pc' := 20) rfl (hb hby d_merge4_19)  ?_
    by_cases hc20_2 : ((0 : Int64) + y0) < y1
    · refine G_ifYes X0 hx (pc' := 28) (hb hby d_merge4_20) ((if0 _ _).trans (tlt ((lw_gt _ _).2 hc20_2)).2.2.1) (by decide) (by decide) ?_
      refine G_lloadN X0 hx (pc' := 29) rfl (hb hby d_merge4_28) rfl ?_
      refine G_aloadN X0 hx (pc' := 30) rfl (hb hby d_merge4_29) rfl rfl ?_
      refine G_iload X0 hx (pc' := 32) rfl (hb hby d_merge4_30) rfl ?_
      refine Go.st (ldAJ X0 hx hZ e0 f0_J_v0 (j := (1 : Int32)) (by decide) (show Int32.toNatClampNeg 1 < 4 from by decide) (g := (mkF m 32 #[.val (.ref v0), .val (.int (0 : Int32)), .val (.long ((0 : Int64) + y0)), .second, .val (.int (1 : Int32))] [(.int (1 : Int32)), (.ref v0), (.long ((0 : Int64) + y0))])) rfl rfl (hb hby d_merge4_32)) ?_
      show Go p e below s _ _ _ s₁ (mkF m 33 #[.val (.ref v0), .val (.int (0 : Int32)), .val (.long ((0 : Int64) + y0)), .second, .val (.int (1 : Int32))] [(.long y1), (.long ((0 : Int64) + y0))])
      refine G_ladd X0 hx (pc' := 34) rfl (hb hby d_merge4_33)  ?_
      refine G_lstoreN X0 hx (pc' := 35) rfl (hb hby d_merge4_34) (L' := #[.val (.ref v0), .val (.int (0 : Int32)), .val (.long (((0 : Int64) + y0) + y1)), .second, .val (.int (1 : Int32))]) rfl ?_
      refine G_iinc X0 hx (pc' := 38) rfl (hb hby d_merge4_35) rfl (z := (2 : Int32)) rfl (L' := #[.val (.ref v0), .val (.int (0 : Int32)), .val (.long (((0 : Int64) + y0) + y1)), .second, .val (.int (2 : Int32))]) rfl ?_
      refine G_goto X0 hx (pc' := 7) (hb hby d_merge4_38)  (by decide) (by decide) ?_
      refine G_iload X0 hx (pc' := 9) rfl (hb hby d_merge4_7) rfl ?_
      refine G_aloadN X0 hx (pc' := 10) rfl (hb hby d_merge4_9) rfl rfl ?_
      refine Go.st (lenAJ X0 hx hZ e0 f0_J_v0 (g := (mkF m 10 #[.val (.ref v0), .val (.int (0 : Int32)), .val (.long (((0 : Int64) + y0) + y1)), .second, .val (.int (2 : Int32))] [(.ref v0), (.int (2 : Int32))])) rfl rfl (hb hby d_merge4_10)) ?_
      show Go p e below s _ _ _ s₁ (mkF m 11 #[.val (.ref v0), .val (.int (0 : Int32)), .val (.long (((0 : Int64) + y0) + y1)), .second, .val (.int (2 : Int32))] [(.int (4 : Int32)), (.int (2 : Int32))])
      refine G_icmpNo X0 hx (pc' := 14) rfl (hb hby d_merge4_11) (tlt (by decide : (2 : Int32) < (4 : Int32))).2.1 ?_
      refine G_aloadN X0 hx (pc' := 15) rfl (hb hby d_merge4_14) rfl rfl ?_
      refine G_iload X0 hx (pc' := 17) rfl (hb hby d_merge4_15) rfl ?_
      refine Go.st (ldAJ X0 hx hZ e0 f0_J_v0 (j := (2 : Int32)) (by decide) (show Int32.toNatClampNeg 2 < 4 from by decide) (g := (mkF m 17 #[.val (.ref v0), .val (.int (0 : Int32)), .val (.long (((0 : Int64) + y0) + y1)), .second, .val (.int (2 : Int32))] [(.int (2 : Int32)), (.ref v0)])) rfl rfl (hb hby d_merge4_17)) ?_
      show Go p e below s _ _ _ s₁ (mkF m 18 #[.val (.ref v0), .val (.int (0 : Int32)), .val (.long (((0 : Int64) + y0) + y1)), .second, .val (.int (2 : Int32))] [(.long y2)])
      refine G_lloadN X0 hx (pc' := 19) rfl (hb hby d_merge4_18) rfl ?_
      refine G_lcmp X0 hx (pc' := 20) rfl (hb hby d_merge4_19)  ?_
      by_cases hc20_3 : (((0 : Int64) + y0) + y1) < y2
      · refine G_ifYes X0 hx (pc' := 28) (hb hby d_merge4_20) ((if0 _ _).trans (tlt ((lw_gt _ _).2 hc20_3)).2.2.1) (by decide) (by decide) ?_
        refine G_lloadN X0 hx (pc' := 29) rfl (hb hby d_merge4_28) rfl ?_
        refine G_aloadN X0 hx (pc' := 30) rfl (hb hby d_merge4_29) rfl rfl ?_
        refine G_iload X0 hx (pc' := 32) rfl (hb hby d_merge4_30) rfl ?_
        refine Go.st (ldAJ X0 hx hZ e0 f0_J_v0 (j := (2 : Int32)) (by decide) (show Int32.toNatClampNeg 2 < 4 from by decide) (g := (mkF m 32 #[.val (.ref v0), .val (.int (0 : Int32)), .val (.long (((0 : Int64) + y0) + y1)), .second, .val (.int (2 : Int32))] [(.int (2 : Int32)), (.ref v0), (.long (((0 : Int64) + y0) + y1))])) rfl rfl (hb hby d_merge4_32)) ?_
        show Go p e below s _ _ _ s₁ (mkF m 33 #[.val (.ref v0), .val (.int (0 : Int32)), .val (.long (((0 : Int64) + y0) + y1)), .second, .val (.int (2 : Int32))] [(.long y2), (.long (((0 : Int64) + y0) + y1))])
        refine G_ladd X0 hx (pc' := 34) rfl (hb hby d_merge4_33)  ?_
        refine G_lstoreN X0 hx (pc' := 35) rfl (hb hby d_merge4_34) (L' := #[.val (.ref v0), .val (.int (0 : Int32)), .val (.long ((((0 : Int64) + y0) + y1) + y2)), .second, .val (.int (2 : Int32))]) rfl ?_
        refine G_iinc X0 hx (pc' := 38) rfl (hb hby d_merge4_35) rfl (z := (3 : Int32)) rfl (L' := #[.val (.ref v0), .val (.int (0 : Int32)), .val (.long ((((0 : Int64) + y0) + y1) + y2)), .second, .val (.int (3 : Int32))]) rfl ?_
        refine G_goto X0 hx (pc' := 7) (hb hby d_merge4_38)  (by decide) (by decide) ?_
        refine G_iload X0 hx (pc' := 9) rfl (hb hby d_merge4_7) rfl ?_
        refine G_aloadN X0 hx (pc' := 10) rfl (hb hby d_merge4_9) rfl rfl ?_
        refine Go.st (lenAJ X0 hx hZ e0 f0_J_v0 (g := (mkF m 10 #[.val (.ref v0), .val (.int (0 : Int32)), .val (.long ((((0 : Int64) + y0) + y1) + y2)), .second, .val (.int (3 : Int32))] [(.ref v0), (.int (3 : Int32))])) rfl rfl (hb hby d_merge4_10)) ?_
        show Go p e below s _ _ _ s₁ (mkF m 11 #[.val (.ref v0), .val (.int (0 : Int32)), .val (.long ((((0 : Int64) + y0) + y1) + y2)), .second, .val (.int (3 : Int32))] [(.int (4 : Int32)), (.int (3 : Int32))])
        refine G_icmpNo X0 hx (pc' := 14) rfl (hb hby d_merge4_11) (tlt (by decide : (3 : Int32) < (4 : Int32))).2.1 ?_
        refine G_aloadN X0 hx (pc' := 15) rfl (hb hby d_merge4_14) rfl rfl ?_
        refine G_iload X0 hx (pc' := 17) rfl (hb hby d_merge4_15) rfl ?_
        refine Go.st (ldAJ X0 hx hZ e0 f0_J_v0 (j := (3 : Int32)) (by decide) (show Int32.toNatClampNeg 3 < 4 from by decide) (g := (mkF m 17 #[.val (.ref v0), .val (.int (0 : Int32)), .val (.long ((((0 : Int64) + y0) + y1) + y2)), .second, .val (.int (3 : Int32))] [(.int (3 : Int32)), (.ref v0)])) rfl rfl (hb hby d_merge4_17)) ?_
        show Go p e below s _ _ _ s₁ (mkF m 18 #[.val (.ref v0), .val (.int (0 : Int32)), .val (.long ((((0 : Int64) + y0) + y1) + y2)), .second, .val (.int (3 : Int32))] [(.long y3)])
        refine G_lloadN X0 hx (pc' := 19) rfl (hb hby d_merge4_18) rfl ?_
        refine G_lcmp X0 hx (pc' := 20) rfl (hb hby d_merge4_19)  ?_
        by_cases hc20_4 : ((((0 : Int64) + y0) + y1) + y2) < y3
        · refine G_ifYes X0 hx (pc' := 28) (hb hby d_merge4_20) ((if0 _ _).trans (tlt ((lw_gt _ _).2 hc20_4)).2.2.1) (by decide) (by decide) ?_
          refine G_lloadN X0 hx (pc' := 29) rfl (hb hby d_merge4_28) rfl ?_
          refine G_aloadN X0 hx (pc' := 30) rfl (hb hby d_merge4_29) rfl rfl ?_
          refine G_iload X0 hx (pc' := 32) rfl (hb hby d_merge4_30) rfl ?_
          refine Go.st (ldAJ X0 hx hZ e0 f0_J_v0 (j := (3 : Int32)) (by decide) (show Int32.toNatClampNeg 3 < 4 from by decide) (g := (mkF m 32 #[.val (.ref v0), .val (.int (0 : Int32)), .val (.long ((((0 : Int64) + y0) + y1) + y2)), .second, .val (.int (3 : Int32))] [(.int (3 : Int32)), (.ref v0), (.long ((((0 : Int64) + y0) + y1) + y2))])) rfl rfl (hb hby d_merge4_32)) ?_
          show Go p e below s _ _ _ s₁ (mkF m 33 #[.val (.ref v0), .val (.int (0 : Int32)), .val (.long ((((0 : Int64) + y0) + y1) + y2)), .second, .val (.int (3 : Int32))] [(.long y3), (.long ((((0 : Int64) + y0) + y1) + y2))])
          refine G_ladd X0 hx (pc' := 34) rfl (hb hby d_merge4_33)  ?_
          refine G_lstoreN X0 hx (pc' := 35) rfl (hb hby d_merge4_34) (L' := #[.val (.ref v0), .val (.int (0 : Int32)), .val (.long (((((0 : Int64) + y0) + y1) + y2) + y3)), .second, .val (.int (3 : Int32))]) rfl ?_
          refine G_iinc X0 hx (pc' := 38) rfl (hb hby d_merge4_35) rfl (z := (4 : Int32)) rfl (L' := #[.val (.ref v0), .val (.int (0 : Int32)), .val (.long (((((0 : Int64) + y0) + y1) + y2) + y3)), .second, .val (.int (4 : Int32))]) rfl ?_
          refine G_goto X0 hx (pc' := 7) (hb hby d_merge4_38)  (by decide) (by decide) ?_
          refine G_iload X0 hx (pc' := 9) rfl (hb hby d_merge4_7) rfl ?_
          refine G_aloadN X0 hx (pc' := 10) rfl (hb hby d_merge4_9) rfl rfl ?_
          refine Go.st (lenAJ X0 hx hZ e0 f0_J_v0 (g := (mkF m 10 #[.val (.ref v0), .val (.int (0 : Int32)), .val (.long (((((0 : Int64) + y0) + y1) + y2) + y3)), .second, .val (.int (4 : Int32))] [(.ref v0), (.int (4 : Int32))])) rfl rfl (hb hby d_merge4_10)) ?_
          show Go p e below s _ _ _ s₁ (mkF m 11 #[.val (.ref v0), .val (.int (0 : Int32)), .val (.long (((((0 : Int64) + y0) + y1) + y2) + y3)), .second, .val (.int (4 : Int32))] [(.int (4 : Int32)), (.int (4 : Int32))])
          refine G_icmpYes X0 hx (pc' := 41) (hb hby d_merge4_11) (flt (by decide : ¬ ((4 : Int32) < (4 : Int32)))).2.1 (by decide) (by decide) ?_
          refine G_iloadN X0 hx (pc' := 42) rfl (hb hby d_merge4_41) rfl ?_
          refine Go.fin X0 hlk (v := some (.int (0 : Int32))) (fun h => by rw [Bd.returns] at h; cases h) (by decide) (by decide) ?_ (fun fs hr => retOut X0 hx Bd.returns rfl (Or.inl ⟨rfl, Or.inl rfl, _, rfl⟩) (hb hby d_merge4_42) hr)
          show Q_merge4 Z v0 y0 y1 y2 y3 h0 n0 _ s₁.heap _
          rw [e0]
          exact ⟨congrArg (fun z => some (Value.int z)) (by rw [f_merge4]; rw [if_pos hc20_1, if_pos hc20_2, if_pos hc20_3, if_pos hc20_4]), N0, rfl⟩
        · refine G_ifNo X0 hx (pc' := 23) rfl (hb hby d_merge4_20) ((if0 _ _).trans (flt (fun q => hc20_4 ((lw_gt _ _).1 q))).2.2.1) ?_
          refine G_iload X0 hx (pc' := 25) rfl (hb hby d_merge4_23) rfl ?_
          refine G_iconst X0 hx (pc' := 26) rfl (hb hby d_merge4_25) (z := (1 : Int32)) rfl ?_
          refine G_iadd X0 hx (pc' := 27) rfl (hb hby d_merge4_26)  ?_
          rw [show ((3 : Int32) + (1 : Int32)) = (4 : Int32) from by decide]
          refine G_istoreN X0 hx (pc' := 28) rfl (hb hby d_merge4_27) (L' := #[.val (.ref v0), .val (.int (4 : Int32)), .val (.long ((((0 : Int64) + y0) + y1) + y2)), .second, .val (.int (3 : Int32))]) rfl ?_
          refine G_lloadN X0 hx (pc' := 29) rfl (hb hby d_merge4_28) rfl ?_
          refine G_aloadN X0 hx (pc' := 30) rfl (hb hby d_merge4_29) rfl rfl ?_
          refine G_iload X0 hx (pc' := 32) rfl (hb hby d_merge4_30) rfl ?_
          refine Go.st (ldAJ X0 hx hZ e0 f0_J_v0 (j := (3 : Int32)) (by decide) (show Int32.toNatClampNeg 3 < 4 from by decide) (g := (mkF m 32 #[.val (.ref v0), .val (.int (4 : Int32)), .val (.long ((((0 : Int64) + y0) + y1) + y2)), .second, .val (.int (3 : Int32))] [(.int (3 : Int32)), (.ref v0), (.long ((((0 : Int64) + y0) + y1) + y2))])) rfl rfl (hb hby d_merge4_32)) ?_
          show Go p e below s _ _ _ s₁ (mkF m 33 #[.val (.ref v0), .val (.int (4 : Int32)), .val (.long ((((0 : Int64) + y0) + y1) + y2)), .second, .val (.int (3 : Int32))] [(.long y3), (.long ((((0 : Int64) + y0) + y1) + y2))])
          refine G_ladd X0 hx (pc' := 34) rfl (hb hby d_merge4_33)  ?_
          refine G_lstoreN X0 hx (pc' := 35) rfl (hb hby d_merge4_34) (L' := #[.val (.ref v0), .val (.int (4 : Int32)), .val (.long (((((0 : Int64) + y0) + y1) + y2) + y3)), .second, .val (.int (3 : Int32))]) rfl ?_
          refine G_iinc X0 hx (pc' := 38) rfl (hb hby d_merge4_35) rfl (z := (4 : Int32)) rfl (L' := #[.val (.ref v0), .val (.int (4 : Int32)), .val (.long (((((0 : Int64) + y0) + y1) + y2) + y3)), .second, .val (.int (4 : Int32))]) rfl ?_
          refine G_goto X0 hx (pc' := 7) (hb hby d_merge4_38)  (by decide) (by decide) ?_
          refine G_iload X0 hx (pc' := 9) rfl (hb hby d_merge4_7) rfl ?_
          refine G_aloadN X0 hx (pc' := 10) rfl (hb hby d_merge4_9) rfl rfl ?_
          refine Go.st (lenAJ X0 hx hZ e0 f0_J_v0 (g := (mkF m 10 #[.val (.ref v0), .val (.int (4 : Int32)), .val (.long (((((0 : Int64) + y0) + y1) + y2) + y3)), .second, .val (.int (4 : Int32))] [(.ref v0), (.int (4 : Int32))])) rfl rfl (hb hby d_merge4_10)) ?_
          show Go p e below s _ _ _ s₁ (mkF m 11 #[.val (.ref v0), .val (.int (4 : Int32)), .val (.long (((((0 : Int64) + y0) + y1) + y2) + y3)), .second, .val (.int (4 : Int32))] [(.int (4 : Int32)), (.int (4 : Int32))])
          refine G_icmpYes X0 hx (pc' := 41) (hb hby d_merge4_11) (flt (by decide : ¬ ((4 : Int32) < (4 : Int32)))).2.1 (by decide) (by decide) ?_
          refine G_iloadN X0 hx (pc' := 42) rfl (hb hby d_merge4_41) rfl ?_
          refine Go.fin X0 hlk (v := some (.int (4 : Int32))) (fun h => by rw [Bd.returns] at h; cases h) (by decide) (by decide) ?_ (fun fs hr => retOut X0 hx Bd.returns rfl (Or.inl ⟨rfl, Or.inl rfl, _, rfl⟩) (hb hby d_merge4_42) hr)
          show Q_merge4 Z v0 y0 y1 y2 y3 h0 n0 _ s₁.heap _
          rw [e0]
          exact ⟨congrArg (fun z => some (Value.int z)) (by rw [f_merge4]; rw [if_pos hc20_1, if_pos hc20_2, if_pos hc20_3, if_neg hc20_4]), N0, rfl⟩
      · refine G_ifNo X0 hx (pc' := 23) rfl (hb hby d_merge4_20) ((if0 _ _).trans (flt (fun q => hc20_3 ((lw_gt _ _).1 q))).2.2.1) ?_
        refine G_iload X0 hx (pc' := 25) rfl (hb hby d_merge4_23) rfl ?_
        refine G_iconst X0 hx (pc' := 26) rfl (hb hby d_merge4_25) (z := (1 : Int32)) rfl ?_
        refine G_iadd X0 hx (pc' := 27) rfl (hb hby d_merge4_26)  ?_
        rw [show ((2 : Int32) + (1 : Int32)) = (3 : Int32) from by decide]
        refine G_istoreN X0 hx (pc' := 28) rfl (hb hby d_merge4_27) (L' := #[.val (.ref v0), .val (.int (3 : Int32)), .val (.long (((0 : Int64) + y0) + y1)), .second, .val (.int (2 : Int32))]) rfl ?_
        refine G_lloadN X0 hx (pc' := 29) rfl (hb hby d_merge4_28) rfl ?_
        refine G_aloadN X0 hx (pc' := 30) rfl (hb hby d_merge4_29) rfl rfl ?_
        refine G_iload X0 hx (pc' := 32) rfl (hb hby d_merge4_30) rfl ?_
        refine Go.st (ldAJ X0 hx hZ e0 f0_J_v0 (j := (2 : Int32)) (by decide) (show Int32.toNatClampNeg 2 < 4 from by decide) (g := (mkF m 32 #[.val (.ref v0), .val (.int (3 : Int32)), .val (.long (((0 : Int64) + y0) + y1)), .second, .val (.int (2 : Int32))] [(.int (2 : Int32)), (.ref v0), (.long (((0 : Int64) + y0) + y1))])) rfl rfl (hb hby d_merge4_32)) ?_
        show Go p e below s _ _ _ s₁ (mkF m 33 #[.val (.ref v0), .val (.int (3 : Int32)), .val (.long (((0 : Int64) + y0) + y1)), .second, .val (.int (2 : Int32))] [(.long y2), (.long (((0 : Int64) + y0) + y1))])
        refine G_ladd X0 hx (pc' := 34) rfl (hb hby d_merge4_33)  ?_
        refine G_lstoreN X0 hx (pc' := 35) rfl (hb hby d_merge4_34) (L' := #[.val (.ref v0), .val (.int (3 : Int32)), .val (.long ((((0 : Int64) + y0) + y1) + y2)), .second, .val (.int (2 : Int32))]) rfl ?_
        refine G_iinc X0 hx (pc' := 38) rfl (hb hby d_merge4_35) rfl (z := (3 : Int32)) rfl (L' := #[.val (.ref v0), .val (.int (3 : Int32)), .val (.long ((((0 : Int64) + y0) + y1) + y2)), .second, .val (.int (3 : Int32))]) rfl ?_
        refine G_goto X0 hx (pc' := 7) (hb hby d_merge4_38)  (by decide) (by decide) ?_
        refine G_iload X0 hx (pc' := 9) rfl (hb hby d_merge4_7) rfl ?_
        refine G_aloadN X0 hx (pc' := 10) rfl (hb hby d_merge4_9) rfl rfl ?_
        refine Go.st (lenAJ X0 hx hZ e0 f0_J_v0 (g := (mkF m 10 #[.val (.ref v0), .val (.int (3 : Int32)), .val (.long ((((0 : Int64) + y0) + y1) + y2)), .second, .val (.int (3 : Int32))] [(.ref v0), (.int (3 : Int32))])) rfl rfl (hb hby d_merge4_10)) ?_
        show Go p e below s _ _ _ s₁ (mkF m 11 #[.val (.ref v0), .val (.int (3 : Int32)), .val (.long ((((0 : Int64) + y0) + y1) + y2)), .second, .val (.int (3 : Int32))] [(.int (4 : Int32)), (.int (3 : Int32))])
        refine G_icmpNo X0 hx (pc' := 14) rfl (hb hby d_merge4_11) (tlt (by decide : (3 : Int32) < (4 : Int32))).2.1 ?_
        refine G_aloadN X0 hx (pc' := 15) rfl (hb hby d_merge4_14) rfl rfl ?_
        refine G_iload X0 hx (pc' := 17) rfl (hb hby d_merge4_15) rfl ?_
        refine Go.st (ldAJ X0 hx hZ e0 f0_J_v0 (j := (3 : Int32)) (by decide) (show Int32.toNatClampNeg 3 < 4 from by decide) (g := (mkF m 17 #[.val (.ref v0), .val (.int (3 : Int32)), .val (.long ((((0 : Int64) + y0) + y1) + y2)), .second, .val (.int (3 : Int32))] [(.int (3 : Int32)), (.ref v0)])) rfl rfl (hb hby d_merge4_17)) ?_
        show Go p e below s _ _ _ s₁ (mkF m 18 #[.val (.ref v0), .val (.int (3 : Int32)), .val (.long ((((0 : Int64) + y0) + y1) + y2)), .second, .val (.int (3 : Int32))] [(.long y3)])
        refine G_lloadN X0 hx (pc' := 19) rfl (hb hby d_merge4_18) rfl ?_
        refine G_lcmp X0 hx (pc' := 20) rfl (hb hby d_merge4_19)  ?_
        by_cases hc20_5 : ((((0 : Int64) + y0) + y1) + y2) < y3
        · refine G_ifYes X0 hx (pc' := 28) (hb hby d_merge4_20) ((if0 _ _).trans (tlt ((lw_gt _ _).2 hc20_5)).2.2.1) (by decide) (by decide) ?_
          refine G_lloadN X0 hx (pc' := 29) rfl (hb hby d_merge4_28) rfl ?_
          refine G_aloadN X0 hx (pc' := 30) rfl (hb hby d_merge4_29) rfl rfl ?_
          refine G_iload X0 hx (pc' := 32) rfl (hb hby d_merge4_30) rfl ?_
          refine Go.st (ldAJ X0 hx hZ e0 f0_J_v0 (j := (3 : Int32)) (by decide) (show Int32.toNatClampNeg 3 < 4 from by decide) (g := (mkF m 32 #[.val (.ref v0), .val (.int (3 : Int32)), .val (.long ((((0 : Int64) + y0) + y1) + y2)), .second, .val (.int (3 : Int32))] [(.int (3 : Int32)), (.ref v0), (.long ((((0 : Int64) + y0) + y1) + y2))])) rfl rfl (hb hby d_merge4_32)) ?_
          show Go p e below s _ _ _ s₁ (mkF m 33 #[.val (.ref v0), .val (.int (3 : Int32)), .val (.long ((((0 : Int64) + y0) + y1) + y2)), .second, .val (.int (3 : Int32))] [(.long y3), (.long ((((0 : Int64) + y0) + y1) + y2))])
          refine G_ladd X0 hx (pc' := 34) rfl (hb hby d_merge4_33)  ?_
          refine G_lstoreN X0 hx (pc' := 35) rfl (hb hby d_merge4_34) (L' := #[.val (.ref v0), .val (.int (3 : Int32)), .val (.long (((((0 : Int64) + y0) + y1) + y2) + y3)), .second, .val (.int (3 : Int32))]) rfl ?_
          refine G_iinc X0 hx (pc' := 38) rfl (hb hby d_merge4_35) rfl (z := (4 : Int32)) rfl (L' := #[.val (.ref v0), .val (.int (3 : Int32)), .val (.long (((((0 : Int64) + y0) + y1) + y2) + y3)), .second, .val (.int (4 : Int32))]) rfl ?_
          refine G_goto X0 hx (pc' := 7) (hb hby d_merge4_38)  (by decide) (by decide) ?_
          refine G_iload X0 hx (pc' := 9) rfl (hb hby d_merge4_7) rfl ?_
          refine G_aloadN X0 hx (pc' := 10) rfl (hb hby d_merge4_9) rfl rfl ?_
          refine Go.st (lenAJ X0 hx hZ e0 f0_J_v0 (g := (mkF m 10 #[.val (.ref v0), .val (.int (3 : Int32)), .val (.long (((((0 : Int64) + y0) + y1) + y2) + y3)), .second, .val (.int (4 : Int32))] [(.ref v0), (.int (4 : Int32))])) rfl rfl (hb hby d_merge4_10)) ?_
          show Go p e below s _ _ _ s₁ (mkF m 11 #[.val (.ref v0), .val (.int (3 : Int32)), .val (.long (((((0 : Int64) + y0) + y1) + y2) + y3)), .second, .val (.int (4 : Int32))] [(.int (4 : Int32)), (.int (4 : Int32))])
          refine G_icmpYes X0 hx (pc' := 41) (hb hby d_merge4_11) (flt (by decide : ¬ ((4 : Int32) < (4 : Int32)))).2.1 (by decide) (by decide) ?_
          refine G_iloadN X0 hx (pc' := 42) rfl (hb hby d_merge4_41) rfl ?_
          refine Go.fin X0 hlk (v := some (.int (3 : Int32))) (fun h => by rw [Bd.returns] at h; cases h) (by decide) (by decide) ?_ (fun fs hr => retOut X0 hx Bd.returns rfl (Or.inl ⟨rfl, Or.inl rfl, _, rfl⟩) (hb hby d_merge4_42) hr)
          show Q_merge4 Z v0 y0 y1 y2 y3 h0 n0 _ s₁.heap _
          rw [e0]
          exact ⟨congrArg (fun z => some (Value.int z)) (by rw [f_merge4]; rw [if_pos hc20_1, if_pos hc20_2, if_neg hc20_3, if_pos hc20_5]), N0, rfl⟩
        · refine G_ifNo X0 hx (pc' := 23) rfl (hb hby d_merge4_20) ((if0 _ _).trans (flt (fun q => hc20_5 ((lw_gt _ _).1 q))).2.2.1) ?_
          refine G_iload X0 hx (pc' := 25) rfl (hb hby d_merge4_23) rfl ?_
          refine G_iconst X0 hx (pc' := 26) rfl (hb hby d_merge4_25) (z := (1 : Int32)) rfl ?_
          refine G_iadd X0 hx (pc' := 27) rfl (hb hby d_merge4_26)  ?_
          rw [show ((3 : Int32) + (1 : Int32)) = (4 : Int32) from by decide]
          refine G_istoreN X0 hx (pc' := 28) rfl (hb hby d_merge4_27) (L' := #[.val (.ref v0), .val (.int (4 : Int32)), .val (.long ((((0 : Int64) + y0) + y1) + y2)), .second, .val (.int (3 : Int32))]) rfl ?_
          refine G_lloadN X0 hx (pc' := 29) rfl (hb hby d_merge4_28) rfl ?_
          refine G_aloadN X0 hx (pc' := 30) rfl (hb hby d_merge4_29) rfl rfl ?_
          refine G_iload X0 hx (pc' := 32) rfl (hb hby d_merge4_30) rfl ?_
          refine Go.st (ldAJ X0 hx hZ e0 f0_J_v0 (j := (3 : Int32)) (by decide) (show Int32.toNatClampNeg 3 < 4 from by decide) (g := (mkF m 32 #[.val (.ref v0), .val (.int (4 : Int32)), .val (.long ((((0 : Int64) + y0) + y1) + y2)), .second, .val (.int (3 : Int32))] [(.int (3 : Int32)), (.ref v0), (.long ((((0 : Int64) + y0) + y1) + y2))])) rfl rfl (hb hby d_merge4_32)) ?_
          show Go p e below s _ _ _ s₁ (mkF m 33 #[.val (.ref v0), .val (.int (4 : Int32)), .val (.long ((((0 : Int64) + y0) + y1) + y2)), .second, .val (.int (3 : Int32))] [(.long y3), (.long ((((0 : Int64) + y0) + y1) + y2))])
          refine G_ladd X0 hx (pc' := 34) rfl (hb hby d_merge4_33)  ?_
          refine G_lstoreN X0 hx (pc' := 35) rfl (hb hby d_merge4_34) (L' := #[.val (.ref v0), .val (.int (4 : Int32)), .val (.long (((((0 : Int64) + y0) + y1) + y2) + y3)), .second, .val (.int (3 : Int32))]) rfl ?_
          refine G_iinc X0 hx (pc' := 38) rfl (hb hby d_merge4_35) rfl (z := (4 : Int32)) rfl (L' := #[.val (.ref v0), .val (.int (4 : Int32)), .val (.long (((((0 : Int64) + y0) + y1) + y2) + y3)), .second, .val (.int (4 : Int32))]) rfl ?_
          refine G_goto X0 hx (pc' := 7) (hb hby d_merge4_38)  (by decide) (by decide) ?_
          refine G_iload X0 hx (pc' := 9) rfl (hb hby d_merge4_7) rfl ?_
          refine G_aloadN X0 hx (pc' := 10) rfl (hb hby d_merge4_9) rfl rfl ?_
          refine Go.st (lenAJ X0 hx hZ e0 f0_J_v0 (g := (mkF m 10 #[.val (.ref v0), .val (.int (4 : Int32)), .val (.long (((((0 : Int64) + y0) + y1) + y2) + y3)), .second, .val (.int (4 : Int32))] [(.ref v0), (.int (4 : Int32))])) rfl rfl (hb hby d_merge4_10)) ?_
          show Go p e below s _ _ _ s₁ (mkF m 11 #[.val (.ref v0), .val (.int (4 : Int32)), .val (.long (((((0 : Int64) + y0) + y1) + y2) + y3)), .second, .val (.int (4 : Int32))] [(.int (4 : Int32)), (.int (4 : Int32))])
          refine G_icmpYes X0 hx (pc' := 41) (hb hby d_merge4_11) (flt (by decide : ¬ ((4 : Int32) < (4 : Int32)))).2.1 (by decide) (by decide) ?_
          refine G_iloadN X0 hx (pc' := 42) rfl (hb hby d_merge4_41) rfl ?_
          refine Go.fin X0 hlk (v := some (.int (4 : Int32))) (fun h => by rw [Bd.returns] at h; cases h) (by decide) (by decide) ?_ (fun fs hr => retOut X0 hx Bd.returns rfl (Or.inl ⟨rfl, Or.inl rfl, _, rfl⟩) (hb hby d_merge4_42) hr)
          show Q_merge4 Z v0 y0 y1 y2 y3 h0 n0 _ s₁.heap _
          rw [e0]
          exact ⟨congrArg (fun z => some (Value.int z)) (by rw [f_merge4]; rw [if_pos hc20_1, if_pos hc20_2, if_neg hc20_3, if_neg hc20_5]), N0, rfl⟩
    · refine G_ifNo X0 hx (pc' := 23) rfl (hb hby d_merge4_20) ((if0 _ _).trans (flt (fun q => hc20_2 ((lw_gt _ _).1 q))).2.2.1) ?_
      refine G_iload X0 hx (pc' := 25) rfl (hb hby d_merge4_23) rfl ?_
      refine G_iconst X0 hx (pc' := 26) rfl (hb hby d_merge4_25) (z := (1 : Int32)) rfl ?_
      refine G_iadd X0 hx (pc' := 27) rfl (hb hby d_merge4_26)  ?_
      rw [show ((1 : Int32) + (1 : Int32)) = (2 : Int32) from by decide]
      refine G_istoreN X0 hx (pc' := 28) rfl (hb hby d_merge4_27) (L' := #[.val (.ref v0), .val (.int (2 : Int32)), .val (.long ((0 : Int64) + y0)), .second, .val (.int (1 : Int32))]) rfl ?_
      refine G_lloadN X0 hx (pc' := 29) rfl (hb hby d_merge4_28) rfl ?_
      refine G_aloadN X0 hx (pc' := 30) rfl (hb hby d_merge4_29) rfl rfl ?_
      refine G_iload X0 hx (pc' := 32) rfl (hb hby d_merge4_30) rfl ?_
      refine Go.st (ldAJ X0 hx hZ e0 f0_J_v0 (j := (1 : Int32)) (by decide) (show Int32.toNatClampNeg 1 < 4 from by decide) (g := (mkF m 32 #[.val (.ref v0), .val (.int (2 : Int32)), .val (.long ((0 : Int64) + y0)), .second, .val (.int (1 : Int32))] [(.int (1 : Int32)), (.ref v0), (.long ((0 : Int64) + y0))])) rfl rfl (hb hby d_merge4_32)) ?_
      show Go p e below s _ _ _ s₁ (mkF m 33 #[.val (.ref v0), .val (.int (2 : Int32)), .val (.long ((0 : Int64) + y0)), .second, .val (.int (1 : Int32))] [(.long y1), (.long ((0 : Int64) + y0))])
      refine G_ladd X0 hx (pc' := 34) rfl (hb hby d_merge4_33)  ?_
      refine G_lstoreN X0 hx (pc' := 35) rfl (hb hby d_merge4_34) (L' := #[.val (.ref v0), .val (.int (2 : Int32)), .val (.long (((0 : Int64) + y0) + y1)), .second, .val (.int (1 : Int32))]) rfl ?_
      refine G_iinc X0 hx (pc' := 38) rfl (hb hby d_merge4_35) rfl (z := (2 : Int32)) rfl (L' := #[.val (.ref v0), .val (.int (2 : Int32)), .val (.long (((0 : Int64) + y0) + y1)), .second, .val (.int (2 : Int32))]) rfl ?_
      refine G_goto X0 hx (pc' := 7) (hb hby d_merge4_38)  (by decide) (by decide) ?_
      refine G_iload X0 hx (pc' := 9) rfl (hb hby d_merge4_7) rfl ?_
      refine G_aloadN X0 hx (pc' := 10) rfl (hb hby d_merge4_9) rfl rfl ?_
      refine Go.st (lenAJ X0 hx hZ e0 f0_J_v0 (g := (mkF m 10 #[.val (.ref v0), .val (.int (2 : Int32)), .val (.long (((0 : Int64) + y0) + y1)), .second, .val (.int (2 : Int32))] [(.ref v0), (.int (2 : Int32))])) rfl rfl (hb hby d_merge4_10)) ?_
      show Go p e below s _ _ _ s₁ (mkF m 11 #[.val (.ref v0), .val (.int (2 : Int32)), .val (.long (((0 : Int64) + y0) + y1)), .second, .val (.int (2 : Int32))] [(.int (4 : Int32)), (.int (2 : Int32))])
      refine G_icmpNo X0 hx (pc' := 14) rfl (hb hby d_merge4_11) (tlt (by decide : (2 : Int32) < (4 : Int32))).2.1 ?_
      refine G_aloadN X0 hx (pc' := 15) rfl (hb hby d_merge4_14) rfl rfl ?_
      refine G_iload X0 hx (pc' := 17) rfl (hb hby d_merge4_15) rfl ?_
      refine Go.st (ldAJ X0 hx hZ e0 f0_J_v0 (j := (2 : Int32)) (by decide) (show Int32.toNatClampNeg 2 < 4 from by decide) (g := (mkF m 17 #[.val (.ref v0), .val (.int (2 : Int32)), .val (.long (((0 : Int64) + y0) + y1)), .second, .val (.int (2 : Int32))] [(.int (2 : Int32)), (.ref v0)])) rfl rfl (hb hby d_merge4_17)) ?_
      show Go p e below s _ _ _ s₁ (mkF m 18 #[.val (.ref v0), .val (.int (2 : Int32)), .val (.long (((0 : Int64) + y0) + y1)), .second, .val (.int (2 : Int32))] [(.long y2)])
      refine G_lloadN X0 hx (pc' := 19) rfl (hb hby d_merge4_18) rfl ?_
      refine G_lcmp X0 hx (pc' := 20) rfl (hb hby d_merge4_19)  ?_
      by_cases hc20_6 : (((0 : Int64) + y0) + y1) < y2
      · refine G_ifYes X0 hx (pc' := 28) (hb hby d_merge4_20) ((if0 _ _).trans (tlt ((lw_gt _ _).2 hc20_6)).2.2.1) (by decide) (by decide) ?_
        refine G_lloadN X0 hx (pc' := 29) rfl (hb hby d_merge4_28) rfl ?_
        refine G_aloadN X0 hx (pc' := 30) rfl (hb hby d_merge4_29) rfl rfl ?_
        refine G_iload X0 hx (pc' := 32) rfl (hb hby d_merge4_30) rfl ?_
        refine Go.st (ldAJ X0 hx hZ e0 f0_J_v0 (j := (2 : Int32)) (by decide) (show Int32.toNatClampNeg 2 < 4 from by decide) (g := (mkF m 32 #[.val (.ref v0), .val (.int (2 : Int32)), .val (.long (((0 : Int64) + y0) + y1)), .second, .val (.int (2 : Int32))] [(.int (2 : Int32)), (.ref v0), (.long (((0 : Int64) + y0) + y1))])) rfl rfl (hb hby d_merge4_32)) ?_
        show Go p e below s _ _ _ s₁ (mkF m 33 #[.val (.ref v0), .val (.int (2 : Int32)), .val (.long (((0 : Int64) + y0) + y1)), .second, .val (.int (2 : Int32))] [(.long y2), (.long (((0 : Int64) + y0) + y1))])
        refine G_ladd X0 hx (pc' := 34) rfl (hb hby d_merge4_33)  ?_
        refine G_lstoreN X0 hx (pc' := 35) rfl (hb hby d_merge4_34) (L' := #[.val (.ref v0), .val (.int (2 : Int32)), .val (.long ((((0 : Int64) + y0) + y1) + y2)), .second, .val (.int (2 : Int32))]) rfl ?_
        refine G_iinc X0 hx (pc' := 38) rfl (hb hby d_merge4_35) rfl (z := (3 : Int32)) rfl (L' := #[.val (.ref v0), .val (.int (2 : Int32)), .val (.long ((((0 : Int64) + y0) + y1) + y2)), .second, .val (.int (3 : Int32))]) rfl ?_
        refine G_goto X0 hx (pc' := 7) (hb hby d_merge4_38)  (by decide) (by decide) ?_
        refine G_iload X0 hx (pc' := 9) rfl (hb hby d_merge4_7) rfl ?_
        refine G_aloadN X0 hx (pc' := 10) rfl (hb hby d_merge4_9) rfl rfl ?_
        refine Go.st (lenAJ X0 hx hZ e0 f0_J_v0 (g := (mkF m 10 #[.val (.ref v0), .val (.int (2 : Int32)), .val (.long ((((0 : Int64) + y0) + y1) + y2)), .second, .val (.int (3 : Int32))] [(.ref v0), (.int (3 : Int32))])) rfl rfl (hb hby d_merge4_10)) ?_
        show Go p e below s _ _ _ s₁ (mkF m 11 #[.val (.ref v0), .val (.int (2 : Int32)), .val (.long ((((0 : Int64) + y0) + y1) + y2)), .second, .val (.int (3 : Int32))] [(.int (4 : Int32)), (.int (3 : Int32))])
        refine G_icmpNo X0 hx (pc' := 14) rfl (hb hby d_merge4_11) (tlt (by decide : (3 : Int32) < (4 : Int32))).2.1 ?_
        refine G_aloadN X0 hx (pc' := 15) rfl (hb hby d_merge4_14) rfl rfl ?_
        refine G_iload X0 hx (pc' := 17) rfl (hb hby d_merge4_15) rfl ?_
        refine Go.st (ldAJ X0 hx hZ e0 f0_J_v0 (j := (3 : Int32)) (by decide) (show Int32.toNatClampNeg 3 < 4 from by decide) (g := (mkF m 17 #[.val (.ref v0), .val (.int (2 : Int32)), .val (.long ((((0 : Int64) + y0) + y1) + y2)), .second, .val (.int (3 : Int32))] [(.int (3 : Int32)), (.ref v0)])) rfl rfl (hb hby d_merge4_17)) ?_
        show Go p e below s _ _ _ s₁ (mkF m 18 #[.val (.ref v0), .val (.int (2 : Int32)), .val (.long ((((0 : Int64) + y0) + y1) + y2)), .second, .val (.int (3 : Int32))] [(.long y3)])
        refine G_lloadN X0 hx (pc' := 19) rfl (hb hby d_merge4_18) rfl ?_
        refine G_lcmp X0 hx (pc' := 20) rfl (hb hby d_merge4_19)  ?_
        by_cases hc20_7 : ((((0 : Int64) + y0) + y1) + y2) < y3
        · refine G_ifYes X0 hx (pc' := 28) (hb hby d_merge4_20) ((if0 _ _).trans (tlt ((lw_gt _ _).2 hc20_7)).2.2.1) (by decide) (by decide) ?_
          refine G_lloadN X0 hx (pc' := 29) rfl (hb hby d_merge4_28) rfl ?_
          refine G_aloadN X0 hx (pc' := 30) rfl (hb hby d_merge4_29) rfl rfl ?_
          refine G_iload X0 hx (pc' := 32) rfl (hb hby d_merge4_30) rfl ?_
          refine Go.st (ldAJ X0 hx hZ e0 f0_J_v0 (j := (3 : Int32)) (by decide) (show Int32.toNatClampNeg 3 < 4 from by decide) (g := (mkF m 32 #[.val (.ref v0), .val (.int (2 : Int32)), .val (.long ((((0 : Int64) + y0) + y1) + y2)), .second, .val (.int (3 : Int32))] [(.int (3 : Int32)), (.ref v0), (.long ((((0 : Int64) + y0) + y1) + y2))])) rfl rfl (hb hby d_merge4_32)) ?_
          show Go p e below s _ _ _ s₁ (mkF m 33 #[.val (.ref v0), .val (.int (2 : Int32)), .val (.long ((((0 : Int64) + y0) + y1) + y2)), .second, .val (.int (3 : Int32))] [(.long y3), (.long ((((0 : Int64) + y0) + y1) + y2))])
          refine G_ladd X0 hx (pc' := 34) rfl (hb hby d_merge4_33)  ?_
          refine G_lstoreN X0 hx (pc' := 35) rfl (hb hby d_merge4_34) (L' := #[.val (.ref v0), .val (.int (2 : Int32)), .val (.long (((((0 : Int64) + y0) + y1) + y2) + y3)), .second, .val (.int (3 : Int32))]) rfl ?_
          refine G_iinc X0 hx (pc' := 38) rfl (hb hby d_merge4_35) rfl (z := (4 : Int32)) rfl (L' := #[.val (.ref v0), .val (.int (2 : Int32)), .val (.long (((((0 : Int64) + y0) + y1) + y2) + y3)), .second, .val (.int (4 : Int32))]) rfl ?_
          refine G_goto X0 hx (pc' := 7) (hb hby d_merge4_38)  (by decide) (by decide) ?_
          refine G_iload X0 hx (pc' := 9) rfl (hb hby d_merge4_7) rfl ?_
          refine G_aloadN X0 hx (pc' := 10) rfl (hb hby d_merge4_9) rfl rfl ?_
          refine Go.st (lenAJ X0 hx hZ e0 f0_J_v0 (g := (mkF m 10 #[.val (.ref v0), .val (.int (2 : Int32)), .val (.long (((((0 : Int64) + y0) + y1) + y2) + y3)), .second, .val (.int (4 : Int32))] [(.ref v0), (.int (4 : Int32))])) rfl rfl (hb hby d_merge4_10)) ?_
          show Go p e below s _ _ _ s₁ (mkF m 11 #[.val (.ref v0), .val (.int (2 : Int32)), .val (.long (((((0 : Int64) + y0) + y1) + y2) + y3)), .second, .val (.int (4 : Int32))] [(.int (4 : Int32)), (.int (4 : Int32))])
          refine G_icmpYes X0 hx (pc' := 41) (hb hby d_merge4_11) (flt (by decide : ¬ ((4 : Int32) < (4 : Int32)))).2.1 (by decide) (by decide) ?_
          refine G_iloadN X0 hx (pc' := 42) rfl (hb hby d_merge4_41) rfl ?_
          refine Go.fin X0 hlk (v := some (.int (2 : Int32))) (fun h => by rw [Bd.returns] at h; cases h) (by decide) (by decide) ?_ (fun fs hr => retOut X0 hx Bd.returns rfl (Or.inl ⟨rfl, Or.inl rfl, _, rfl⟩) (hb hby d_merge4_42) hr)
          show Q_merge4 Z v0 y0 y1 y2 y3 h0 n0 _ s₁.heap _
          rw [e0]
          exact ⟨congrArg (fun z => some (Value.int z)) (by rw [f_merge4]; rw [if_pos hc20_1, if_neg hc20_2, if_pos hc20_6, if_pos hc20_7]), N0, rfl⟩
        · refine G_ifNo X0 hx (pc' := 23) rfl (hb hby d_merge4_20) ((if0 _ _).trans (flt (fun q => hc20_7 ((lw_gt _ _).1 q))).2.2.1) ?_
          refine G_iload X0 hx (pc' := 25) rfl (hb hby d_merge4_23) rfl ?_
          refine G_iconst X0 hx (pc' := 26) rfl (hb hby d_merge4_25) (z := (1 : Int32)) rfl ?_
          refine G_iadd X0 hx (pc' := 27) rfl (hb hby d_merge4_26)  ?_
          rw [show ((3 : Int32) + (1 : Int32)) = (4 : Int32) from by decide]
          refine G_istoreN X0 hx (pc' := 28) rfl (hb hby d_merge4_27) (L' := #[.val (.ref v0), .val (.int (4 : Int32)), .val (.long ((((0 : Int64) + y0) + y1) + y2)), .second, .val (.int (3 : Int32))]) rfl ?_
          refine G_lloadN X0 hx (pc' := 29) rfl (hb hby d_merge4_28) rfl ?_
          refine G_aloadN X0 hx (pc' := 30) rfl (hb hby d_merge4_29) rfl rfl ?_
          refine G_iload X0 hx (pc' := 32) rfl (hb hby d_merge4_30) rfl ?_
          refine Go.st (ldAJ X0 hx hZ e0 f0_J_v0 (j := (3 : Int32)) (by decide) (show Int32.toNatClampNeg 3 < 4 from by decide) (g := (mkF m 32 #[.val (.ref v0), .val (.int (4 : Int32)), .val (.long ((((0 : Int64) + y0) + y1) + y2)), .second, .val (.int (3 : Int32))] [(.int (3 : Int32)), (.ref v0), (.long ((((0 : Int64) + y0) + y1) + y2))])) rfl rfl (hb hby d_merge4_32)) ?_
          show Go p e below s _ _ _ s₁ (mkF m 33 #[.val (.ref v0), .val (.int (4 : Int32)), .val (.long ((((0 : Int64) + y0) + y1) + y2)), .second, .val (.int (3 : Int32))] [(.long y3), (.long ((((0 : Int64) + y0) + y1) + y2))])
          refine G_ladd X0 hx (pc' := 34) rfl (hb hby d_merge4_33)  ?_
          refine G_lstoreN X0 hx (pc' := 35) rfl (hb hby d_merge4_34) (L' := #[.val (.ref v0), .val (.int (4 : Int32)), .val (.long (((((0 : Int64) + y0) + y1) + y2) + y3)), .second, .val (.int (3 : Int32))]) rfl ?_
          refine G_iinc X0 hx (pc' := 38) rfl (hb hby d_merge4_35) rfl (z := (4 : Int32)) rfl (L' := #[.val (.ref v0), .val (.int (4 : Int32)), .val (.long (((((0 : Int64) + y0) + y1) + y2) + y3)), .second, .val (.int (4 : Int32))]) rfl ?_
          refine G_goto X0 hx (pc' := 7) (hb hby d_merge4_38)  (by decide) (by decide) ?_
          refine G_iload X0 hx (pc' := 9) rfl (hb hby d_merge4_7) rfl ?_
          refine G_aloadN X0 hx (pc' := 10) rfl (hb hby d_merge4_9) rfl rfl ?_
          refine Go.st (lenAJ X0 hx hZ e0 f0_J_v0 (g := (mkF m 10 #[.val (.ref v0), .val (.int (4 : Int32)), .val (.long (((((0 : Int64) + y0) + y1) + y2) + y3)), .second, .val (.int (4 : Int32))] [(.ref v0), (.int (4 : Int32))])) rfl rfl (hb hby d_merge4_10)) ?_
          show Go p e below s _ _ _ s₁ (mkF m 11 #[.val (.ref v0), .val (.int (4 : Int32)), .val (.long (((((0 : Int64) + y0) + y1) + y2) + y3)), .second, .val (.int (4 : Int32))] [(.int (4 : Int32)), (.int (4 : Int32))])
          refine G_icmpYes X0 hx (pc' := 41) (hb hby d_merge4_11) (flt (by decide : ¬ ((4 : Int32) < (4 : Int32)))).2.1 (by decide) (by decide) ?_
          refine G_iloadN X0 hx (pc' := 42) rfl (hb hby d_merge4_41) rfl ?_
          refine Go.fin X0 hlk (v := some (.int (4 : Int32))) (fun h => by rw [Bd.returns] at h; cases h) (by decide) (by decide) ?_ (fun fs hr => retOut X0 hx Bd.returns rfl (Or.inl ⟨rfl, Or.inl rfl, _, rfl⟩) (hb hby d_merge4_42) hr)
          show Q_merge4 Z v0 y0 y1 y2 y3 h0 n0 _ s₁.heap _
          rw [e0]
          exact ⟨congrArg (fun z => some (Value.int z)) (by rw [f_merge4]; rw [if_pos hc20_1, if_neg hc20_2, if_pos hc20_6, if_neg hc20_7]), N0, rfl⟩
      · refine G_ifNo X0 hx (pc' := 23) rfl (hb hby d_merge4_20) ((if0 _ _).trans (flt (fun q => hc20_6 ((lw_gt _ _).1 q))).2.2.1) ?_
        refine G_iload X0 hx (pc' := 25) rfl (hb hby d_merge4_23) rfl ?_
        refine G_iconst X0 hx (pc' := 26) rfl (hb hby d_merge4_25) (z := (1 : Int32)) rfl ?_
        refine G_iadd X0 hx (pc' := 27) rfl (hb hby d_merge4_26)  ?_
        rw [show ((2 : Int32) + (1 : Int32)) = (3 : Int32) from by decide]
        refine G_istoreN X0 hx (pc' := 28) rfl (hb hby d_merge4_27) (L' := #[.val (.ref v0), .val (.int (3 : Int32)), .val (.long (((0 : Int64) + y0) + y1)), .second, .val (.int (2 : Int32))]) rfl ?_
        refine G_lloadN X0 hx (pc' := 29) rfl (hb hby d_merge4_28) rfl ?_
        refine G_aloadN X0 hx (pc' := 30) rfl (hb hby d_merge4_29) rfl rfl ?_
        refine G_iload X0 hx (pc' := 32) rfl (hb hby d_merge4_30) rfl ?_
        refine Go.st (ldAJ X0 hx hZ e0 f0_J_v0 (j := (2 : Int32)) (by decide) (show Int32.toNatClampNeg 2 < 4 from by decide) (g := (mkF m 32 #[.val (.ref v0), .val (.int (3 : Int32)), .val (.long (((0 : Int64) + y0) + y1)), .second, .val (.int (2 : Int32))] [(.int (2 : Int32)), (.ref v0), (.long (((0 : Int64) + y0) + y1))])) rfl rfl (hb hby d_merge4_32)) ?_
        show Go p e below s _ _ _ s₁ (mkF m 33 #[.val (.ref v0), .val (.int (3 : Int32)), .val (.long (((0 : Int64) + y0) + y1)), .second, .val (.int (2 : Int32))] [(.long y2), (.long (((0 : Int64) + y0) + y1))])
        refine G_ladd X0 hx (pc' := 34) rfl (hb hby d_merge4_33)  ?_
        refine G_lstoreN X0 hx (pc' := 35) rfl (hb hby d_merge4_34) (L' := #[.val (.ref v0), .val (.int (3 : Int32)), .val (.long ((((0 : Int64) + y0) + y1) + y2)), .second, .val (.int (2 : Int32))]) rfl ?_
        refine G_iinc X0 hx (pc' := 38) rfl (hb hby d_merge4_35) rfl (z := (3 : Int32)) rfl (L' := #[.val (.ref v0), .val (.int (3 : Int32)), .val (.long ((((0 : Int64) + y0) + y1) + y2)), .second, .val (.int (3 : Int32))]) rfl ?_
        refine G_goto X0 hx (pc' := 7) (hb hby d_merge4_38)  (by decide) (by decide) ?_
        refine G_iload X0 hx (pc' := 9) rfl (hb hby d_merge4_7) rfl ?_
        refine G_aloadN X0 hx (pc' := 10) rfl (hb hby d_merge4_9) rfl rfl ?_
        refine Go.st (lenAJ X0 hx hZ e0 f0_J_v0 (g := (mkF m 10 #[.val (.ref v0), .val (.int (3 : Int32)), .val (.long ((((0 : Int64) + y0) + y1) + y2)), .second, .val (.int (3 : Int32))] [(.ref v0), (.int (3 : Int32))])) rfl rfl (hb hby d_merge4_10)) ?_
        show Go p e below s _ _ _ s₁ (mkF m 11 #[.val (.ref v0), .val (.int (3 : Int32)), .val (.long ((((0 : Int64) + y0) + y1) + y2)), .second, .val (.int (3 : Int32))] [(.int (4 : Int32)), (.int (3 : Int32))])
        refine G_icmpNo X0 hx (pc' := 14) rfl (hb hby d_merge4_11) (tlt (by decide : (3 : Int32) < (4 : Int32))).2.1 ?_
        refine G_aloadN X0 hx (pc' := 15) rfl (hb hby d_merge4_14) rfl rfl ?_
        refine G_iload X0 hx (pc' := 17) rfl (hb hby d_merge4_15) rfl ?_
        refine Go.st (ldAJ X0 hx hZ e0 f0_J_v0 (j := (3 : Int32)) (by decide) (show Int32.toNatClampNeg 3 < 4 from by decide) (g := (mkF m 17 #[.val (.ref v0), .val (.int (3 : Int32)), .val (.long ((((0 : Int64) + y0) + y1) + y2)), .second, .val (.int (3 : Int32))] [(.int (3 : Int32)), (.ref v0)])) rfl rfl (hb hby d_merge4_17)) ?_
        show Go p e below s _ _ _ s₁ (mkF m 18 #[.val (.ref v0), .val (.int (3 : Int32)), .val (.long ((((0 : Int64) + y0) + y1) + y2)), .second, .val (.int (3 : Int32))] [(.long y3)])
        refine G_lloadN X0 hx (pc' := 19) rfl (hb hby d_merge4_18) rfl ?_
        refine G_lcmp X0 hx (pc' := 20) rfl (hb hby d_merge4_19)  ?_
        by_cases hc20_8 : ((((0 : Int64) + y0) + y1) + y2) < y3
        · refine G_ifYes X0 hx (pc' := 28) (hb hby d_merge4_20) ((if0 _ _).trans (tlt ((lw_gt _ _).2 hc20_8)).2.2.1) (by decide) (by decide) ?_
          refine G_lloadN X0 hx (pc' := 29) rfl (hb hby d_merge4_28) rfl ?_
          refine G_aloadN X0 hx (pc' := 30) rfl (hb hby d_merge4_29) rfl rfl ?_
          refine G_iload X0 hx (pc' := 32) rfl (hb hby d_merge4_30) rfl ?_
          refine Go.st (ldAJ X0 hx hZ e0 f0_J_v0 (j := (3 : Int32)) (by decide) (show Int32.toNatClampNeg 3 < 4 from by decide) (g := (mkF m 32 #[.val (.ref v0), .val (.int (3 : Int32)), .val (.long ((((0 : Int64) + y0) + y1) + y2)), .second, .val (.int (3 : Int32))] [(.int (3 : Int32)), (.ref v0), (.long ((((0 : Int64) + y0) + y1) + y2))])) rfl rfl (hb hby d_merge4_32)) ?_
          show Go p e below s _ _ _ s₁ (mkF m 33 #[.val (.ref v0), .val (.int (3 : Int32)), .val (.long ((((0 : Int64) + y0) + y1) + y2)), .second, .val (.int (3 : Int32))] [(.long y3), (.long ((((0 : Int64) + y0) + y1) + y2))])
          refine G_ladd X0 hx (pc' := 34) rfl (hb hby d_merge4_33)  ?_
          refine G_lstoreN X0 hx (pc' := 35) rfl (hb hby d_merge4_34) (L' := #[.val (.ref v0), .val (.int (3 : Int32)), .val (.long (((((0 : Int64) + y0) + y1) + y2) + y3)), .second, .val (.int (3 : Int32))]) rfl ?_
          refine G_iinc X0 hx (pc' := 38) rfl (hb hby d_merge4_35) rfl (z := (4 : Int32)) rfl (L' := #[.val (.ref v0), .val (.int (3 : Int32)), .val (.long (((((0 : Int64) + y0) + y1) + y2) + y3)), .second, .val (.int (4 : Int32))]) rfl ?_
          refine G_goto X0 hx (pc' := 7) (hb hby d_merge4_38)  (by decide) (by decide) ?_
          refine G_iload X0 hx (pc' := 9) rfl (hb hby d_merge4_7) rfl ?_
          refine G_aloadN X0 hx (pc' := 10) rfl (hb hby d_merge4_9) rfl rfl ?_
          refine Go.st (lenAJ X0 hx hZ e0 f0_J_v0 (g := (mkF m 10 #[.val (.ref v0), .val (.int (3 : Int32)), .val (.long (((((0 : Int64) + y0) + y1) + y2) + y3)), .second, .val (.int (4 : Int32))] [(.ref v0), (.int (4 : Int32))])) rfl rfl (hb hby d_merge4_10)) ?_
          show Go p e below s _ _ _ s₁ (mkF m 11 #[.val (.ref v0), .val (.int (3 : Int32)), .val (.long (((((0 : Int64) + y0) + y1) + y2) + y3)), .second, .val (.int (4 : Int32))] [(.int (4 : Int32)), (.int (4 : Int32))])
          refine G_icmpYes X0 hx (pc' := 41) (hb hby d_merge4_11) (flt (by decide : ¬ ((4 : Int32) < (4 : Int32)))).2.1 (by decide) (by decide) ?_
          refine G_iloadN X0 hx (pc' := 42) rfl (hb hby d_merge4_41) rfl ?_
          refine Go.fin X0 hlk (v := some (.int (3 : Int32))) (fun h => by rw [Bd.returns] at h; cases h) (by decide) (by decide) ?_ (fun fs hr => retOut X0 hx Bd.returns rfl (Or.inl ⟨rfl, Or.inl rfl, _, rfl⟩) (hb hby d_merge4_42) hr)
          show Q_merge4 Z v0 y0 y1 y2 y3 h0 n0 _ s₁.heap _
          rw [e0]
          exact ⟨congrArg (fun z => some (Value.int z)) (by rw [f_merge4]; rw [if_pos hc20_1, if_neg hc20_2, if_neg hc20_6, if_pos hc20_8]), N0, rfl⟩
        · refine G_ifNo X0 hx (pc' := 23) rfl (hb hby d_merge4_20) ((if0 _ _).trans (flt (fun q => hc20_8 ((lw_gt _ _).1 q))).2.2.1) ?_
          refine G_iload X0 hx (pc' := 25) rfl (hb hby d_merge4_23) rfl ?_
          refine G_iconst X0 hx (pc' := 26) rfl (hb hby d_merge4_25) (z := (1 : Int32)) rfl ?_
          refine G_iadd X0 hx (pc' := 27) rfl (hb hby d_merge4_26)  ?_
          rw [show ((3 : Int32) + (1 : Int32)) = (4 : Int32) from by decide]
          refine G_istoreN X0 hx (pc' := 28) rfl (hb hby d_merge4_27) (L' := #[.val (.ref v0), .val (.int (4 : Int32)), .val (.long ((((0 : Int64) + y0) + y1) + y2)), .second, .val (.int (3 : Int32))]) rfl ?_
          refine G_lloadN X0 hx (pc' := 29) rfl (hb hby d_merge4_28) rfl ?_
          refine G_aloadN X0 hx (pc' := 30) rfl (hb hby d_merge4_29) rfl rfl ?_
          refine G_iload X0 hx (pc' := 32) rfl (hb hby d_merge4_30) rfl ?_
          refine Go.st (ldAJ X0 hx hZ e0 f0_J_v0 (j := (3 : Int32)) (by decide) (show Int32.toNatClampNeg 3 < 4 from by decide) (g := (mkF m 32 #[.val (.ref v0), .val (.int (4 : Int32)), .val (.long ((((0 : Int64) + y0) + y1) + y2)), .second, .val (.int (3 : Int32))] [(.int (3 : Int32)), (.ref v0), (.long ((((0 : Int64) + y0) + y1) + y2))])) rfl rfl (hb hby d_merge4_32)) ?_
          show Go p e below s _ _ _ s₁ (mkF m 33 #[.val (.ref v0), .val (.int (4 : Int32)), .val (.long ((((0 : Int64) + y0) + y1) + y2)), .second, .val (.int (3 : Int32))] [(.long y3), (.long ((((0 : Int64) + y0) + y1) + y2))])
          refine G_ladd X0 hx (pc' := 34) rfl (hb hby d_merge4_33)  ?_
          refine G_lstoreN X0 hx (pc' := 35) rfl (hb hby d_merge4_34) (L' := #[.val (.ref v0), .val (.int (4 : Int32)), .val (.long (((((0 : Int64) + y0) + y1) + y2) + y3)), .second, .val (.int (3 : Int32))]) rfl ?_
          refine G_iinc X0 hx (pc' := 38) rfl (hb hby d_merge4_35) rfl (z := (4 : Int32)) rfl (L' := #[.val (.ref v0), .val (.int (4 : Int32)), .val (.long (((((0 : Int64) + y0) + y1) + y2) + y3)), .second, .val (.int (4 : Int32))]) rfl ?_
          refine G_goto X0 hx (pc' := 7) (hb hby d_merge4_38)  (by decide) (by decide) ?_
          refine G_iload X0 hx (pc' := 9) rfl (hb hby d_merge4_7) rfl ?_
          refine G_aloadN X0 hx (pc' := 10) rfl (hb hby d_merge4_9) rfl rfl ?_
          refine Go.st (lenAJ X0 hx hZ e0 f0_J_v0 (g := (mkF m 10 #[.val (.ref v0), .val (.int (4 : Int32)), .val (.long (((((0 : Int64) + y0) + y1) + y2) + y3)), .second, .val (.int (4 : Int32))] [(.ref v0), (.int (4 : Int32))])) rfl rfl (hb hby d_merge4_10)) ?_
          show Go p e below s _ _ _ s₁ (mkF m 11 #[.val (.ref v0), .val (.int (4 : Int32)), .val (.long (((((0 : Int64) + y0) + y1) + y2) + y3)), .second, .val (.int (4 : Int32))] [(.int (4 : Int32)), (.int (4 : Int32))])
          refine G_icmpYes X0 hx (pc' := 41) (hb hby d_merge4_11) (flt (by decide : ¬ ((4 : Int32) < (4 : Int32)))).2.1 (by decide) (by decide) ?_
          refine G_iloadN X0 hx (pc' := 42) rfl (hb hby d_merge4_41) rfl ?_
          refine Go.fin X0 hlk (v := some (.int (4 : Int32))) (fun h => by rw [Bd.returns] at h; cases h) (by decide) (by decide) ?_ (fun fs hr => retOut X0 hx Bd.returns rfl (Or.inl ⟨rfl, Or.inl rfl, _, rfl⟩) (hb hby d_merge4_42) hr)
          show Q_merge4 Z v0 y0 y1 y2 y3 h0 n0 _ s₁.heap _
          rw [e0]
          exact ⟨congrArg (fun z => some (Value.int z)) (by rw [f_merge4]; rw [if_pos hc20_1, if_neg hc20_2, if_neg hc20_6, if_neg hc20_8]), N0, rfl⟩
  · refine G_ifNo X0 hx (pc' := 23) rfl (hb hby d_merge4_20) ((if0 _ _).trans (flt (fun q => hc20_1 ((lw_gt _ _).1 q))).2.2.1) ?_
    refine G_iload X0 hx (pc' := 25) rfl (hb hby d_merge4_23) rfl ?_
    refine G_iconst X0 hx (pc' := 26) rfl (hb hby d_merge4_25) (z := (1 : Int32)) rfl ?_
    refine G_iadd X0 hx (pc' := 27) rfl (hb hby d_merge4_26)  ?_
    rw [show ((0 : Int32) + (1 : Int32)) = (1 : Int32) from by decide]
    refine G_istoreN X0 hx (pc' := 28) rfl (hb hby d_merge4_27) (L' := #[.val (.ref v0), .val (.int (1 : Int32)), .val (.long (0 : Int64)), .second, .val (.int (0 : Int32))]) rfl ?_
    refine G_lloadN X0 hx (pc' := 29) rfl (hb hby d_merge4_28) rfl ?_
    refine G_aloadN X0 hx (pc' := 30) rfl (hb hby d_merge4_29) rfl rfl ?_
    refine G_iload X0 hx (pc' := 32) rfl (hb hby d_merge4_30) rfl ?_
    refine Go.st (ldAJ X0 hx hZ e0 f0_J_v0 (j := (0 : Int32)) (by decide) (show Int32.toNatClampNeg 0 < 4 from by decide) (g := (mkF m 32 #[.val (.ref v0), .val (.int (1 : Int32)), .val (.long (0 : Int64)), .second, .val (.int (0 : Int32))] [(.int (0 : Int32)), (.ref v0), (.long (0 : Int64))])) rfl rfl (hb hby d_merge4_32)) ?_
    show Go p e below s _ _ _ s₁ (mkF m 33 #[.val (.ref v0), .val (.int (1 : Int32)), .val (.long (0 : Int64)), .second, .val (.int (0 : Int32))] [(.long y0), (.long (0 : Int64))])
    refine G_ladd X0 hx (pc' := 34) rfl (hb hby d_merge4_33)  ?_
    refine G_lstoreN X0 hx (pc' := 35) rfl (hb hby d_merge4_34) (L' := #[.val (.ref v0), .val (.int (1 : Int32)), .val (.long ((0 : Int64) + y0)), .second, .val (.int (0 : Int32))]) rfl ?_
    refine G_iinc X0 hx (pc' := 38) rfl (hb hby d_merge4_35) rfl (z := (1 : Int32)) rfl (L' := #[.val (.ref v0), .val (.int (1 : Int32)), .val (.long ((0 : Int64) + y0)), .second, .val (.int (1 : Int32))]) rfl ?_
    refine G_goto X0 hx (pc' := 7) (hb hby d_merge4_38)  (by decide) (by decide) ?_
    refine G_iload X0 hx (pc' := 9) rfl (hb hby d_merge4_7) rfl ?_
    refine G_aloadN X0 hx (pc' := 10) rfl (hb hby d_merge4_9) rfl rfl ?_
    refine Go.st (lenAJ X0 hx hZ e0 f0_J_v0 (g := (mkF m 10 #[.val (.ref v0), .val (.int (1 : Int32)), .val (.long ((0 : Int64) + y0)), .second, .val (.int (1 : Int32))] [(.ref v0), (.int (1 : Int32))])) rfl rfl (hb hby d_merge4_10)) ?_
    show Go p e below s _ _ _ s₁ (mkF m 11 #[.val (.ref v0), .val (.int (1 : Int32)), .val (.long ((0 : Int64) + y0)), .second, .val (.int (1 : Int32))] [(.int (4 : Int32)), (.int (1 : Int32))])
    refine G_icmpNo X0 hx (pc' := 14) rfl (hb hby d_merge4_11) (tlt (by decide : (1 : Int32) < (4 : Int32))).2.1 ?_
    refine G_aloadN X0 hx (pc' := 15) rfl (hb hby d_merge4_14) rfl rfl ?_
    refine G_iload X0 hx (pc' := 17) rfl (hb hby d_merge4_15) rfl ?_
    refine Go.st (ldAJ X0 hx hZ e0 f0_J_v0 (j := (1 : Int32)) (by decide) (show Int32.toNatClampNeg 1 < 4 from by decide) (g := (mkF m 17 #[.val (.ref v0), .val (.int (1 : Int32)), .val (.long ((0 : Int64) + y0)), .second, .val (.int (1 : Int32))] [(.int (1 : Int32)), (.ref v0)])) rfl rfl (hb hby d_merge4_17)) ?_
    show Go p e below s _ _ _ s₁ (mkF m 18 #[.val (.ref v0), .val (.int (1 : Int32)), .val (.long ((0 : Int64) + y0)), .second, .val (.int (1 : Int32))] [(.long y1)])
    refine G_lloadN X0 hx (pc' := 19) rfl (hb hby d_merge4_18) rfl ?_
    refine G_lcmp X0 hx (pc' := 20) rfl (hb hby d_merge4_19)  ?_
    by_cases hc20_9 : ((0 : Int64) + y0) < y1
    · refine G_ifYes X0 hx (pc' := 28) (hb hby d_merge4_20) ((if0 _ _).trans (tlt ((lw_gt _ _).2 hc20_9)).2.2.1) (by decide) (by decide) ?_
      refine G_lloadN X0 hx (pc' := 29) rfl (hb hby d_merge4_28) rfl ?_
      refine G_aloadN X0 hx (pc' := 30) rfl (hb hby d_merge4_29) rfl rfl ?_
      refine G_iload X0 hx (pc' := 32) rfl (hb hby d_merge4_30) rfl ?_
      refine Go.st (ldAJ X0 hx hZ e0 f0_J_v0 (j := (1 : Int32)) (by decide) (show Int32.toNatClampNeg 1 < 4 from by decide) (g := (mkF m 32 #[.val (.ref v0), .val (.int (1 : Int32)), .val (.long ((0 : Int64) + y0)), .second, .val (.int (1 : Int32))] [(.int (1 : Int32)), (.ref v0), (.long ((0 : Int64) + y0))])) rfl rfl (hb hby d_merge4_32)) ?_
      show Go p e below s _ _ _ s₁ (mkF m 33 #[.val (.ref v0), .val (.int (1 : Int32)), .val (.long ((0 : Int64) + y0)), .second, .val (.int (1 : Int32))] [(.long y1), (.long ((0 : Int64) + y0))])
      refine G_ladd X0 hx (pc' := 34) rfl (hb hby d_merge4_33)  ?_
      refine G_lstoreN X0 hx (pc' := 35) rfl (hb hby d_merge4_34) (L' := #[.val (.ref v0), .val (.int (1 : Int32)), .val (.long (((0 : Int64) + y0) + y1)), .second, .val (.int (1 : Int32))]) rfl ?_
      refine G_iinc X0 hx (pc' := 38) rfl (hb hby d_merge4_35) rfl (z := (2 : Int32)) rfl (L' := #[.val (.ref v0), .val (.int (1 : Int32)), .val (.long (((0 : Int64) + y0) + y1)), .second, .val (.int (2 : Int32))]) rfl ?_
      refine G_goto X0 hx (pc' := 7) (hb hby d_merge4_38)  (by decide) (by decide) ?_
      refine G_iload X0 hx (pc' := 9) rfl (hb hby d_merge4_7) rfl ?_
      refine G_aloadN X0 hx (pc' := 10) rfl (hb hby d_merge4_9) rfl rfl ?_
      refine Go.st (lenAJ X0 hx hZ e0 f0_J_v0 (g := (mkF m 10 #[.val (.ref v0), .val (.int (1 : Int32)), .val (.long (((0 : Int64) + y0) + y1)), .second, .val (.int (2 : Int32))] [(.ref v0), (.int (2 : Int32))])) rfl rfl (hb hby d_merge4_10)) ?_
      show Go p e below s _ _ _ s₁ (mkF m 11 #[.val (.ref v0), .val (.int (1 : Int32)), .val (.long (((0 : Int64) + y0) + y1)), .second, .val (.int (2 : Int32))] [(.int (4 : Int32)), (.int (2 : Int32))])
      refine G_icmpNo X0 hx (pc' := 14) rfl (hb hby d_merge4_11) (tlt (by decide : (2 : Int32) < (4 : Int32))).2.1 ?_
      refine G_aloadN X0 hx (pc' := 15) rfl (hb hby d_merge4_14) rfl rfl ?_
      refine G_iload X0 hx (pc' := 17) rfl (hb hby d_merge4_15) rfl ?_
      refine Go.st (ldAJ X0 hx hZ e0 f0_J_v0 (j := (2 : Int32)) (by decide) (show Int32.toNatClampNeg 2 < 4 from by decide) (g := (mkF m 17 #[.val (.ref v0), .val (.int (1 : Int32)), .val (.long (((0 : Int64) + y0) + y1)), .second, .val (.int (2 : Int32))] [(.int (2 : Int32)), (.ref v0)])) rfl rfl (hb hby d_merge4_17)) ?_
      show Go p e below s _ _ _ s₁ (mkF m 18 #[.val (.ref v0), .val (.int (1 : Int32)), .val (.long (((0 : Int64) + y0) + y1)), .second, .val (.int (2 : Int32))] [(.long y2)])
      refine G_lloadN X0 hx (pc' := 19) rfl (hb hby d_merge4_18) rfl ?_
      refine G_lcmp X0 hx (pc' := 20) rfl (hb hby d_merge4_19)  ?_
      by_cases hc20_10 : (((0 : Int64) + y0) + y1) < y2
      · refine G_ifYes X0 hx (pc' := 28) (hb hby d_merge4_20) ((if0 _ _).trans (tlt ((lw_gt _ _).2 hc20_10)).2.2.1) (by decide) (by decide) ?_
        refine G_lloadN X0 hx (pc' := 29) rfl (hb hby d_merge4_28) rfl ?_
        refine G_aloadN X0 hx (pc' := 30) rfl (hb hby d_merge4_29) rfl rfl ?_
        refine G_iload X0 hx (pc' := 32) rfl (hb hby d_merge4_30) rfl ?_
        refine Go.st (ldAJ X0 hx hZ e0 f0_J_v0 (j := (2 : Int32)) (by decide) (show Int32.toNatClampNeg 2 < 4 from by decide) (g := (mkF m 32 #[.val (.ref v0), .val (.int (1 : Int32)), .val (.long (((0 : Int64) + y0) + y1)), .second, .val (.int (2 : Int32))] [(.int (2 : Int32)), (.ref v0), (.long (((0 : Int64) + y0) + y1))])) rfl rfl (hb hby d_merge4_32)) ?_
        show Go p e below s _ _ _ s₁ (mkF m 33 #[.val (.ref v0), .val (.int (1 : Int32)), .val (.long (((0 : Int64) + y0) + y1)), .second, .val (.int (2 : Int32))] [(.long y2), (.long (((0 : Int64) + y0) + y1))])
        refine G_ladd X0 hx (pc' := 34) rfl (hb hby d_merge4_33)  ?_
        refine G_lstoreN X0 hx (pc' := 35) rfl (hb hby d_merge4_34) (L' := #[.val (.ref v0), .val (.int (1 : Int32)), .val (.long ((((0 : Int64) + y0) + y1) + y2)), .second, .val (.int (2 : Int32))]) rfl ?_
        refine G_iinc X0 hx (pc' := 38) rfl (hb hby d_merge4_35) rfl (z := (3 : Int32)) rfl (L' := #[.val (.ref v0), .val (.int (1 : Int32)), .val (.long ((((0 : Int64) + y0) + y1) + y2)), .second, .val (.int (3 : Int32))]) rfl ?_
        refine G_goto X0 hx (pc' := 7) (hb hby d_merge4_38)  (by decide) (by decide) ?_
        refine G_iload X0 hx (pc' := 9) rfl (hb hby d_merge4_7) rfl ?_
        refine G_aloadN X0 hx (pc' := 10) rfl (hb hby d_merge4_9) rfl rfl ?_
        refine Go.st (lenAJ X0 hx hZ e0 f0_J_v0 (g := (mkF m 10 #[.val (.ref v0), .val (.int (1 : Int32)), .val (.long ((((0 : Int64) + y0) + y1) + y2)), .second, .val (.int (3 : Int32))] [(.ref v0), (.int (3 : Int32))])) rfl rfl (hb hby d_merge4_10)) ?_
        show Go p e below s _ _ _ s₁ (mkF m 11 #[.val (.ref v0), .val (.int (1 : Int32)), .val (.long ((((0 : Int64) + y0) + y1) + y2)), .second, .val (.int (3 : Int32))] [(.int (4 : Int32)), (.int (3 : Int32))])
        refine G_icmpNo X0 hx (pc' := 14) rfl (hb hby d_merge4_11) (tlt (by decide : (3 : Int32) < (4 : Int32))).2.1 ?_
        refine G_aloadN X0 hx (pc' := 15) rfl (hb hby d_merge4_14) rfl rfl ?_
        refine G_iload X0 hx (pc' := 17) rfl (hb hby d_merge4_15) rfl ?_
        refine Go.st (ldAJ X0 hx hZ e0 f0_J_v0 (j := (3 : Int32)) (by decide) (show Int32.toNatClampNeg 3 < 4 from by decide) (g := (mkF m 17 #[.val (.ref v0), .val (.int (1 : Int32)), .val (.long ((((0 : Int64) + y0) + y1) + y2)), .second, .val (.int (3 : Int32))] [(.int (3 : Int32)), (.ref v0)])) rfl rfl (hb hby d_merge4_17)) ?_
        show Go p e below s _ _ _ s₁ (mkF m 18 #[.val (.ref v0), .val (.int (1 : Int32)), .val (.long ((((0 : Int64) + y0) + y1) + y2)), .second, .val (.int (3 : Int32))] [(.long y3)])
        refine G_lloadN X0 hx (pc' := 19) rfl (hb hby d_merge4_18) rfl ?_
        refine G_lcmp X0 hx (pc' := 20) rfl (hb hby d_merge4_19)  ?_
        by_cases hc20_11 : ((((0 : Int64) + y0) + y1) + y2) < y3
        · refine G_ifYes X0 hx (pc' := 28) (hb hby d_merge4_20) ((if0 _ _).trans (tlt ((lw_gt _ _).2 hc20_11)).2.2.1) (by decide) (by decide) ?_
          refine G_lloadN X0 hx (pc' := 29) rfl (hb hby d_merge4_28) rfl ?_
          refine G_aloadN X0 hx (pc' := 30) rfl (hb hby d_merge4_29) rfl rfl ?_
          refine G_iload X0 hx (pc' := 32) rfl (hb hby d_merge4_30) rfl ?_
          refine Go.st (ldAJ X0 hx hZ e0 f0_J_v0 (j := (3 : Int32)) (by decide) (show Int32.toNatClampNeg 3 < 4 from by decide) (g := (mkF m 32 #[.val (.ref v0), .val (.int (1 : Int32)), .val (.long ((((0 : Int64) + y0) + y1) + y2)), .second, .val (.int (3 : Int32))] [(.int (3 : Int32)), (.ref v0), (.long ((((0 : Int64) + y0) + y1) + y2))])) rfl rfl (hb hby d_merge4_32)) ?_
          show Go p e below s _ _ _ s₁ (mkF m 33 #[.val (.ref v0), .val (.int (1 : Int32)), .val (.long ((((0 : Int64) + y0) + y1) + y2)), .second, .val (.int (3 : Int32))] [(.long y3), (.long ((((0 : Int64) + y0) + y1) + y2))])
          refine G_ladd X0 hx (pc' := 34) rfl (hb hby d_merge4_33)  ?_
          refine G_lstoreN X0 hx (pc' := 35) rfl (hb hby d_merge4_34) (L' := #[.val (.ref v0), .val (.int (1 : Int32)), .val (.long (((((0 : Int64) + y0) + y1) + y2) + y3)), .second, .val (.int (3 : Int32))]) rfl ?_
          refine G_iinc X0 hx (pc' := 38) rfl (hb hby d_merge4_35) rfl (z := (4 : Int32)) rfl (L' := #[.val (.ref v0), .val (.int (1 : Int32)), .val (.long (((((0 : Int64) + y0) + y1) + y2) + y3)), .second, .val (.int (4 : Int32))]) rfl ?_
          refine G_goto X0 hx (pc' := 7) (hb hby d_merge4_38)  (by decide) (by decide) ?_
          refine G_iload X0 hx (pc' := 9) rfl (hb hby d_merge4_7) rfl ?_
          refine G_aloadN X0 hx (pc' := 10) rfl (hb hby d_merge4_9) rfl rfl ?_
          refine Go.st (lenAJ X0 hx hZ e0 f0_J_v0 (g := (mkF m 10 #[.val (.ref v0), .val (.int (1 : Int32)), .val (.long (((((0 : Int64) + y0) + y1) + y2) + y3)), .second, .val (.int (4 : Int32))] [(.ref v0), (.int (4 : Int32))])) rfl rfl (hb hby d_merge4_10)) ?_
          show Go p e below s _ _ _ s₁ (mkF m 11 #[.val (.ref v0), .val (.int (1 : Int32)), .val (.long (((((0 : Int64) + y0) + y1) + y2) + y3)), .second, .val (.int (4 : Int32))] [(.int (4 : Int32)), (.int (4 : Int32))])
          refine G_icmpYes X0 hx (pc' := 41) (hb hby d_merge4_11) (flt (by decide : ¬ ((4 : Int32) < (4 : Int32)))).2.1 (by decide) (by decide) ?_
          refine G_iloadN X0 hx (pc' := 42) rfl (hb hby d_merge4_41) rfl ?_
          refine Go.fin X0 hlk (v := some (.int (1 : Int32))) (fun h => by rw [Bd.returns] at h; cases h) (by decide) (by decide) ?_ (fun fs hr => retOut X0 hx Bd.returns rfl (Or.inl ⟨rfl, Or.inl rfl, _, rfl⟩) (hb hby d_merge4_42) hr)
          show Q_merge4 Z v0 y0 y1 y2 y3 h0 n0 _ s₁.heap _
          rw [e0]
          exact ⟨congrArg (fun z => some (Value.int z)) (by rw [f_merge4]; rw [if_neg hc20_1, if_pos hc20_9, if_pos hc20_10, if_pos hc20_11]), N0, rfl⟩
        · refine G_ifNo X0 hx (pc' := 23) rfl (hb hby d_merge4_20) ((if0 _ _).trans (flt (fun q => hc20_11 ((lw_gt _ _).1 q))).2.2.1) ?_
          refine G_iload X0 hx (pc' := 25) rfl (hb hby d_merge4_23) rfl ?_
          refine G_iconst X0 hx (pc' := 26) rfl (hb hby d_merge4_25) (z := (1 : Int32)) rfl ?_
          refine G_iadd X0 hx (pc' := 27) rfl (hb hby d_merge4_26)  ?_
          rw [show ((3 : Int32) + (1 : Int32)) = (4 : Int32) from by decide]
          refine G_istoreN X0 hx (pc' := 28) rfl (hb hby d_merge4_27) (L' := #[.val (.ref v0), .val (.int (4 : Int32)), .val (.long ((((0 : Int64) + y0) + y1) + y2)), .second, .val (.int (3 : Int32))]) rfl ?_
          refine G_lloadN X0 hx (pc' := 29) rfl (hb hby d_merge4_28) rfl ?_
          refine G_aloadN X0 hx (pc' := 30) rfl (hb hby d_merge4_29) rfl rfl ?_
          refine G_iload X0 hx (pc' := 32) rfl (hb hby d_merge4_30) rfl ?_
          refine Go.st (ldAJ X0 hx hZ e0 f0_J_v0 (j := (3 : Int32)) (by decide) (show Int32.toNatClampNeg 3 < 4 from by decide) (g := (mkF m 32 #[.val (.ref v0), .val (.int (4 : Int32)), .val (.long ((((0 : Int64) + y0) + y1) + y2)), .second, .val (.int (3 : Int32))] [(.int (3 : Int32)), (.ref v0), (.long ((((0 : Int64) + y0) + y1) + y2))])) rfl rfl (hb hby d_merge4_32)) ?_
          show Go p e below s _ _ _ s₁ (mkF m 33 #[.val (.ref v0), .val (.int (4 : Int32)), .val (.long ((((0 : Int64) + y0) + y1) + y2)), .second, .val (.int (3 : Int32))] [(.long y3), (.long ((((0 : Int64) + y0) + y1) + y2))])
          refine G_ladd X0 hx (pc' := 34) rfl (hb hby d_merge4_33)  ?_
          refine G_lstoreN X0 hx (pc' := 35) rfl (hb hby d_merge4_34) (L' := #[.val (.ref v0), .val (.int (4 : Int32)), .val (.long (((((0 : Int64) + y0) + y1) + y2) + y3)), .second, .val (.int (3 : Int32))]) rfl ?_
          refine G_iinc X0 hx (pc' := 38) rfl (hb hby d_merge4_35) rfl (z := (4 : Int32)) rfl (L' := #[.val (.ref v0), .val (.int (4 : Int32)), .val (.long (((((0 : Int64) + y0) + y1) + y2) + y3)), .second, .val (.int (4 : Int32))]) rfl ?_
          refine G_goto X0 hx (pc' := 7) (hb hby d_merge4_38)  (by decide) (by decide) ?_
          refine G_iload X0 hx (pc' := 9) rfl (hb hby d_merge4_7) rfl ?_
          refine G_aloadN X0 hx (pc' := 10) rfl (hb hby d_merge4_9) rfl rfl ?_
          refine Go.st (lenAJ X0 hx hZ e0 f0_J_v0 (g := (mkF m 10 #[.val (.ref v0), .val (.int (4 : Int32)), .val (.long (((((0 : Int64) + y0) + y1) + y2) + y3)), .second, .val (.int (4 : Int32))] [(.ref v0), (.int (4 : Int32))])) rfl rfl (hb hby d_merge4_10)) ?_
          show Go p e below s _ _ _ s₁ (mkF m 11 #[.val (.ref v0), .val (.int (4 : Int32)), .val (.long (((((0 : Int64) + y0) + y1) + y2) + y3)), .second, .val (.int (4 : Int32))] [(.int (4 : Int32)), (.int (4 : Int32))])
          refine G_icmpYes X0 hx (pc' := 41) (hb hby d_merge4_11) (flt (by decide : ¬ ((4 : Int32) < (4 : Int32)))).2.1 (by decide) (by decide) ?_
          refine G_iloadN X0 hx (pc' := 42) rfl (hb hby d_merge4_41) rfl ?_
          refine Go.fin X0 hlk (v := some (.int (4 : Int32))) (fun h => by rw [Bd.returns] at h; cases h) (by decide) (by decide) ?_ (fun fs hr => retOut X0 hx Bd.returns rfl (Or.inl ⟨rfl, Or.inl rfl, _, rfl⟩) (hb hby d_merge4_42) hr)
          show Q_merge4 Z v0 y0 y1 y2 y3 h0 n0 _ s₁.heap _
          rw [e0]
          exact ⟨congrArg (fun z => some (Value.int z)) (by rw [f_merge4]; rw [if_neg hc20_1, if_pos hc20_9, if_pos hc20_10, if_neg hc20_11]), N0, rfl⟩
      · refine G_ifNo X0 hx (pc' := 23) rfl (hb hby d_merge4_20) ((if0 _ _).trans (flt (fun q => hc20_10 ((lw_gt _ _).1 q))).2.2.1) ?_
        refine G_iload X0 hx (pc' := 25) rfl (hb hby d_merge4_23) rfl ?_
        refine G_iconst X0 hx (pc' := 26) rfl (hb hby d_merge4_25) (z := (1 : Int32)) rfl ?_
        refine G_iadd X0 hx (pc' := 27) rfl (hb hby d_merge4_26)  ?_
        rw [show ((2 : Int32) + (1 : Int32)) = (3 : Int32) from by decide]
        refine G_istoreN X0 hx (pc' := 28) rfl (hb hby d_merge4_27) (L' := #[.val (.ref v0), .val (.int (3 : Int32)), .val (.long (((0 : Int64) + y0) + y1)), .second, .val (.int (2 : Int32))]) rfl ?_
        refine G_lloadN X0 hx (pc' := 29) rfl (hb hby d_merge4_28) rfl ?_
        refine G_aloadN X0 hx (pc' := 30) rfl (hb hby d_merge4_29) rfl rfl ?_
        refine G_iload X0 hx (pc' := 32) rfl (hb hby d_merge4_30) rfl ?_
        refine Go.st (ldAJ X0 hx hZ e0 f0_J_v0 (j := (2 : Int32)) (by decide) (show Int32.toNatClampNeg 2 < 4 from by decide) (g := (mkF m 32 #[.val (.ref v0), .val (.int (3 : Int32)), .val (.long (((0 : Int64) + y0) + y1)), .second, .val (.int (2 : Int32))] [(.int (2 : Int32)), (.ref v0), (.long (((0 : Int64) + y0) + y1))])) rfl rfl (hb hby d_merge4_32)) ?_
        show Go p e below s _ _ _ s₁ (mkF m 33 #[.val (.ref v0), .val (.int (3 : Int32)), .val (.long (((0 : Int64) + y0) + y1)), .second, .val (.int (2 : Int32))] [(.long y2), (.long (((0 : Int64) + y0) + y1))])
        refine G_ladd X0 hx (pc' := 34) rfl (hb hby d_merge4_33)  ?_
        refine G_lstoreN X0 hx (pc' := 35) rfl (hb hby d_merge4_34) (L' := #[.val (.ref v0), .val (.int (3 : Int32)), .val (.long ((((0 : Int64) + y0) + y1) + y2)), .second, .val (.int (2 : Int32))]) rfl ?_
        refine G_iinc X0 hx (pc' := 38) rfl (hb hby d_merge4_35) rfl (z := (3 : Int32)) rfl (L' := #[.val (.ref v0), .val (.int (3 : Int32)), .val (.long ((((0 : Int64) + y0) + y1) + y2)), .second, .val (.int (3 : Int32))]) rfl ?_
        refine G_goto X0 hx (pc' := 7) (hb hby d_merge4_38)  (by decide) (by decide) ?_
        refine G_iload X0 hx (pc' := 9) rfl (hb hby d_merge4_7) rfl ?_
        refine G_aloadN X0 hx (pc' := 10) rfl (hb hby d_merge4_9) rfl rfl ?_
        refine Go.st (lenAJ X0 hx hZ e0 f0_J_v0 (g := (mkF m 10 #[.val (.ref v0), .val (.int (3 : Int32)), .val (.long ((((0 : Int64) + y0) + y1) + y2)), .second, .val (.int (3 : Int32))] [(.ref v0), (.int (3 : Int32))])) rfl rfl (hb hby d_merge4_10)) ?_
        show Go p e below s _ _ _ s₁ (mkF m 11 #[.val (.ref v0), .val (.int (3 : Int32)), .val (.long ((((0 : Int64) + y0) + y1) + y2)), .second, .val (.int (3 : Int32))] [(.int (4 : Int32)), (.int (3 : Int32))])
        refine G_icmpNo X0 hx (pc' := 14) rfl (hb hby d_merge4_11) (tlt (by decide : (3 : Int32) < (4 : Int32))).2.1 ?_
        refine G_aloadN X0 hx (pc' := 15) rfl (hb hby d_merge4_14) rfl rfl ?_
        refine G_iload X0 hx (pc' := 17) rfl (hb hby d_merge4_15) rfl ?_
        refine Go.st (ldAJ X0 hx hZ e0 f0_J_v0 (j := (3 : Int32)) (by decide) (show Int32.toNatClampNeg 3 < 4 from by decide) (g := (mkF m 17 #[.val (.ref v0), .val (.int (3 : Int32)), .val (.long ((((0 : Int64) + y0) + y1) + y2)), .second, .val (.int (3 : Int32))] [(.int (3 : Int32)), (.ref v0)])) rfl rfl (hb hby d_merge4_17)) ?_
        show Go p e below s _ _ _ s₁ (mkF m 18 #[.val (.ref v0), .val (.int (3 : Int32)), .val (.long ((((0 : Int64) + y0) + y1) + y2)), .second, .val (.int (3 : Int32))] [(.long y3)])
        refine G_lloadN X0 hx (pc' := 19) rfl (hb hby d_merge4_18) rfl ?_
        refine G_lcmp X0 hx (pc' := 20) rfl (hb hby d_merge4_19)  ?_
        by_cases hc20_12 : ((((0 : Int64) + y0) + y1) + y2) < y3
        · refine G_ifYes X0 hx (pc' := 28) (hb hby d_merge4_20) ((if0 _ _).trans (tlt ((lw_gt _ _).2 hc20_12)).2.2.1) (by decide) (by decide) ?_
          refine G_lloadN X0 hx (pc' := 29) rfl (hb hby d_merge4_28) rfl ?_
          refine G_aloadN X0 hx (pc' := 30) rfl (hb hby d_merge4_29) rfl rfl ?_
          refine G_iload X0 hx (pc' := 32) rfl (hb hby d_merge4_30) rfl ?_
          refine Go.st (ldAJ X0 hx hZ e0 f0_J_v0 (j := (3 : Int32)) (by decide) (show Int32.toNatClampNeg 3 < 4 from by decide) (g := (mkF m 32 #[.val (.ref v0), .val (.int (3 : Int32)), .val (.long ((((0 : Int64) + y0) + y1) + y2)), .second, .val (.int (3 : Int32))] [(.int (3 : Int32)), (.ref v0), (.long ((((0 : Int64) + y0) + y1) + y2))])) rfl rfl (hb hby d_merge4_32)) ?_
          show Go p e below s _ _ _ s₁ (mkF m 33 #[.val (.ref v0), .val (.int (3 : Int32)), .val (.long ((((0 : Int64) + y0) + y1) + y2)), .second, .val (.int (3 : Int32))] [(.long y3), (.long ((((0 : Int64) + y0) + y1) + y2))])
          refine G_ladd X0 hx (pc' := 34) rfl (hb hby d_merge4_33)  ?_
          refine G_lstoreN X0 hx (pc' := 35) rfl (hb hby d_merge4_34) (L' := #[.val (.ref v0), .val (.int (3 : Int32)), .val (.long (((((0 : Int64) + y0) + y1) + y2) + y3)), .second, .val (.int (3 : Int32))]) rfl ?_
          refine G_iinc X0 hx (pc' := 38) rfl (hb hby d_merge4_35) rfl (z := (4 : Int32)) rfl (L' := #[.val (.ref v0), .val (.int (3 : Int32)), .val (.long (((((0 : Int64) + y0) + y1) + y2) + y3)), .second, .val (.int (4 : Int32))]) rfl ?_
          refine G_goto X0 hx (pc' := 7) (hb hby d_merge4_38)  (by decide) (by decide) ?_
          refine G_iload X0 hx (pc' := 9) rfl (hb hby d_merge4_7) rfl ?_
          refine G_aloadN X0 hx (pc' := 10) rfl (hb hby d_merge4_9) rfl rfl ?_
          refine Go.st (lenAJ X0 hx hZ e0 f0_J_v0 (g := (mkF m 10 #[.val (.ref v0), .val (.int (3 : Int32)), .val (.long (((((0 : Int64) + y0) + y1) + y2) + y3)), .second, .val (.int (4 : Int32))] [(.ref v0), (.int (4 : Int32))])) rfl rfl (hb hby d_merge4_10)) ?_
          show Go p e below s _ _ _ s₁ (mkF m 11 #[.val (.ref v0), .val (.int (3 : Int32)), .val (.long (((((0 : Int64) + y0) + y1) + y2) + y3)), .second, .val (.int (4 : Int32))] [(.int (4 : Int32)), (.int (4 : Int32))])
          refine G_icmpYes X0 hx (pc' := 41) (hb hby d_merge4_11) (flt (by decide : ¬ ((4 : Int32) < (4 : Int32)))).2.1 (by decide) (by decide) ?_
          refine G_iloadN X0 hx (pc' := 42) rfl (hb hby d_merge4_41) rfl ?_
          refine Go.fin X0 hlk (v := some (.int (3 : Int32))) (fun h => by rw [Bd.returns] at h; cases h) (by decide) (by decide) ?_ (fun fs hr => retOut X0 hx Bd.returns rfl (Or.inl ⟨rfl, Or.inl rfl, _, rfl⟩) (hb hby d_merge4_42) hr)
          show Q_merge4 Z v0 y0 y1 y2 y3 h0 n0 _ s₁.heap _
          rw [e0]
          exact ⟨congrArg (fun z => some (Value.int z)) (by rw [f_merge4]; rw [if_neg hc20_1, if_pos hc20_9, if_neg hc20_10, if_pos hc20_12]), N0, rfl⟩
        · refine G_ifNo X0 hx (pc' := 23) rfl (hb hby d_merge4_20) ((if0 _ _).trans (flt (fun q => hc20_12 ((lw_gt _ _).1 q))).2.2.1) ?_
          refine G_iload X0 hx (pc' := 25) rfl (hb hby d_merge4_23) rfl ?_
          refine G_iconst X0 hx (pc' := 26) rfl (hb hby d_merge4_25) (z := (1 : Int32)) rfl ?_
          refine G_iadd X0 hx (pc' := 27) rfl (hb hby d_merge4_26)  ?_
          rw [show ((3 : Int32) + (1 : Int32)) = (4 : Int32) from by decide]
          refine G_istoreN X0 hx (pc' := 28) rfl (hb hby d_merge4_27) (L' := #[.val (.ref v0), .val (.int (4 : Int32)), .val (.long ((((0 : Int64) + y0) + y1) + y2)), .second, .val (.int (3 : Int32))]) rfl ?_
          refine G_lloadN X0 hx (pc' := 29) rfl (hb hby d_merge4_28) rfl ?_
          refine G_aloadN X0 hx (pc' := 30) rfl (hb hby d_merge4_29) rfl rfl ?_
          refine G_iload X0 hx (pc' := 32) rfl (hb hby d_merge4_30) rfl ?_
          refine Go.st (ldAJ X0 hx hZ e0 f0_J_v0 (j := (3 : Int32)) (by decide) (show Int32.toNatClampNeg 3 < 4 from by decide) (g := (mkF m 32 #[.val (.ref v0), .val (.int (4 : Int32)), .val (.long ((((0 : Int64) + y0) + y1) + y2)), .second, .val (.int (3 : Int32))] [(.int (3 : Int32)), (.ref v0), (.long ((((0 : Int64) + y0) + y1) + y2))])) rfl rfl (hb hby d_merge4_32)) ?_
          show Go p e below s _ _ _ s₁ (mkF m 33 #[.val (.ref v0), .val (.int (4 : Int32)), .val (.long ((((0 : Int64) + y0) + y1) + y2)), .second, .val (.int (3 : Int32))] [(.long y3), (.long ((((0 : Int64) + y0) + y1) + y2))])
          refine G_ladd X0 hx (pc' := 34) rfl (hb hby d_merge4_33)  ?_
          refine G_lstoreN X0 hx (pc' := 35) rfl (hb hby d_merge4_34) (L' := #[.val (.ref v0), .val (.int (4 : Int32)), .val (.long (((((0 : Int64) + y0) + y1) + y2) + y3)), .second, .val (.int (3 : Int32))]) rfl ?_
          refine G_iinc X0 hx (pc' := 38) rfl (hb hby d_merge4_35) rfl (z := (4 : Int32)) rfl (L' := #[.val (.ref v0), .val (.int (4 : Int32)), .val (.long (((((0 : Int64) + y0) + y1) + y2) + y3)), .second, .val (.int (4 : Int32))]) rfl ?_
          refine G_goto X0 hx (pc' := 7) (hb hby d_merge4_38)  (by decide) (by decide) ?_
          refine G_iload X0 hx (pc' := 9) rfl (hb hby d_merge4_7) rfl ?_
          refine G_aloadN X0 hx (pc' := 10) rfl (hb hby d_merge4_9) rfl rfl ?_
          refine Go.st (lenAJ X0 hx hZ e0 f0_J_v0 (g := (mkF m 10 #[.val (.ref v0), .val (.int (4 : Int32)), .val (.long (((((0 : Int64) + y0) + y1) + y2) + y3)), .second, .val (.int (4 : Int32))] [(.ref v0), (.int (4 : Int32))])) rfl rfl (hb hby d_merge4_10)) ?_
          show Go p e below s _ _ _ s₁ (mkF m 11 #[.val (.ref v0), .val (.int (4 : Int32)), .val (.long (((((0 : Int64) + y0) + y1) + y2) + y3)), .second, .val (.int (4 : Int32))] [(.int (4 : Int32)), (.int (4 : Int32))])
          refine G_icmpYes X0 hx (pc' := 41) (hb hby d_merge4_11) (flt (by decide : ¬ ((4 : Int32) < (4 : Int32)))).2.1 (by decide) (by decide) ?_
          refine G_iloadN X0 hx (pc' := 42) rfl (hb hby d_merge4_41) rfl ?_
          refine Go.fin X0 hlk (v := some (.int (4 : Int32))) (fun h => by rw [Bd.returns] at h; cases h) (by decide) (by decide) ?_ (fun fs hr => retOut X0 hx Bd.returns rfl (Or.inl ⟨rfl, Or.inl rfl, _, rfl⟩) (hb hby d_merge4_42) hr)
          show Q_merge4 Z v0 y0 y1 y2 y3 h0 n0 _ s₁.heap _
          rw [e0]
          exact ⟨congrArg (fun z => some (Value.int z)) (by rw [f_merge4]; rw [if_neg hc20_1, if_pos hc20_9, if_neg hc20_10, if_neg hc20_12]), N0, rfl⟩
    · refine G_ifNo X0 hx (pc' := 23) rfl (hb hby d_merge4_20) ((if0 _ _).trans (flt (fun q => hc20_9 ((lw_gt _ _).1 q))).2.2.1) ?_
      refine G_iload X0 hx (pc' := 25) rfl (hb hby d_merge4_23) rfl ?_
      refine G_iconst X0 hx (pc' := 26) rfl (hb hby d_merge4_25) (z := (1 : Int32)) rfl ?_
      refine G_iadd X0 hx (pc' := 27) rfl (hb hby d_merge4_26)  ?_
      rw [show ((1 : Int32) + (1 : Int32)) = (2 : Int32) from by decide]
      refine G_istoreN X0 hx (pc' := 28) rfl (hb hby d_merge4_27) (L' := #[.val (.ref v0), .val (.int (2 : Int32)), .val (.long ((0 : Int64) + y0)), .second, .val (.int (1 : Int32))]) rfl ?_
      refine G_lloadN X0 hx (pc' := 29) rfl (hb hby d_merge4_28) rfl ?_
      refine G_aloadN X0 hx (pc' := 30) rfl (hb hby d_merge4_29) rfl rfl ?_
      refine G_iload X0 hx (pc' := 32) rfl (hb hby d_merge4_30) rfl ?_
      refine Go.st (ldAJ X0 hx hZ e0 f0_J_v0 (j := (1 : Int32)) (by decide) (show Int32.toNatClampNeg 1 < 4 from by decide) (g := (mkF m 32 #[.val (.ref v0), .val (.int (2 : Int32)), .val (.long ((0 : Int64) + y0)), .second, .val (.int (1 : Int32))] [(.int (1 : Int32)), (.ref v0), (.long ((0 : Int64) + y0))])) rfl rfl (hb hby d_merge4_32)) ?_
      show Go p e below s _ _ _ s₁ (mkF m 33 #[.val (.ref v0), .val (.int (2 : Int32)), .val (.long ((0 : Int64) + y0)), .second, .val (.int (1 : Int32))] [(.long y1), (.long ((0 : Int64) + y0))])
      refine G_ladd X0 hx (pc' := 34) rfl (hb hby d_merge4_33)  ?_
      refine G_lstoreN X0 hx (pc' := 35) rfl (hb hby d_merge4_34) (L' := #[.val (.ref v0), .val (.int (2 : Int32)), .val (.long (((0 : Int64) + y0) + y1)), .second, .val (.int (1 : Int32))]) rfl ?_
      refine G_iinc X0 hx (pc' := 38) rfl (hb hby d_merge4_35) rfl (z := (2 : Int32)) rfl (L' := #[.val (.ref v0), .val (.int (2 : Int32)), .val (.long (((0 : Int64) + y0) + y1)), .second, .val (.int (2 : Int32))]) rfl ?_
      refine G_goto X0 hx (pc' := 7) (hb hby d_merge4_38)  (by decide) (by decide) ?_
      refine G_iload X0 hx (pc' := 9) rfl (hb hby d_merge4_7) rfl ?_
      refine G_aloadN X0 hx (pc' := 10) rfl (hb hby d_merge4_9) rfl rfl ?_
      refine Go.st (lenAJ X0 hx hZ e0 f0_J_v0 (g := (mkF m 10 #[.val (.ref v0), .val (.int (2 : Int32)), .val (.long (((0 : Int64) + y0) + y1)), .second, .val (.int (2 : Int32))] [(.ref v0), (.int (2 : Int32))])) rfl rfl (hb hby d_merge4_10)) ?_
      show Go p e below s _ _ _ s₁ (mkF m 11 #[.val (.ref v0), .val (.int (2 : Int32)), .val (.long (((0 : Int64) + y0) + y1)), .second, .val (.int (2 : Int32))] [(.int (4 : Int32)), (.int (2 : Int32))])
      refine G_icmpNo X0 hx (pc' := 14) rfl (hb hby d_merge4_11) (tlt (by decide : (2 : Int32) < (4 : Int32))).2.1 ?_
      refine G_aloadN X0 hx (pc' := 15) rfl (hb hby d_merge4_14) rfl rfl ?_
      refine G_iload X0 hx (pc' := 17) rfl (hb hby d_merge4_15) rfl ?_
      refine Go.st (ldAJ X0 hx hZ e0 f0_J_v0 (j := (2 : Int32)) (by decide) (show Int32.toNatClampNeg 2 < 4 from by decide) (g := (mkF m 17 #[.val (.ref v0), .val (.int (2 : Int32)), .val (.long (((0 : Int64) + y0) + y1)), .second, .val (.int (2 : Int32))] [(.int (2 : Int32)), (.ref v0)])) rfl rfl (hb hby d_merge4_17)) ?_
      show Go p e below s _ _ _ s₁ (mkF m 18 #[.val (.ref v0), .val (.int (2 : Int32)), .val (.long (((0 : Int64) + y0) + y1)), .second, .val (.int (2 : Int32))] [(.long y2)])
      refine G_lloadN X0 hx (pc' := 19) rfl (hb hby d_merge4_18) rfl ?_
      refine G_lcmp X0 hx (pc' := 20) rfl (hb hby d_merge4_19)  ?_
      by_cases hc20_13 : (((0 : Int64) + y0) + y1) < y2
      · refine G_ifYes X0 hx (pc' := 28) (hb hby d_merge4_20) ((if0 _ _).trans (tlt ((lw_gt _ _).2 hc20_13)).2.2.1) (by decide) (by decide) ?_
        refine G_lloadN X0 hx (pc' := 29) rfl (hb hby d_merge4_28) rfl ?_
        refine G_aloadN X0 hx (pc' := 30) rfl (hb hby d_merge4_29) rfl rfl ?_
        refine G_iload X0 hx (pc' := 32) rfl (hb hby d_merge4_30) rfl ?_
        refine Go.st (ldAJ X0 hx hZ e0 f0_J_v0 (j := (2 : Int32)) (by decide) (show Int32.toNatClampNeg 2 < 4 from by decide) (g := (mkF m 32 #[.val (.ref v0), .val (.int (2 : Int32)), .val (.long (((0 : Int64) + y0) + y1)), .second, .val (.int (2 : Int32))] [(.int (2 : Int32)), (.ref v0), (.long (((0 : Int64) + y0) + y1))])) rfl rfl (hb hby d_merge4_32)) ?_
        show Go p e below s _ _ _ s₁ (mkF m 33 #[.val (.ref v0), .val (.int (2 : Int32)), .val (.long (((0 : Int64) + y0) + y1)), .second, .val (.int (2 : Int32))] [(.long y2), (.long (((0 : Int64) + y0) + y1))])
        refine G_ladd X0 hx (pc' := 34) rfl (hb hby d_merge4_33)  ?_
        refine G_lstoreN X0 hx (pc' := 35) rfl (hb hby d_merge4_34) (L' := #[.val (.ref v0), .val (.int (2 : Int32)), .val (.long ((((0 : Int64) + y0) + y1) + y2)), .second, .val (.int (2 : Int32))]) rfl ?_
        refine G_iinc X0 hx (pc' := 38) rfl (hb hby d_merge4_35) rfl (z := (3 : Int32)) rfl (L' := #[.val (.ref v0), .val (.int (2 : Int32)), .val (.long ((((0 : Int64) + y0) + y1) + y2)), .second, .val (.int (3 : Int32))]) rfl ?_
        refine G_goto X0 hx (pc' := 7) (hb hby d_merge4_38)  (by decide) (by decide) ?_
        refine G_iload X0 hx (pc' := 9) rfl (hb hby d_merge4_7) rfl ?_
        refine G_aloadN X0 hx (pc' := 10) rfl (hb hby d_merge4_9) rfl rfl ?_
        refine Go.st (lenAJ X0 hx hZ e0 f0_J_v0 (g := (mkF m 10 #[.val (.ref v0), .val (.int (2 : Int32)), .val (.long ((((0 : Int64) + y0) + y1) + y2)), .second, .val (.int (3 : Int32))] [(.ref v0), (.int (3 : Int32))])) rfl rfl (hb hby d_merge4_10)) ?_
        show Go p e below s _ _ _ s₁ (mkF m 11 #[.val (.ref v0), .val (.int (2 : Int32)), .val (.long ((((0 : Int64) + y0) + y1) + y2)), .second, .val (.int (3 : Int32))] [(.int (4 : Int32)), (.int (3 : Int32))])
        refine G_icmpNo X0 hx (pc' := 14) rfl (hb hby d_merge4_11) (tlt (by decide : (3 : Int32) < (4 : Int32))).2.1 ?_
        refine G_aloadN X0 hx (pc' := 15) rfl (hb hby d_merge4_14) rfl rfl ?_
        refine G_iload X0 hx (pc' := 17) rfl (hb hby d_merge4_15) rfl ?_
        refine Go.st (ldAJ X0 hx hZ e0 f0_J_v0 (j := (3 : Int32)) (by decide) (show Int32.toNatClampNeg 3 < 4 from by decide) (g := (mkF m 17 #[.val (.ref v0), .val (.int (2 : Int32)), .val (.long ((((0 : Int64) + y0) + y1) + y2)), .second, .val (.int (3 : Int32))] [(.int (3 : Int32)), (.ref v0)])) rfl rfl (hb hby d_merge4_17)) ?_
        show Go p e below s _ _ _ s₁ (mkF m 18 #[.val (.ref v0), .val (.int (2 : Int32)), .val (.long ((((0 : Int64) + y0) + y1) + y2)), .second, .val (.int (3 : Int32))] [(.long y3)])
        refine G_lloadN X0 hx (pc' := 19) rfl (hb hby d_merge4_18) rfl ?_
        refine G_lcmp X0 hx (pc' := 20) rfl (hb hby d_merge4_19)  ?_
        by_cases hc20_14 : ((((0 : Int64) + y0) + y1) + y2) < y3
        · refine G_ifYes X0 hx (pc' := 28) (hb hby d_merge4_20) ((if0 _ _).trans (tlt ((lw_gt _ _).2 hc20_14)).2.2.1) (by decide) (by decide) ?_
          refine G_lloadN X0 hx (pc' := 29) rfl (hb hby d_merge4_28) rfl ?_
          refine G_aloadN X0 hx (pc' := 30) rfl (hb hby d_merge4_29) rfl rfl ?_
          refine G_iload X0 hx (pc' := 32) rfl (hb hby d_merge4_30) rfl ?_
          refine Go.st (ldAJ X0 hx hZ e0 f0_J_v0 (j := (3 : Int32)) (by decide) (show Int32.toNatClampNeg 3 < 4 from by decide) (g := (mkF m 32 #[.val (.ref v0), .val (.int (2 : Int32)), .val (.long ((((0 : Int64) + y0) + y1) + y2)), .second, .val (.int (3 : Int32))] [(.int (3 : Int32)), (.ref v0), (.long ((((0 : Int64) + y0) + y1) + y2))])) rfl rfl (hb hby d_merge4_32)) ?_
          show Go p e below s _ _ _ s₁ (mkF m 33 #[.val (.ref v0), .val (.int (2 : Int32)), .val (.long ((((0 : Int64) + y0) + y1) + y2)), .second, .val (.int (3 : Int32))] [(.long y3), (.long ((((0 : Int64) + y0) + y1) + y2))])
          refine G_ladd X0 hx (pc' := 34) rfl (hb hby d_merge4_33)  ?_
          refine G_lstoreN X0 hx (pc' := 35) rfl (hb hby d_merge4_34) (L' := #[.val (.ref v0), .val (.int (2 : Int32)), .val (.long (((((0 : Int64) + y0) + y1) + y2) + y3)), .second, .val (.int (3 : Int32))]) rfl ?_
          refine G_iinc X0 hx (pc' := 38) rfl (hb hby d_merge4_35) rfl (z := (4 : Int32)) rfl (L' := #[.val (.ref v0), .val (.int (2 : Int32)), .val (.long (((((0 : Int64) + y0) + y1) + y2) + y3)), .second, .val (.int (4 : Int32))]) rfl ?_
          refine G_goto X0 hx (pc' := 7) (hb hby d_merge4_38)  (by decide) (by decide) ?_
          refine G_iload X0 hx (pc' := 9) rfl (hb hby d_merge4_7) rfl ?_
          refine G_aloadN X0 hx (pc' := 10) rfl (hb hby d_merge4_9) rfl rfl ?_
          refine Go.st (lenAJ X0 hx hZ e0 f0_J_v0 (g := (mkF m 10 #[.val (.ref v0), .val (.int (2 : Int32)), .val (.long (((((0 : Int64) + y0) + y1) + y2) + y3)), .second, .val (.int (4 : Int32))] [(.ref v0), (.int (4 : Int32))])) rfl rfl (hb hby d_merge4_10)) ?_
          show Go p e below s _ _ _ s₁ (mkF m 11 #[.val (.ref v0), .val (.int (2 : Int32)), .val (.long (((((0 : Int64) + y0) + y1) + y2) + y3)), .second, .val (.int (4 : Int32))] [(.int (4 : Int32)), (.int (4 : Int32))])
          refine G_icmpYes X0 hx (pc' := 41) (hb hby d_merge4_11) (flt (by decide : ¬ ((4 : Int32) < (4 : Int32)))).2.1 (by decide) (by decide) ?_
          refine G_iloadN X0 hx (pc' := 42) rfl (hb hby d_merge4_41) rfl ?_
          refine Go.fin X0 hlk (v := some (.int (2 : Int32))) (fun h => by rw [Bd.returns] at h; cases h) (by decide) (by decide) ?_ (fun fs hr => retOut X0 hx Bd.returns rfl (Or.inl ⟨rfl, Or.inl rfl, _, rfl⟩) (hb hby d_merge4_42) hr)
          show Q_merge4 Z v0 y0 y1 y2 y3 h0 n0 _ s₁.heap _
          rw [e0]
          exact ⟨congrArg (fun z => some (Value.int z)) (by rw [f_merge4]; rw [if_neg hc20_1, if_neg hc20_9, if_pos hc20_13, if_pos hc20_14]), N0, rfl⟩
        · refine G_ifNo X0 hx (pc' := 23) rfl (hb hby d_merge4_20) ((if0 _ _).trans (flt (fun q => hc20_14 ((lw_gt _ _).1 q))).2.2.1) ?_
          refine G_iload X0 hx (pc' := 25) rfl (hb hby d_merge4_23) rfl ?_
          refine G_iconst X0 hx (pc' := 26) rfl (hb hby d_merge4_25) (z := (1 : Int32)) rfl ?_
          refine G_iadd X0 hx (pc' := 27) rfl (hb hby d_merge4_26)  ?_
          rw [show ((3 : Int32) + (1 : Int32)) = (4 : Int32) from by decide]
          refine G_istoreN X0 hx (pc' := 28) rfl (hb hby d_merge4_27) (L' := #[.val (.ref v0), .val (.int (4 : Int32)), .val (.long ((((0 : Int64) + y0) + y1) + y2)), .second, .val (.int (3 : Int32))]) rfl ?_
          refine G_lloadN X0 hx (pc' := 29) rfl (hb hby d_merge4_28) rfl ?_
          refine G_aloadN X0 hx (pc' := 30) rfl (hb hby d_merge4_29) rfl rfl ?_
          refine G_iload X0 hx (pc' := 32) rfl (hb hby d_merge4_30) rfl ?_
          refine Go.st (ldAJ X0 hx hZ e0 f0_J_v0 (j := (3 : Int32)) (by decide) (show Int32.toNatClampNeg 3 < 4 from by decide) (g := (mkF m 32 #[.val (.ref v0), .val (.int (4 : Int32)), .val (.long ((((0 : Int64) + y0) + y1) + y2)), .second, .val (.int (3 : Int32))] [(.int (3 : Int32)), (.ref v0), (.long ((((0 : Int64) + y0) + y1) + y2))])) rfl rfl (hb hby d_merge4_32)) ?_
          show Go p e below s _ _ _ s₁ (mkF m 33 #[.val (.ref v0), .val (.int (4 : Int32)), .val (.long ((((0 : Int64) + y0) + y1) + y2)), .second, .val (.int (3 : Int32))] [(.long y3), (.long ((((0 : Int64) + y0) + y1) + y2))])
          refine G_ladd X0 hx (pc' := 34) rfl (hb hby d_merge4_33)  ?_
          refine G_lstoreN X0 hx (pc' := 35) rfl (hb hby d_merge4_34) (L' := #[.val (.ref v0), .val (.int (4 : Int32)), .val (.long (((((0 : Int64) + y0) + y1) + y2) + y3)), .second, .val (.int (3 : Int32))]) rfl ?_
          refine G_iinc X0 hx (pc' := 38) rfl (hb hby d_merge4_35) rfl (z := (4 : Int32)) rfl (L' := #[.val (.ref v0), .val (.int (4 : Int32)), .val (.long (((((0 : Int64) + y0) + y1) + y2) + y3)), .second, .val (.int (4 : Int32))]) rfl ?_
          refine G_goto X0 hx (pc' := 7) (hb hby d_merge4_38)  (by decide) (by decide) ?_
          refine G_iload X0 hx (pc' := 9) rfl (hb hby d_merge4_7) rfl ?_
          refine G_aloadN X0 hx (pc' := 10) rfl (hb hby d_merge4_9) rfl rfl ?_
          refine Go.st (lenAJ X0 hx hZ e0 f0_J_v0 (g := (mkF m 10 #[.val (.ref v0), .val (.int (4 : Int32)), .val (.long (((((0 : Int64) + y0) + y1) + y2) + y3)), .second, .val (.int (4 : Int32))] [(.ref v0), (.int (4 : Int32))])) rfl rfl (hb hby d_merge4_10)) ?_
          show Go p e below s _ _ _ s₁ (mkF m 11 #[.val (.ref v0), .val (.int (4 : Int32)), .val (.long (((((0 : Int64) + y0) + y1) + y2) + y3)), .second, .val (.int (4 : Int32))] [(.int (4 : Int32)), (.int (4 : Int32))])
          refine G_icmpYes X0 hx (pc' := 41) (hb hby d_merge4_11) (flt (by decide : ¬ ((4 : Int32) < (4 : Int32)))).2.1 (by decide) (by decide) ?_
          refine G_iloadN X0 hx (pc' := 42) rfl (hb hby d_merge4_41) rfl ?_
          refine Go.fin X0 hlk (v := some (.int (4 : Int32))) (fun h => by rw [Bd.returns] at h; cases h) (by decide) (by decide) ?_ (fun fs hr => retOut X0 hx Bd.returns rfl (Or.inl ⟨rfl, Or.inl rfl, _, rfl⟩) (hb hby d_merge4_42) hr)
          show Q_merge4 Z v0 y0 y1 y2 y3 h0 n0 _ s₁.heap _
          rw [e0]
          exact ⟨congrArg (fun z => some (Value.int z)) (by rw [f_merge4]; rw [if_neg hc20_1, if_neg hc20_9, if_pos hc20_13, if_neg hc20_14]), N0, rfl⟩
      · refine G_ifNo X0 hx (pc' := 23) rfl (hb hby d_merge4_20) ((if0 _ _).trans (flt (fun q => hc20_13 ((lw_gt _ _).1 q))).2.2.1) ?_
        refine G_iload X0 hx (pc' := 25) rfl (hb hby d_merge4_23) rfl ?_
        refine G_iconst X0 hx (pc' := 26) rfl (hb hby d_merge4_25) (z := (1 : Int32)) rfl ?_
        refine G_iadd X0 hx (pc' := 27) rfl (hb hby d_merge4_26)  ?_
        rw [show ((2 : Int32) + (1 : Int32)) = (3 : Int32) from by decide]
        refine G_istoreN X0 hx (pc' := 28) rfl (hb hby d_merge4_27) (L' := #[.val (.ref v0), .val (.int (3 : Int32)), .val (.long (((0 : Int64) + y0) + y1)), .second, .val (.int (2 : Int32))]) rfl ?_
        refine G_lloadN X0 hx (pc' := 29) rfl (hb hby d_merge4_28) rfl ?_
        refine G_aloadN X0 hx (pc' := 30) rfl (hb hby d_merge4_29) rfl rfl ?_
        refine G_iload X0 hx (pc' := 32) rfl (hb hby d_merge4_30) rfl ?_
        refine Go.st (ldAJ X0 hx hZ e0 f0_J_v0 (j := (2 : Int32)) (by decide) (show Int32.toNatClampNeg 2 < 4 from by decide) (g := (mkF m 32 #[.val (.ref v0), .val (.int (3 : Int32)), .val (.long (((0 : Int64) + y0) + y1)), .second, .val (.int (2 : Int32))] [(.int (2 : Int32)), (.ref v0), (.long (((0 : Int64) + y0) + y1))])) rfl rfl (hb hby d_merge4_32)) ?_
        show Go p e below s _ _ _ s₁ (mkF m 33 #[.val (.ref v0), .val (.int (3 : Int32)), .val (.long (((0 : Int64) + y0) + y1)), .second, .val (.int (2 : Int32))] [(.long y2), (.long (((0 : Int64) + y0) + y1))])
        refine G_ladd X0 hx (pc' := 34) rfl (hb hby d_merge4_33)  ?_
        refine G_lstoreN X0 hx (pc' := 35) rfl (hb hby d_merge4_34) (L' := #[.val (.ref v0), .val (.int (3 : Int32)), .val (.long ((((0 : Int64) + y0) + y1) + y2)), .second, .val (.int (2 : Int32))]) rfl ?_
        refine G_iinc X0 hx (pc' := 38) rfl (hb hby d_merge4_35) rfl (z := (3 : Int32)) rfl (L' := #[.val (.ref v0), .val (.int (3 : Int32)), .val (.long ((((0 : Int64) + y0) + y1) + y2)), .second, .val (.int (3 : Int32))]) rfl ?_
        refine G_goto X0 hx (pc' := 7) (hb hby d_merge4_38)  (by decide) (by decide) ?_
        refine G_iload X0 hx (pc' := 9) rfl (hb hby d_merge4_7) rfl ?_
        refine G_aloadN X0 hx (pc' := 10) rfl (hb hby d_merge4_9) rfl rfl ?_
        refine Go.st (lenAJ X0 hx hZ e0 f0_J_v0 (g := (mkF m 10 #[.val (.ref v0), .val (.int (3 : Int32)), .val (.long ((((0 : Int64) + y0) + y1) + y2)), .second, .val (.int (3 : Int32))] [(.ref v0), (.int (3 : Int32))])) rfl rfl (hb hby d_merge4_10)) ?_
        show Go p e below s _ _ _ s₁ (mkF m 11 #[.val (.ref v0), .val (.int (3 : Int32)), .val (.long ((((0 : Int64) + y0) + y1) + y2)), .second, .val (.int (3 : Int32))] [(.int (4 : Int32)), (.int (3 : Int32))])
        refine G_icmpNo X0 hx (pc' := 14) rfl (hb hby d_merge4_11) (tlt (by decide : (3 : Int32) < (4 : Int32))).2.1 ?_
        refine G_aloadN X0 hx (pc' := 15) rfl (hb hby d_merge4_14) rfl rfl ?_
        refine G_iload X0 hx (pc' := 17) rfl (hb hby d_merge4_15) rfl ?_
        refine Go.st (ldAJ X0 hx hZ e0 f0_J_v0 (j := (3 : Int32)) (by decide) (show Int32.toNatClampNeg 3 < 4 from by decide) (g := (mkF m 17 #[.val (.ref v0), .val (.int (3 : Int32)), .val (.long ((((0 : Int64) + y0) + y1) + y2)), .second, .val (.int (3 : Int32))] [(.int (3 : Int32)), (.ref v0)])) rfl rfl (hb hby d_merge4_17)) ?_
        show Go p e below s _ _ _ s₁ (mkF m 18 #[.val (.ref v0), .val (.int (3 : Int32)), .val (.long ((((0 : Int64) + y0) + y1) + y2)), .second, .val (.int (3 : Int32))] [(.long y3)])
        refine G_lloadN X0 hx (pc' := 19) rfl (hb hby d_merge4_18) rfl ?_
        refine G_lcmp X0 hx (pc' := 20) rfl (hb hby d_merge4_19)  ?_
        by_cases hc20_15 : ((((0 : Int64) + y0) + y1) + y2) < y3
        · refine G_ifYes X0 hx (pc' := 28) (hb hby d_merge4_20) ((if0 _ _).trans (tlt ((lw_gt _ _).2 hc20_15)).2.2.1) (by decide) (by decide) ?_
          refine G_lloadN X0 hx (pc' := 29) rfl (hb hby d_merge4_28) rfl ?_
          refine G_aloadN X0 hx (pc' := 30) rfl (hb hby d_merge4_29) rfl rfl ?_
          refine G_iload X0 hx (pc' := 32) rfl (hb hby d_merge4_30) rfl ?_
          refine Go.st (ldAJ X0 hx hZ e0 f0_J_v0 (j := (3 : Int32)) (by decide) (show Int32.toNatClampNeg 3 < 4 from by decide) (g := (mkF m 32 #[.val (.ref v0), .val (.int (3 : Int32)), .val (.long ((((0 : Int64) + y0) + y1) + y2)), .second, .val (.int (3 : Int32))] [(.int (3 : Int32)), (.ref v0), (.long ((((0 : Int64) + y0) + y1) + y2))])) rfl rfl (hb hby d_merge4_32)) ?_
          show Go p e below s _ _ _ s₁ (mkF m 33 #[.val (.ref v0), .val (.int (3 : Int32)), .val (.long ((((0 : Int64) + y0) + y1) + y2)), .second, .val (.int (3 : Int32))] [(.long y3), (.long ((((0 : Int64) + y0) + y1) + y2))])
          refine G_ladd X0 hx (pc' := 34) rfl (hb hby d_merge4_33)  ?_
          refine G_lstoreN X0 hx (pc' := 35) rfl (hb hby d_merge4_34) (L' := #[.val (.ref v0), .val (.int (3 : Int32)), .val (.long (((((0 : Int64) + y0) + y1) + y2) + y3)), .second, .val (.int (3 : Int32))]) rfl ?_
          refine G_iinc X0 hx (pc' := 38) rfl (hb hby d_merge4_35) rfl (z := (4 : Int32)) rfl (L' := #[.val (.ref v0), .val (.int (3 : Int32)), .val (.long (((((0 : Int64) + y0) + y1) + y2) + y3)), .second, .val (.int (4 : Int32))]) rfl ?_
          refine G_goto X0 hx (pc' := 7) (hb hby d_merge4_38)  (by decide) (by decide) ?_
          refine G_iload X0 hx (pc' := 9) rfl (hb hby d_merge4_7) rfl ?_
          refine G_aloadN X0 hx (pc' := 10) rfl (hb hby d_merge4_9) rfl rfl ?_
          refine Go.st (lenAJ X0 hx hZ e0 f0_J_v0 (g := (mkF m 10 #[.val (.ref v0), .val (.int (3 : Int32)), .val (.long (((((0 : Int64) + y0) + y1) + y2) + y3)), .second, .val (.int (4 : Int32))] [(.ref v0), (.int (4 : Int32))])) rfl rfl (hb hby d_merge4_10)) ?_
          show Go p e below s _ _ _ s₁ (mkF m 11 #[.val (.ref v0), .val (.int (3 : Int32)), .val (.long (((((0 : Int64) + y0) + y1) + y2) + y3)), .second, .val (.int (4 : Int32))] [(.int (4 : Int32)), (.int (4 : Int32))])
          refine G_icmpYes X0 hx (pc' := 41) (hb hby d_merge4_11) (flt (by decide : ¬ ((4 : Int32) < (4 : Int32)))).2.1 (by decide) (by decide) ?_
          refine G_iloadN X0 hx (pc' := 42) rfl (hb hby d_merge4_41) rfl ?_
          refine Go.fin X0 hlk (v := some (.int (3 : Int32))) (fun h => by rw [Bd.returns] at h; cases h) (by decide) (by decide) ?_ (fun fs hr => retOut X0 hx Bd.returns rfl (Or.inl ⟨rfl, Or.inl rfl, _, rfl⟩) (hb hby d_merge4_42) hr)
          show Q_merge4 Z v0 y0 y1 y2 y3 h0 n0 _ s₁.heap _
          rw [e0]
          exact ⟨congrArg (fun z => some (Value.int z)) (by rw [f_merge4]; rw [if_neg hc20_1, if_neg hc20_9, if_neg hc20_13, if_pos hc20_15]), N0, rfl⟩
        · refine G_ifNo X0 hx (pc' := 23) rfl (hb hby d_merge4_20) ((if0 _ _).trans (flt (fun q => hc20_15 ((lw_gt _ _).1 q))).2.2.1) ?_
          refine G_iload X0 hx (pc' := 25) rfl (hb hby d_merge4_23) rfl ?_
          refine G_iconst X0 hx (pc' := 26) rfl (hb hby d_merge4_25) (z := (1 : Int32)) rfl ?_
          refine G_iadd X0 hx (pc' := 27) rfl (hb hby d_merge4_26)  ?_
          rw [show ((3 : Int32) + (1 : Int32)) = (4 : Int32) from by decide]
          refine G_istoreN X0 hx (pc' := 28) rfl (hb hby d_merge4_27) (L' := #[.val (.ref v0), .val (.int (4 : Int32)), .val (.long ((((0 : Int64) + y0) + y1) + y2)), .second, .val (.int (3 : Int32))]) rfl ?_
          refine G_lloadN X0 hx (pc' := 29) rfl (hb hby d_merge4_28) rfl ?_
          refine G_aloadN X0 hx (pc' := 30) rfl (hb hby d_merge4_29) rfl rfl ?_
          refine G_iload X0 hx (pc' := 32) rfl (hb hby d_merge4_30) rfl ?_
          refine Go.st (ldAJ X0 hx hZ e0 f0_J_v0 (j := (3 : Int32)) (by decide) (show Int32.toNatClampNeg 3 < 4 from by decide) (g := (mkF m 32 #[.val (.ref v0), .val (.int (4 : Int32)), .val (.long ((((0 : Int64) + y0) + y1) + y2)), .second, .val (.int (3 : Int32))] [(.int (3 : Int32)), (.ref v0), (.long ((((0 : Int64) + y0) + y1) + y2))])) rfl rfl (hb hby d_merge4_32)) ?_
          show Go p e below s _ _ _ s₁ (mkF m 33 #[.val (.ref v0), .val (.int (4 : Int32)), .val (.long ((((0 : Int64) + y0) + y1) + y2)), .second, .val (.int (3 : Int32))] [(.long y3), (.long ((((0 : Int64) + y0) + y1) + y2))])
          refine G_ladd X0 hx (pc' := 34) rfl (hb hby d_merge4_33)  ?_
          refine G_lstoreN X0 hx (pc' := 35) rfl (hb hby d_merge4_34) (L' := #[.val (.ref v0), .val (.int (4 : Int32)), .val (.long (((((0 : Int64) + y0) + y1) + y2) + y3)), .second, .val (.int (3 : Int32))]) rfl ?_
          refine G_iinc X0 hx (pc' := 38) rfl (hb hby d_merge4_35) rfl (z := (4 : Int32)) rfl (L' := #[.val (.ref v0), .val (.int (4 : Int32)), .val (.long (((((0 : Int64) + y0) + y1) + y2) + y3)), .second, .val (.int (4 : Int32))]) rfl ?_
          refine G_goto X0 hx (pc' := 7) (hb hby d_merge4_38)  (by decide) (by decide) ?_
          refine G_iload X0 hx (pc' := 9) rfl (hb hby d_merge4_7) rfl ?_
          refine G_aloadN X0 hx (pc' := 10) rfl (hb hby d_merge4_9) rfl rfl ?_
          refine Go.st (lenAJ X0 hx hZ e0 f0_J_v0 (g := (mkF m 10 #[.val (.ref v0), .val (.int (4 : Int32)), .val (.long (((((0 : Int64) + y0) + y1) + y2) + y3)), .second, .val (.int (4 : Int32))] [(.ref v0), (.int (4 : Int32))])) rfl rfl (hb hby d_merge4_10)) ?_
          show Go p e below s _ _ _ s₁ (mkF m 11 #[.val (.ref v0), .val (.int (4 : Int32)), .val (.long (((((0 : Int64) + y0) + y1) + y2) + y3)), .second, .val (.int (4 : Int32))] [(.int (4 : Int32)), (.int (4 : Int32))])
          refine G_icmpYes X0 hx (pc' := 41) (hb hby d_merge4_11) (flt (by decide : ¬ ((4 : Int32) < (4 : Int32)))).2.1 (by decide) (by decide) ?_
          refine G_iloadN X0 hx (pc' := 42) rfl (hb hby d_merge4_41) rfl ?_
          refine Go.fin X0 hlk (v := some (.int (4 : Int32))) (fun h => by rw [Bd.returns] at h; cases h) (by decide) (by decide) ?_ (fun fs hr => retOut X0 hx Bd.returns rfl (Or.inl ⟨rfl, Or.inl rfl, _, rfl⟩) (hb hby d_merge4_42) hr)
          show Q_merge4 Z v0 y0 y1 y2 y3 h0 n0 _ s₁.heap _
          rw [e0]
          exact ⟨congrArg (fun z => some (Value.int z)) (by rw [f_merge4]; rw [if_neg hc20_1, if_neg hc20_9, if_neg hc20_13, if_neg hc20_15]), N0, rfl⟩
theorem d_exp4_0 : decode method_3_code 0 = .ok (.lload_n 1, 1) := by decide +kernel
theorem d_exp4_1 : decode method_3_code 1 = .ok (.lstore 9, 2) := by decide +kernel
theorem d_exp4_3 : decode method_3_code 3 = .ok (.lload_n 1, 1) := by decide +kernel
theorem d_exp4_4 : decode method_3_code 4 = .ok (.lload_n 3, 1) := by decide +kernel
theorem d_exp4_5 : decode method_3_code 5 = .ok (.ladd, 1) := by decide +kernel
theorem d_exp4_6 : decode method_3_code 6 = .ok (.lstore 11, 2) := by decide +kernel
theorem d_exp4_8 : decode method_3_code 8 = .ok (.lload_n 1, 1) := by decide +kernel
theorem d_exp4_9 : decode method_3_code 9 = .ok (.lload_n 3, 1) := by decide +kernel
theorem d_exp4_10 : decode method_3_code 10 = .ok (.ladd, 1) := by decide +kernel
theorem d_exp4_11 : decode method_3_code 11 = .ok (.lload 5, 2) := by decide +kernel
theorem d_exp4_13 : decode method_3_code 13 = .ok (.ladd, 1) := by decide +kernel
theorem d_exp4_14 : decode method_3_code 14 = .ok (.lstore 13, 2) := by decide +kernel
theorem d_exp4_16 : decode method_3_code 16 = .ok (.iload_n 0, 1) := by decide +kernel
theorem d_exp4_17 : decode method_3_code 17 = .ok (.iconst 4, 1) := by decide +kernel
theorem d_exp4_18 : decode method_3_code 18 = .ok (.if_icmp .lt 13, 3) := by decide +kernel
theorem d_exp4_21 : decode method_3_code 21 = .ok (.lload 7, 2) := by decide +kernel
theorem d_exp4_23 : decode method_3_code 23 = .ok (.lload 13, 2) := by decide +kernel
theorem d_exp4_25 : decode method_3_code 25 = .ok (.lcmp, 1) := by decide +kernel
theorem d_exp4_26 : decode method_3_code 26 = .ok (.ifCond .gt 5, 3) := by decide +kernel
theorem d_exp4_31 : decode method_3_code 31 = .ok (.iload_n 0, 1) := by decide +kernel
theorem d_exp4_32 : decode method_3_code 32 = .ok (.iconst 3, 1) := by decide +kernel
theorem d_exp4_33 : decode method_3_code 33 = .ok (.if_icmp .lt 13, 3) := by decide +kernel
theorem d_exp4_36 : decode method_3_code 36 = .ok (.lload 5, 2) := by decide +kernel
theorem d_exp4_38 : decode method_3_code 38 = .ok (.lload 11, 2) := by decide +kernel
theorem d_exp4_40 : decode method_3_code 40 = .ok (.lcmp, 1) := by decide +kernel
theorem d_exp4_41 : decode method_3_code 41 = .ok (.ifCond .gt 5, 3) := by decide +kernel
theorem d_exp4_46 : decode method_3_code 46 = .ok (.iload_n 0, 1) := by decide +kernel
theorem d_exp4_47 : decode method_3_code 47 = .ok (.iconst 2, 1) := by decide +kernel
theorem d_exp4_48 : decode method_3_code 48 = .ok (.if_icmp .lt 12, 3) := by decide +kernel
theorem d_exp4_51 : decode method_3_code 51 = .ok (.lload_n 3, 1) := by decide +kernel
theorem d_exp4_52 : decode method_3_code 52 = .ok (.lload 9, 2) := by decide +kernel
theorem d_exp4_54 : decode method_3_code 54 = .ok (.lcmp, 1) := by decide +kernel
theorem d_exp4_55 : decode method_3_code 55 = .ok (.ifCond .gt 5, 3) := by decide +kernel
theorem d_exp4_60 : decode method_3_code 60 = .ok (.iload_n 0, 1) := by decide +kernel
theorem d_exp4_61 : decode method_3_code 61 = .ok (.iconst 1, 1) := by decide +kernel
theorem d_exp4_62 : decode method_3_code 62 = .ok (.if_icmp .lt 11, 3) := by decide +kernel
theorem d_exp4_65 : decode method_3_code 65 = .ok (.lload_n 1, 1) := by decide +kernel
theorem d_exp4_66 : decode method_3_code 66 = .ok (.lconst 0, 1) := by decide +kernel
theorem d_exp4_67 : decode method_3_code 67 = .ok (.lcmp, 1) := by decide +kernel
theorem d_exp4_68 : decode method_3_code 68 = .ok (.ifCond .gt 5, 3) := by decide +kernel
theorem d_exp4_73 : decode method_3_code 73 = .ok (.iconst 0, 1) := by decide +kernel
theorem d_exp4_74 : decode method_3_code 74 = .ok (.ireturn, 1) := by decide +kernel
theorem d_exp4_71 : decode method_3_code 71 = .ok (.iconst 1, 1) := by decide +kernel
theorem d_exp4_72 : decode method_3_code 72 = .ok (.ireturn, 1) := by decide +kernel
theorem d_exp4_58 : decode method_3_code 58 = .ok (.iconst 2, 1) := by decide +kernel
theorem d_exp4_59 : decode method_3_code 59 = .ok (.ireturn, 1) := by decide +kernel
theorem d_exp4_44 : decode method_3_code 44 = .ok (.iconst 3, 1) := by decide +kernel
theorem d_exp4_45 : decode method_3_code 45 = .ok (.ireturn, 1) := by decide +kernel
theorem d_exp4_29 : decode method_3_code 29 = .ok (.iconst 4, 1) := by decide +kernel
theorem d_exp4_30 : decode method_3_code 30 = .ok (.ireturn, 1) := by decide +kernel
def f_exp4 (v1 : Int64) (v2 : Int64) (v3 : Int64) (v4 : Int64) : Int32 := (if ((v1 + v2) + v3) < v4 then (if (v1 + v2) < v3 then (if v1 < v2 then (if (0 : Int64) < v1 then (0 : Int32) else (1 : Int32)) else (2 : Int32)) else (3 : Int32)) else (4 : Int32))
theorem ef_exp4 (m : MethodId) (v1 : Int64) (v2 : Int64) (v3 : Int64) (v4 : Int64) : entryFrame m #[(.int (4 : Int32)), (.long v1), (.long v2), (.long v3), (.long v4)] 15 = mkF m 0 #[.val (.int (4 : Int32)), .val (.long v1), .second, .val (.long v2), .second, .val (.long v3), .second, .val (.long v4), .second, .unset, .unset, .unset, .unset, .unset, .unset] [] := by first | (simp [entryFrame, mkF, argsToLocals, Value.category]; done) | rfl
def Q_exp4 (Z : State) (v1 : Int64) (v2 : Int64) (v3 : Int64) (v4 : Int64) (h0 : Heap) (n0 : Nat) (v : Option Value) (h : Heap) (L : List Loc) : Prop := v = some (.int (f_exp4 v1 v2 v3 v4)) ∧ Fr n0 L ∧ h = h0
set_option maxRecDepth 65536 in
set_option maxHeartbeats 40000000 in
theorem rm_exp4 (l : Launch) (Z : State) (a0 : Array Value) (hw : ∀ d ∈ tables_1, d.before a0 Z = true) (ws : List Jvm.Cond) (v1 : Int64) (v2 : Int64) (v3 : Int64) (v4 : Int64) (h0 : Heap) (n0 : Nat) (Z0 : n0 ≤ h0.size) :
    MetFree l (⟨"com/example/quern/quern/core/TreeUpdateMergeCountPinLaw", "expected", "(IJJJJ)I"⟩ : MethodName) (head1 (Jvm.Cond.code (⟨"com/example/quern/quern/core/TreeUpdateMergeCountPinLaw", "expected", "(IJJJJ)I"⟩ : MethodName) method_3_code 15 (some .int) :: ws) ({ frames := 0, cells := 0, slots := 0, locals := 0 } : Room)) (fun a U => a = #[(.int (4 : Int32)), (.long v1), (.long v2), (.long v3), (.long v4)] ∧ Z.Warmed39 U.vm ∧ U.heap = h0) (fun _ _ _ _ _ => True) (fun _ U o U' => ∃ v L, o = .returned v ∧ Q_exp4 Z v1 v2 v3 v4 h0 n0 v U'.heap L ∧ FrameEnd U o U' L ({ frames := 0, cells := 0, slots := 0, locals := 0 } : Room).cells ({ frames := 0, cells := 0, slots := 0, locals := 0 } : Room).slots) := by
  refine MetFree.of_bodySF (plainFor_of_name (by first | (simp [plainName, overriddenIn]; done) | decide +kernel)) hisR ?_
  intro p e s m args below meth c s₁ Bd hml0 hP hK
  obtain ⟨rfl, hZ, hh⟩ := hP
  have hx := Bd.exec
  have hby := Bd.bytes
  have hml : c.maxLocals = 15 := hml0
  have hown : s.vm.findClass "com/example/quern/quern/core/TreeUpdateMergeCountPinLaw" = some m.cls := findClass_of_methodNamed Bd.named
  have hnm := (name_of_methodNamed Bd.named Bd.method).1
  have hlk : meth.locks = false := Bd.notSynchronized
  have X0 : Stand p l e ({ frames := 0, cells := 0, slots := 0, locals := 0 } : Room) s m #[(.int (4 : Int32)), (.long v1), (.long v2), (.long v3), (.long v4)] below meth c s₁ [] 0 0 := Stand.of_body Bd
  have e0 : s₁.heap = h0 := by rw [← hh, Bd.state]; rfl
  have N0 := Fr.nil n0
  refine Go.enter (Q := Q_exp4 Z v1 v2 v3 v4 h0 n0) (C := ({ frames := 0, cells := 0, slots := 0, locals := 0 } : Room).cells) (N := ({ frames := 0, cells := 0, slots := 0, locals := 0 } : Room).slots) (ef_exp4 m v1 v2 v3 v4) ?_
  show Go p e below s _ _ _ s₁ (mkF m 0 #[.val (.int (4 : Int32)), .val (.long v1), .second, .val (.long v2), .second, .val (.long v3), .second, .val (.long v4), .second, .unset, .unset, .unset, .unset, .unset, .unset] [])
  refine G_lloadN X0 hx (pc' := 1) rfl (hb hby d_exp4_0) rfl ?_
  refine G_lstore X0 hx (pc' := 3) rfl (hb hby d_exp4_1) (L' := #[.val (.int (4 : Int32)), .val (.long v1), .second, .val (.long v2), .second, .val (.long v3), .second, .val (.long v4), .second, .val (.long v1), .second, .unset, .unset, .unset, .unset]) rfl ?_
  refine G_lloadN X0 hx (pc' := 4) rfl (hb hby d_exp4_3) rfl ?_
  refine G_lloadN X0 hx (pc' := 5) rfl (hb hby d_exp4_4) rfl ?_
  refine G_ladd X0 hx (pc' := 6) rfl (hb hby d_exp4_5)  ?_
  refine G_lstore X0 hx (pc' := 8) rfl (hb hby d_exp4_6) (L' := #[.val (.int (4 : Int32)), .val (.long v1), .second, .val (.long v2), .second, .val (.long v3), .second, .val (.long v4), .second, .val (.long v1), .second, .val (.long (v1 + v2)), .second, .unset, .unset]) rfl ?_
  refine G_lloadN X0 hx (pc' := 9) rfl (hb hby d_exp4_8) rfl ?_
  refine G_lloadN X0 hx (pc' := 10) rfl (hb hby d_exp4_9) rfl ?_
  refine G_ladd X0 hx (pc' := 11) rfl (hb hby d_exp4_10)  ?_
  refine G_lload X0 hx (pc' := 13) rfl (hb hby d_exp4_11) rfl ?_
  refine G_ladd X0 hx (pc' := 14) rfl (hb hby d_exp4_13)  ?_
  refine G_lstore X0 hx (pc' := 16) rfl (hb hby d_exp4_14) (L' := #[.val (.int (4 : Int32)), .val (.long v1), .second, .val (.long v2), .second, .val (.long v3), .second, .val (.long v4), .second, .val (.long v1), .second, .val (.long (v1 + v2)), .second, .val (.long ((v1 + v2) + v3)), .second]) rfl ?_
  refine G_iloadN X0 hx (pc' := 17) rfl (hb hby d_exp4_16) rfl ?_
  refine G_iconst X0 hx (pc' := 18) rfl (hb hby d_exp4_17) (z := (4 : Int32)) rfl ?_
  refine G_icmpNo X0 hx (pc' := 21) rfl (hb hby d_exp4_18) (flt (by decide : ¬ ((4 : Int32) < (4 : Int32)))).1 ?_
  refine G_lload X0 hx (pc' := 23) rfl (hb hby d_exp4_21) rfl ?_
  refine G_lload X0 hx (pc' := 25) rfl (hb hby d_exp4_23) rfl ?_
  refine G_lcmp X0 hx (pc' := 26) rfl (hb hby d_exp4_25)  ?_
  by_cases hc26_1 : ((v1 + v2) + v3) < v4
  · refine G_ifYes X0 hx (pc' := 31) (hb hby d_exp4_26) ((if0 _ _).trans (tlt ((lw_gt _ _).2 hc26_1)).2.2.1) (by decide) (by decide) ?_
    refine G_iloadN X0 hx (pc' := 32) rfl (hb hby d_exp4_31) rfl ?_
    refine G_iconst X0 hx (pc' := 33) rfl (hb hby d_exp4_32) (z := (3 : Int32)) rfl ?_
    refine G_icmpNo X0 hx (pc' := 36) rfl (hb hby d_exp4_33) (flt (by decide : ¬ ((4 : Int32) < (3 : Int32)))).1 ?_
    refine G_lload X0 hx (pc' := 38) rfl (hb hby d_exp4_36) rfl ?_
    refine G_lload X0 hx (pc' := 40) rfl (hb hby d_exp4_38) rfl ?_
    refine G_lcmp X0 hx (pc' := 41) rfl (hb hby d_exp4_40)  ?_
    by_cases hc41_2 : (v1 + v2) < v3
    · refine G_ifYes X0 hx (pc' := 46) (hb hby d_exp4_41) ((if0 _ _).trans (tlt ((lw_gt _ _).2 hc41_2)).2.2.1) (by decide) (by decide) ?_
      refine G_iloadN X0 hx (pc' := 47) rfl (hb hby d_exp4_46) rfl ?_
      refine G_iconst X0 hx (pc' := 48) rfl (hb hby d_exp4_47) (z := (2 : Int32)) rfl ?_
      refine G_icmpNo X0 hx (pc' := 51) rfl (hb hby d_exp4_48) (flt (by decide : ¬ ((4 : Int32) < (2 : Int32)))).1 ?_
      refine G_lloadN X0 hx (pc' := 52) rfl (hb hby d_exp4_51) rfl ?_
      refine G_lload X0 hx (pc' := 54) rfl (hb hby d_exp4_52) rfl ?_
      refine G_lcmp X0 hx (pc' := 55) rfl (hb hby d_exp4_54)  ?_
      by_cases hc55_3 : v1 < v2
      · refine G_ifYes X0 hx (pc' := 60) (hb hby d_exp4_55) ((if0 _ _).trans (tlt ((lw_gt _ _).2 hc55_3)).2.2.1) (by decide) (by decide) ?_
        refine G_iloadN X0 hx (pc' := 61) rfl (hb hby d_exp4_60) rfl ?_
        refine G_iconst X0 hx (pc' := 62) rfl (hb hby d_exp4_61) (z := (1 : Int32)) rfl ?_
        refine G_icmpNo X0 hx (pc' := 65) rfl (hb hby d_exp4_62) (flt (by decide : ¬ ((4 : Int32) < (1 : Int32)))).1 ?_
        refine G_lloadN X0 hx (pc' := 66) rfl (hb hby d_exp4_65) rfl ?_
        refine G_lconst X0 hx (pc' := 67) rfl (hb hby d_exp4_66) (z := (0 : Int64)) rfl ?_
        refine G_lcmp X0 hx (pc' := 68) rfl (hb hby d_exp4_67)  ?_
        by_cases hc68_4 : (0 : Int64) < v1
        · refine G_ifYes X0 hx (pc' := 73) (hb hby d_exp4_68) ((if0 _ _).trans (tlt ((lw_gt _ _).2 hc68_4)).2.2.1) (by decide) (by decide) ?_
          refine G_iconst X0 hx (pc' := 74) rfl (hb hby d_exp4_73) (z := (0 : Int32)) rfl ?_
          refine Go.fin X0 hlk (v := some (.int (0 : Int32))) (fun h => by rw [Bd.returns] at h; cases h) (by decide) (by decide) ?_ (fun fs hr => retOut X0 hx Bd.returns rfl (Or.inl ⟨rfl, Or.inl rfl, _, rfl⟩) (hb hby d_exp4_74) hr)
          show Q_exp4 Z v1 v2 v3 v4 h0 n0 _ s₁.heap _
          rw [e0]
          exact ⟨congrArg (fun z => some (Value.int z)) (by rw [f_exp4]; rw [if_pos hc26_1, if_pos hc41_2, if_pos hc55_3, if_pos hc68_4]), N0, rfl⟩
        · refine G_ifNo X0 hx (pc' := 71) rfl (hb hby d_exp4_68) ((if0 _ _).trans (flt (fun q => hc68_4 ((lw_gt _ _).1 q))).2.2.1) ?_
          refine G_iconst X0 hx (pc' := 72) rfl (hb hby d_exp4_71) (z := (1 : Int32)) rfl ?_
          refine Go.fin X0 hlk (v := some (.int (1 : Int32))) (fun h => by rw [Bd.returns] at h; cases h) (by decide) (by decide) ?_ (fun fs hr => retOut X0 hx Bd.returns rfl (Or.inl ⟨rfl, Or.inl rfl, _, rfl⟩) (hb hby d_exp4_72) hr)
          show Q_exp4 Z v1 v2 v3 v4 h0 n0 _ s₁.heap _
          rw [e0]
          exact ⟨congrArg (fun z => some (Value.int z)) (by rw [f_exp4]; rw [if_pos hc26_1, if_pos hc41_2, if_pos hc55_3, if_neg hc68_4]), N0, rfl⟩
      · refine G_ifNo X0 hx (pc' := 58) rfl (hb hby d_exp4_55) ((if0 _ _).trans (flt (fun q => hc55_3 ((lw_gt _ _).1 q))).2.2.1) ?_
        refine G_iconst X0 hx (pc' := 59) rfl (hb hby d_exp4_58) (z := (2 : Int32)) rfl ?_
        refine Go.fin X0 hlk (v := some (.int (2 : Int32))) (fun h => by rw [Bd.returns] at h; cases h) (by decide) (by decide) ?_ (fun fs hr => retOut X0 hx Bd.returns rfl (Or.inl ⟨rfl, Or.inl rfl, _, rfl⟩) (hb hby d_exp4_59) hr)
        show Q_exp4 Z v1 v2 v3 v4 h0 n0 _ s₁.heap _
        rw [e0]
        exact ⟨congrArg (fun z => some (Value.int z)) (by rw [f_exp4]; rw [if_pos hc26_1, if_pos hc41_2, if_neg hc55_3]), N0, rfl⟩
    · refine G_ifNo X0 hx (pc' := 44) rfl (hb hby d_exp4_41) ((if0 _ _).trans (flt (fun q => hc41_2 ((lw_gt _ _).1 q))).2.2.1) ?_
      refine G_iconst X0 hx (pc' := 45) rfl (hb hby d_exp4_44) (z := (3 : Int32)) rfl ?_
      refine Go.fin X0 hlk (v := some (.int (3 : Int32))) (fun h => by rw [Bd.returns] at h; cases h) (by decide) (by decide) ?_ (fun fs hr => retOut X0 hx Bd.returns rfl (Or.inl ⟨rfl, Or.inl rfl, _, rfl⟩) (hb hby d_exp4_45) hr)
      show Q_exp4 Z v1 v2 v3 v4 h0 n0 _ s₁.heap _
      rw [e0]
      exact ⟨congrArg (fun z => some (Value.int z)) (by rw [f_exp4]; rw [if_pos hc26_1, if_neg hc41_2]), N0, rfl⟩
  · refine G_ifNo X0 hx (pc' := 29) rfl (hb hby d_exp4_26) ((if0 _ _).trans (flt (fun q => hc26_1 ((lw_gt _ _).1 q))).2.2.1) ?_
    refine G_iconst X0 hx (pc' := 30) rfl (hb hby d_exp4_29) (z := (4 : Int32)) rfl ?_
    refine Go.fin X0 hlk (v := some (.int (4 : Int32))) (fun h => by rw [Bd.returns] at h; cases h) (by decide) (by decide) ?_ (fun fs hr => retOut X0 hx Bd.returns rfl (Or.inl ⟨rfl, Or.inl rfl, _, rfl⟩) (hb hby d_exp4_30) hr)
    show Q_exp4 Z v1 v2 v3 v4 h0 n0 _ s₁.heap _
    rw [e0]
    exact ⟨congrArg (fun z => some (Value.int z)) (by rw [f_exp4]; rw [if_neg hc26_1]), N0, rfl⟩
theorem own_m4 (v1 v2 v3 v4 : Int64) : f_merge4 v1 v2 v3 v4 = f_exp4 v1 v2 v3 v4 := by
  unfold f_merge4 f_exp4
  simp only [Int64.zero_add]
  repeat' split
  all_goals first | rfl | (exfalso; simp_all; done) | simp_all
theorem own_five (x : Int32) : 0 ≤ ((x &&& (2147483647 : Int32)) % (5 : Int32)).toInt ∧ ((x &&& (2147483647 : Int32)) % (5 : Int32)).toInt < 5 := by
  have h1 := c_mask x 2147483647 31 (by decide) (by decide)
  have h2 := (c_irem (x &&& (2147483647 : Int32)) 5 5 (by decide)).1
  have h3 : 0 ≤ (x &&& (2147483647 : Int32)).toInt := by rw [h1]; omega
  have h4 := h2 h3
  omega
theorem own_last {n : Int32} (hA : 0 ≤ n.toInt) (hB : n.toInt < 5) (n0 : ¬ n = 0) (n1 : ¬ n = 1) (n2 : ¬ n = 2) (n3 : ¬ n = 3) : n = 4 := by
  have l0 : (0 : Int32).toInt = 0 := by decide
  have l1 : (1 : Int32).toInt = 1 := by decide
  have l2 : (2 : Int32).toInt = 2 := by decide
  have l3 : (3 : Int32).toInt = 3 := by decide
  have l4 : (4 : Int32).toInt = 4 := by decide
  rw [← Int32.toInt_inj] at n0 n1 n2 n3
  exact Int32.toInt_inj.mp (by omega)
theorem pd_0 : parseMethodDescriptor "([J)I" = some ⟨[(.array .long)], some .int⟩ := by decide +kernel
theorem pd_1 : parseMethodDescriptor "(IJJJJ)I" = some ⟨[.int, .long, .long, .long, .long], some .int⟩ := by decide +kernel
def f_law (v0 : Int32) (v1 : Int32) (v2 : Int32) (v3 : Int32) (v4 : Int32) : Int32 := (if ((v0 &&& (2147483647 : Int32)) % (5 : Int32)) = (0 : Int32) then (if (f_merge0) = (f_exp0 ((v1.toInt64) &&& (2147483647 : Int64)) (((v1.toInt64) &&& (2147483647 : Int64)) + ((v2.toInt64) &&& (2147483647 : Int64))) ((((v1.toInt64) &&& (2147483647 : Int64)) + ((v2.toInt64) &&& (2147483647 : Int64))) + ((v3.toInt64) &&& (2147483647 : Int64))) (((((v1.toInt64) &&& (2147483647 : Int64)) + ((v2.toInt64) &&& (2147483647 : Int64))) + ((v3.toInt64) &&& (2147483647 : Int64))) + ((v4.toInt64) &&& (2147483647 : Int64)))) then (1 : Int32) else (0 : Int32)) else (if ((v0 &&& (2147483647 : Int32)) % (5 : Int32)) = (1 : Int32) then (if (f_merge1 ((v1.toInt64) &&& (2147483647 : Int64))) = (f_exp1 ((v1.toInt64) &&& (2147483647 : Int64)) (((v1.toInt64) &&& (2147483647 : Int64)) + ((v2.toInt64) &&& (2147483647 : Int64))) ((((v1.toInt64) &&& (2147483647 : Int64)) + ((v2.toInt64) &&& (2147483647 : Int64))) + ((v3.toInt64) &&& (2147483647 : Int64))) (((((v1.toInt64) &&& (2147483647 : Int64)) + ((v2.toInt64) &&& (2147483647 : Int64))) + ((v3.toInt64) &&& (2147483647 : Int64))) + ((v4.toInt64) &&& (2147483647 : Int64)))) then (1 : Int32) else (0 : Int32)) else (if ((v0 &&& (2147483647 : Int32)) % (5 : Int32)) = (2 : Int32) then (if (f_merge2 ((v1.toInt64) &&& (2147483647 : Int64)) (((v1.toInt64) &&& (2147483647 : Int64)) + ((v2.toInt64) &&& (2147483647 : Int64)))) = (f_exp2 ((v1.toInt64) &&& (2147483647 : Int64)) (((v1.toInt64) &&& (2147483647 : Int64)) + ((v2.toInt64) &&& (2147483647 : Int64))) ((((v1.toInt64) &&& (2147483647 : Int64)) + ((v2.toInt64) &&& (2147483647 : Int64))) + ((v3.toInt64) &&& (2147483647 : Int64))) (((((v1.toInt64) &&& (2147483647 : Int64)) + ((v2.toInt64) &&& (2147483647 : Int64))) + ((v3.toInt64) &&& (2147483647 : Int64))) + ((v4.toInt64) &&& (2147483647 : Int64)))) then (1 : Int32) else (0 : Int32)) else (if ((v0 &&& (2147483647 : Int32)) % (5 : Int32)) = (3 : Int32) then (if (f_merge3 ((v1.toInt64) &&& (2147483647 : Int64)) (((v1.toInt64) &&& (2147483647 : Int64)) + ((v2.toInt64) &&& (2147483647 : Int64))) ((((v1.toInt64) &&& (2147483647 : Int64)) + ((v2.toInt64) &&& (2147483647 : Int64))) + ((v3.toInt64) &&& (2147483647 : Int64)))) = (f_exp3 ((v1.toInt64) &&& (2147483647 : Int64)) (((v1.toInt64) &&& (2147483647 : Int64)) + ((v2.toInt64) &&& (2147483647 : Int64))) ((((v1.toInt64) &&& (2147483647 : Int64)) + ((v2.toInt64) &&& (2147483647 : Int64))) + ((v3.toInt64) &&& (2147483647 : Int64))) (((((v1.toInt64) &&& (2147483647 : Int64)) + ((v2.toInt64) &&& (2147483647 : Int64))) + ((v3.toInt64) &&& (2147483647 : Int64))) + ((v4.toInt64) &&& (2147483647 : Int64)))) then (1 : Int32) else (0 : Int32)) else (if (f_merge4 ((v1.toInt64) &&& (2147483647 : Int64)) (((v1.toInt64) &&& (2147483647 : Int64)) + ((v2.toInt64) &&& (2147483647 : Int64))) ((((v1.toInt64) &&& (2147483647 : Int64)) + ((v2.toInt64) &&& (2147483647 : Int64))) + ((v3.toInt64) &&& (2147483647 : Int64))) (((((v1.toInt64) &&& (2147483647 : Int64)) + ((v2.toInt64) &&& (2147483647 : Int64))) + ((v3.toInt64) &&& (2147483647 : Int64))) + ((v4.toInt64) &&& (2147483647 : Int64)))) = (f_exp4 ((v1.toInt64) &&& (2147483647 : Int64)) (((v1.toInt64) &&& (2147483647 : Int64)) + ((v2.toInt64) &&& (2147483647 : Int64))) ((((v1.toInt64) &&& (2147483647 : Int64)) + ((v2.toInt64) &&& (2147483647 : Int64))) + ((v3.toInt64) &&& (2147483647 : Int64))) (((((v1.toInt64) &&& (2147483647 : Int64)) + ((v2.toInt64) &&& (2147483647 : Int64))) + ((v3.toInt64) &&& (2147483647 : Int64))) + ((v4.toInt64) &&& (2147483647 : Int64)))) then (1 : Int32) else (0 : Int32))))))
theorem ef_law (m : MethodId) (v0 : Int32) (v1 : Int32) (v2 : Int32) (v3 : Int32) (v4 : Int32) : entryFrame m #[(.int v0), (.int v1), (.int v2), (.int v3), (.int v4)] maxLocals = mkF m 0 #[.val (.int v0), .val (.int v1), .val (.int v2), .val (.int v3), .val (.int v4), .unset, .unset, .unset, .unset, .unset, .unset, .unset, .unset, .unset, .unset, .unset] [] := by first | (simp [entryFrame, mkF, argsToLocals, Value.category, maxLocals]; done) | rfl
def Q_law (Z : State) (v0 : Int32) (v1 : Int32) (v2 : Int32) (v3 : Int32) (v4 : Int32) (h0 : Heap) (n0 : Nat) (v : Option Value) (h : Heap) (L : List Loc) : Prop := v = some (.int (f_law v0 v1 v2 v3 v4)) ∧ Fr n0 L
set_option maxRecDepth 65536 in
set_option maxHeartbeats 40000000 in
theorem rm_law (l : Launch) (Z : State) (a0 : Array Value) (hw : ∀ d ∈ tables_1, d.before a0 Z = true) (ws : List Jvm.Cond) (v0 : Int32) (v1 : Int32) (v2 : Int32) (v3 : Int32) (v4 : Int32) (h0 : Heap) (n0 : Nat) (Z0 : n0 ≤ h0.size) :
    MetFree l x (head1 (Jvm.Cond.code x code maxLocals ret :: ws) room_1) (fun a U => a = #[(.int v0), (.int v1), (.int v2), (.int v3), (.int v4)] ∧ Z.Warmed39 U.vm ∧ U.heap = h0) (fun _ _ _ _ _ => True) (fun _ U o U' => ∃ v L, o = .returned v ∧ Q_law Z v0 v1 v2 v3 v4 h0 n0 v U'.heap L ∧ FrameEnd U o U' L room_1.cells room_1.slots) := by
  refine MetFree.of_bodySF (plainFor_of_name (by first | (simp [plainName, overriddenIn]; done) | decide +kernel)) hisR ?_
  intro p e s m args below meth c s₁ Bd hml0 hP hK
  obtain ⟨rfl, hZ, hh⟩ := hP
  have hx := Bd.exec
  have hby := Bd.bytes
  have hml : c.maxLocals = 16 := hml0
  have hown : s.vm.findClass "com/example/quern/quern/core/TreeUpdateMergeCountPinLaw" = some m.cls := findClass_of_methodNamed Bd.named
  have hnm := (name_of_methodNamed Bd.named Bd.method).1
  have hlk : meth.locks = false := Bd.notSynchronized
  have X0 : Stand p l e room_1 s m #[(.int v0), (.int v1), (.int v2), (.int v3), (.int v4)] below meth c s₁ [] 0 0 := Stand.of_body Bd
  have e0 : s₁.heap = h0 := by rw [← hh, Bd.state]; rfl
  have N0 := Fr.nil n0
  refine Go.enter (Q := Q_law Z v0 v1 v2 v3 v4 h0 n0) (C := room_1.cells) (N := room_1.slots) (ef_law m v0 v1 v2 v3 v4) ?_
  show Go p e below s _ _ _ s₁ (mkF m 0 #[.val (.int v0), .val (.int v1), .val (.int v2), .val (.int v3), .val (.int v4), .unset, .unset, .unset, .unset, .unset, .unset, .unset, .unset, .unset, .unset, .unset] [])
  refine G_iloadN X0 hx (pc' := 1) rfl (hb hby at_0) rfl ?_
  refine G_ldc X0 hx (pc' := 3) rfl hown (mvT hZ (hw _ (List.mem_of_getElem? (i := 0) rfl))) (hb hby at_1) ?_
  refine G_iand X0 hx (pc' := 4) rfl (hb hby at_3)  ?_
  refine G_iconst X0 hx (pc' := 5) rfl (hb hby at_4) (z := (5 : Int32)) rfl ?_
  refine G_irem X0 hx (pc' := 6) rfl (hb hby at_5) (by decide) ?_
  refine G_istore X0 hx (pc' := 8) rfl (hb hby at_6) (L' := #[.val (.int v0), .val (.int v1), .val (.int v2), .val (.int v3), .val (.int v4), .val (.int ((v0 &&& (2147483647 : Int32)) % (5 : Int32))), .unset, .unset, .unset, .unset, .unset, .unset, .unset, .unset, .unset, .unset]) rfl ?_
  obtain ⟨n, h_n, hA, hB⟩ : ∃ n : Int32, ((v0 &&& (2147483647 : Int32)) % (5 : Int32)) = n ∧ 0 ≤ n.toInt ∧ n.toInt < 5 := ⟨_, rfl, (own_five _).1, (own_five _).2⟩
  rw [h_n]
  refine G_iloadN X0 hx (pc' := 9) rfl (hb hby at_8) rfl ?_
  refine G_i2l X0 hx (pc' := 10) rfl (hb hby at_9)  ?_
  refine G_ldc2 X0 hx (pc' := 13) rfl hown (mvT hZ (hw _ (List.mem_of_getElem? (i := 1) rfl))) (hb hby at_10) ?_
  refine G_land X0 hx (pc' := 14) rfl (hb hby at_13)  ?_
  refine G_lstore X0 hx (pc' := 16) rfl (hb hby at_14) (L' := #[.val (.int v0), .val (.int v1), .val (.int v2), .val (.int v3), .val (.int v4), .val (.int n), .val (.long ((v1.toInt64) &&& (2147483647 : Int64))), .second, .unset, .unset, .unset, .unset, .unset, .unset, .unset, .unset]) rfl ?_
  obtain ⟨sA, h_sA⟩ : ∃ sA : Int64, ((v1.toInt64) &&& (2147483647 : Int64)) = sA := ⟨_, rfl⟩
  rw [h_sA]
  refine G_lload X0 hx (pc' := 18) rfl (hb hby at_16) rfl ?_
  refine G_iloadN X0 hx (pc' := 19) rfl (hb hby at_18) rfl ?_
  refine G_i2l X0 hx (pc' := 20) rfl (hb hby at_19)  ?_
  refine G_ldc2 X0 hx (pc' := 23) rfl hown (mvT hZ (hw _ (List.mem_of_getElem? (i := 1) rfl))) (hb hby at_20) ?_
  refine G_land X0 hx (pc' := 24) rfl (hb hby at_23)  ?_
  refine G_ladd X0 hx (pc' := 25) rfl (hb hby at_24)  ?_
  refine G_lstore X0 hx (pc' := 27) rfl (hb hby at_25) (L' := #[.val (.int v0), .val (.int v1), .val (.int v2), .val (.int v3), .val (.int v4), .val (.int n), .val (.long sA), .second, .val (.long (sA + ((v2.toInt64) &&& (2147483647 : Int64)))), .second, .unset, .unset, .unset, .unset, .unset, .unset]) rfl ?_
  obtain ⟨sB, h_sB⟩ : ∃ sB : Int64, (sA + ((v2.toInt64) &&& (2147483647 : Int64))) = sB := ⟨_, rfl⟩
  rw [h_sB]
  refine G_lload X0 hx (pc' := 29) rfl (hb hby at_27) rfl ?_
  refine G_iloadN X0 hx (pc' := 30) rfl (hb hby at_29) rfl ?_
  refine G_i2l X0 hx (pc' := 31) rfl (hb hby at_30)  ?_
  refine G_ldc2 X0 hx (pc' := 34) rfl hown (mvT hZ (hw _ (List.mem_of_getElem? (i := 1) rfl))) (hb hby at_31) ?_
  refine G_land X0 hx (pc' := 35) rfl (hb hby at_34)  ?_
  refine G_ladd X0 hx (pc' := 36) rfl (hb hby at_35)  ?_
  refine G_lstore X0 hx (pc' := 38) rfl (hb hby at_36) (L' := #[.val (.int v0), .val (.int v1), .val (.int v2), .val (.int v3), .val (.int v4), .val (.int n), .val (.long sA), .second, .val (.long sB), .second, .val (.long (sB + ((v3.toInt64) &&& (2147483647 : Int64)))), .second, .unset, .unset, .unset, .unset]) rfl ?_
  obtain ⟨sC, h_sC⟩ : ∃ sC : Int64, (sB + ((v3.toInt64) &&& (2147483647 : Int64))) = sC := ⟨_, rfl⟩
  rw [h_sC]
  refine G_lload X0 hx (pc' := 40) rfl (hb hby at_38) rfl ?_
  refine G_iload X0 hx (pc' := 42) rfl (hb hby at_40) rfl ?_
  refine G_i2l X0 hx (pc' := 43) rfl (hb hby at_42)  ?_
  refine G_ldc2 X0 hx (pc' := 46) rfl hown (mvT hZ (hw _ (List.mem_of_getElem? (i := 1) rfl))) (hb hby at_43) ?_
  refine G_land X0 hx (pc' := 47) rfl (hb hby at_46)  ?_
  refine G_ladd X0 hx (pc' := 48) rfl (hb hby at_47)  ?_
  refine G_lstore X0 hx (pc' := 50) rfl (hb hby at_48) (L' := #[.val (.int v0), .val (.int v1), .val (.int v2), .val (.int v3), .val (.int v4), .val (.int n), .val (.long sA), .second, .val (.long sB), .second, .val (.long sC), .second, .val (.long (sC + ((v4.toInt64) &&& (2147483647 : Int64)))), .second, .unset, .unset]) rfl ?_
  obtain ⟨sD, h_sD⟩ : ∃ sD : Int64, (sC + ((v4.toInt64) &&& (2147483647 : Int64))) = sD := ⟨_, rfl⟩
  rw [h_sD]
  by_cases hk0_1 : n = (0 : Int32)
  · rw [hk0_1]
    refine G_iload X0 hx (pc' := 52) rfl (hb hby at_50) rfl ?_
    obtain ⟨T1, h1, X1, e1, E1, B1, A1, st1⟩ := newAJ X0 hx hZ (hw _ (List.mem_of_getElem? (i := 2) rfl)) e0 (g := (mkF m 52 #[.val (.int v0), .val (.int v1), .val (.int v2), .val (.int v3), .val (.int v4), .val (.int (0 : Int32)), .val (.long sA), .second, .val (.long sB), .second, .val (.long sC), .second, .val (.long sD), .second, .unset, .unset] [(.int (0 : Int32))])) rfl (hb hby at_52) rfl (by decide) (cap := 0) (by decide) (by decide) (by decide) (by decide) (ad := "[J") (by decide)
    obtain ⟨b1, q1⟩ : ∃ z, z = h0.size := ⟨_, rfl⟩
    rw [← q1] at A1 B1 st1
    refine Go.st st1 ?_
    have g_b1 : n0 ≤ b1 := Nat.le_trans Z0 (Nat.le_of_eq q1.symm)
    have sz_b1 : h0.size ≤ b1 := Nat.le_trans (Nat.le_refl _) (Nat.le_of_eq q1.symm)
    have A_b1 : AJ Z h1 b1 [] := A1
    have K_1 : Keep h0 h1 [] := (Keep.refl h0 []).ext E1
    have Z_1 : n0 ≤ h1.size := Nat.le_trans Z0 K_1.1
    show Go p e below s _ _ _ T1 (mkF m 54 #[.val (.int v0), .val (.int v1), .val (.int v2), .val (.int v3), .val (.int v4), .val (.int (0 : Int32)), .val (.long sA), .second, .val (.long sB), .second, .val (.long sC), .second, .val (.long sD), .second, .unset, .unset] [(.ref b1)])
    refine G_astore X1 hx (pc' := 56) rfl (hb hby at_54) rfl (L' := #[.val (.int v0), .val (.int v1), .val (.int v2), .val (.int v3), .val (.int v4), .val (.int (0 : Int32)), .val (.long sA), .second, .val (.long sB), .second, .val (.long sC), .second, .val (.long sD), .second, .val (.ref b1), .unset]) rfl ?_
    refine G_iload X1 hx (pc' := 58) rfl (hb hby at_56) rfl ?_
    refine G_ifYes X1 hx (pc' := 67) (hb hby at_58) ((if0 _ _).trans (flt (by decide : ¬ ((0 : Int32) < (0 : Int32)))).2.2.2) (by decide) (by decide) ?_
    refine G_iload X1 hx (pc' := 69) rfl (hb hby at_67) rfl ?_
    refine G_iconst X1 hx (pc' := 70) rfl (hb hby at_69) (z := (1 : Int32)) rfl ?_
    refine G_icmpYes X1 hx (pc' := 79) (hb hby at_70) (flt (by decide : ¬ ((1 : Int32) < (0 : Int32)))).2.2.2 (by decide) (by decide) ?_
    refine G_iload X1 hx (pc' := 81) rfl (hb hby at_79) rfl ?_
    refine G_iconst X1 hx (pc' := 82) rfl (hb hby at_81) (z := (2 : Int32)) rfl ?_
    refine G_icmpYes X1 hx (pc' := 91) (hb hby at_82) (flt (by decide : ¬ ((2 : Int32) < (0 : Int32)))).2.2.2 (by decide) (by decide) ?_
    refine G_iload X1 hx (pc' := 93) rfl (hb hby at_91) rfl ?_
    refine G_iconst X1 hx (pc' := 94) rfl (hb hby at_93) (z := (3 : Int32)) rfl ?_
    refine G_icmpYes X1 hx (pc' := 103) (hb hby at_94) (flt (by decide : ¬ ((3 : Int32) < (0 : Int32)))).2.2.2 (by decide) (by decide) ?_
    refine G_aload X1 hx (pc' := 105) rfl (hb hby at_103) rfl rfl ?_
    obtain ⟨_, _, ⟨T2, L2, k2, n2⟩, -, X2, ⟨Lc2, hQ2, l2, y2, z2⟩, st2⟩ := Jvm.LawKit.callS X1 hx (y := (⟨"com/example/quern/quern/core/TreeUpdate", "mergeCount", "([J)I"⟩ : MethodName)) hown (mvT hZ (hw _ (List.mem_of_getElem? (i := 3) rfl))) (mvT hZ (hw _ (List.mem_of_getElem? (i := 4) rfl))) (mvT hZ (hw _ (List.mem_of_getElem? (i := 5) rfl))) (mvT hZ (hw _ (List.mem_of_getElem? (i := 6) rfl))) (by decide) (backOf (W := 0) (rm_merge0 l Z a0 hw [] b1 h1 n0 Z_1 A_b1) hZ (hw _ (List.mem_of_getElem? (i := 6) rfl)) (hw _ (List.mem_of_getElem? (i := 5) rfl)) (by decide) (by decide)) (g := (mkF m 105 #[.val (.int v0), .val (.int v1), .val (.int v2), .val (.int v3), .val (.int v4), .val (.int (0 : Int32)), .val (.long sA), .second, .val (.long sB), .second, .val (.long sC), .second, .val (.long sD), .second, .val (.ref b1), .unset] [(.ref b1)])) rfl (by rw [hml]; rfl) (argsL := [(.ref b1)]) (rest := []) (lenOf pd_0 rfl) rfl (by show 2 * 0 + _ ≤ _; exact Nat.le_of_eq rfl) (hb hby at_105) (fun _ _ => ⟨rfl, e1, (by decide : 1 + 0 ≤ _), (by decide : 0 + 0 ≤ _)⟩)
    dsimp only [Pt.U, Pt.locs, Pt.cells, Pt.slots] at X2 l2 y2 z2 st2 hQ2
    subst l2 y2 z2
    obtain ⟨rfl, N2q, e2⟩ := hQ2
    have N2 := Fr.app N0 N2q
    refine Go.st st2 ?_
    show Go p e below s _ _ _ T2 (mkF m 108 #[.val (.int v0), .val (.int v1), .val (.int v2), .val (.int v3), .val (.int v4), .val (.int (0 : Int32)), .val (.long sA), .second, .val (.long sB), .second, .val (.long sC), .second, .val (.long sD), .second, .val (.ref b1), .unset] [(.int (f_merge0))])
    refine G_istore X2 hx (pc' := 110) rfl (hb hby at_108) (L' := #[.val (.int v0), .val (.int v1), .val (.int v2), .val (.int v3), .val (.int v4), .val (.int (0 : Int32)), .val (.long sA), .second, .val (.long sB), .second, .val (.long sC), .second, .val (.long sD), .second, .val (.ref b1), .val (.int (f_merge0))]) rfl ?_
    refine G_iload X2 hx (pc' := 112) rfl (hb hby at_110) rfl ?_
    refine G_iload X2 hx (pc' := 114) rfl (hb hby at_112) rfl ?_
    refine G_lload X2 hx (pc' := 116) rfl (hb hby at_114) rfl ?_
    refine G_lload X2 hx (pc' := 118) rfl (hb hby at_116) rfl ?_
    refine G_lload X2 hx (pc' := 120) rfl (hb hby at_118) rfl ?_
    refine G_lload X2 hx (pc' := 122) rfl (hb hby at_120) rfl ?_
    obtain ⟨_, _, ⟨T3, L3, k3, n3⟩, -, X3, ⟨Lc3, hQ3, l3, y3, z3⟩, st3⟩ := Jvm.LawKit.callS X2 hx (y := (⟨"com/example/quern/quern/core/TreeUpdateMergeCountPinLaw", "expected", "(IJJJJ)I"⟩ : MethodName)) hown (mvT hZ (hw _ (List.mem_of_getElem? (i := 7) rfl))) (mvT hZ (hw _ (List.mem_of_getElem? (i := 8) rfl))) (mvT hZ (hw _ (List.mem_of_getElem? (i := 9) rfl))) (mvT hZ (hw _ (List.mem_of_getElem? (i := 10) rfl))) (by decide) (backOf (W := 1) (rm_exp0 l Z a0 hw [] sA sB sC sD h1 n0 Z_1 ) hZ (hw _ (List.mem_of_getElem? (i := 10) rfl)) (hw _ (List.mem_of_getElem? (i := 9) rfl)) (by decide) (by decide)) (g := (mkF m 122 #[.val (.int v0), .val (.int v1), .val (.int v2), .val (.int v3), .val (.int v4), .val (.int (0 : Int32)), .val (.long sA), .second, .val (.long sB), .second, .val (.long sC), .second, .val (.long sD), .second, .val (.ref b1), .val (.int (f_merge0))] [(.long sD), (.long sC), (.long sB), (.long sA), (.int (0 : Int32)), (.int (f_merge0))])) rfl (by rw [hml]; rfl) (argsL := [(.int (0 : Int32)), (.long sA), (.long sB), (.long sC), (.long sD)]) (rest := [(.int (f_merge0))]) (lenOf pd_1 rfl) rfl (by show 2 * 0 + _ ≤ _; exact Nat.le_of_eq rfl) (hb hby at_122) (fun _ _ => ⟨rfl, e2, (by decide : 1 + 0 ≤ _), (by decide : 0 + 0 ≤ _)⟩)
    dsimp only [Pt.U, Pt.locs, Pt.cells, Pt.slots] at X3 l3 y3 z3 st3 hQ3
    subst l3 y3 z3
    obtain ⟨rfl, N3q, e3⟩ := hQ3
    have N3 := Fr.app N2 N3q
    refine Go.st st3 ?_
    show Go p e below s _ _ _ T3 (mkF m 125 #[.val (.int v0), .val (.int v1), .val (.int v2), .val (.int v3), .val (.int v4), .val (.int (0 : Int32)), .val (.long sA), .second, .val (.long sB), .second, .val (.long sC), .second, .val (.long sD), .second, .val (.ref b1), .val (.int (f_merge0))] [(.int (f_exp0 sA sB sC sD)), (.int (f_merge0))])
    by_cases hc125_2 : (f_merge0) = (f_exp0 sA sB sC sD)
    · refine G_icmpNo X3 hx (pc' := 128) rfl (hb hby at_125) (teq hc125_2).2 ?_
      refine G_iconst X3 hx (pc' := 129) rfl (hb hby at_128) (z := (1 : Int32)) rfl ?_
      refine G_goto X3 hx (pc' := 133) (hb hby at_129)  (by decide) (by decide) ?_
      refine Go.fin X3 hlk (v := some (.int (1 : Int32))) (fun h => by rw [Bd.returns] at h; cases h) (by decide) (by decide) ?_ (fun fs hr => retN X3 hx (t := .boolean) Bd.returns (by simp) (hb hby at_133) hr)
      show Q_law Z v0 v1 v2 v3 v4 h0 n0 _ T3.heap _
      rw [e3]
      exact ⟨congrArg (fun z => some (Value.int z)) (by rw [f_law]; (try rw [h_n]); (try rw [h_sA]); (try rw [h_sB]); (try rw [h_sC]); (try rw [h_sD]); rw [if_pos hk0_1, if_pos hc125_2]), N3⟩
    · refine G_icmpYes X3 hx (pc' := 132) (hb hby at_125) (feq hc125_2).2 (by decide) (by decide) ?_
      refine G_iconst X3 hx (pc' := 133) rfl (hb hby at_132) (z := (0 : Int32)) rfl ?_
      refine Go.fin X3 hlk (v := some (.int (0 : Int32))) (fun h => by rw [Bd.returns] at h; cases h) (by decide) (by decide) ?_ (fun fs hr => retN X3 hx (t := .boolean) Bd.returns (by simp) (hb hby at_133) hr)
      show Q_law Z v0 v1 v2 v3 v4 h0 n0 _ T3.heap _
      rw [e3]
      exact ⟨congrArg (fun z => some (Value.int z)) (by rw [f_law]; (try rw [h_n]); (try rw [h_sA]); (try rw [h_sB]); (try rw [h_sC]); (try rw [h_sD]); rw [if_pos hk0_1, if_neg hc125_2]), N3⟩
  · by_cases hk1_3 : n = (1 : Int32)
    · rw [hk1_3]
      refine G_iload X0 hx (pc' := 52) rfl (hb hby at_50) rfl ?_
      obtain ⟨T4, h4, X4, e4, E4, B4, A4, st4⟩ := newAJ X0 hx hZ (hw _ (List.mem_of_getElem? (i := 2) rfl)) e0 (g := (mkF m 52 #[.val (.int v0), .val (.int v1), .val (.int v2), .val (.int v3), .val (.int v4), .val (.int (1 : Int32)), .val (.long sA), .second, .val (.long sB), .second, .val (.long sC), .second, .val (.long sD), .second, .unset, .unset] [(.int (1 : Int32))])) rfl (hb hby at_52) rfl (by decide) (cap := 1) (by decide) (by decide) (by decide) (by decide) (ad := "[J") (by decide)
      obtain ⟨b4, q4⟩ : ∃ z, z = h0.size := ⟨_, rfl⟩
      rw [← q4] at A4 B4 st4
      refine Go.st st4 ?_
      have g_b4 : n0 ≤ b4 := Nat.le_trans Z0 (Nat.le_of_eq q4.symm)
      have sz_b4 : h0.size ≤ b4 := Nat.le_trans (Nat.le_refl _) (Nat.le_of_eq q4.symm)
      have A_b4 : AJ Z h4 b4 [(0 : Int64)] := A4
      have K_4 : Keep h0 h4 [] := (Keep.refl h0 []).ext E4
      have Z_4 : n0 ≤ h4.size := Nat.le_trans Z0 K_4.1
      show Go p e below s _ _ _ T4 (mkF m 54 #[.val (.int v0), .val (.int v1), .val (.int v2), .val (.int v3), .val (.int v4), .val (.int (1 : Int32)), .val (.long sA), .second, .val (.long sB), .second, .val (.long sC), .second, .val (.long sD), .second, .unset, .unset] [(.ref b4)])
      refine G_astore X4 hx (pc' := 56) rfl (hb hby at_54) rfl (L' := #[.val (.int v0), .val (.int v1), .val (.int v2), .val (.int v3), .val (.int v4), .val (.int (1 : Int32)), .val (.long sA), .second, .val (.long sB), .second, .val (.long sC), .second, .val (.long sD), .second, .val (.ref b4), .unset]) rfl ?_
      refine G_iload X4 hx (pc' := 58) rfl (hb hby at_56) rfl ?_
      refine G_ifNo X4 hx (pc' := 61) rfl (hb hby at_58) ((if0 _ _).trans (tlt (by decide : (0 : Int32) < (1 : Int32))).2.2.2) ?_
      refine G_aload X4 hx (pc' := 63) rfl (hb hby at_61) rfl rfl ?_
      refine G_iconst X4 hx (pc' := 64) rfl (hb hby at_63) (z := (0 : Int32)) rfl ?_
      refine G_lload X4 hx (pc' := 66) rfl (hb hby at_64) rfl ?_
      obtain ⟨T5, h5, X5, e5, W5, A5, st5⟩ := stAJ X4 hx hZ e4 A_b4 (j := (0 : Int32)) (by decide) (show Int32.toNatClampNeg 0 < 1 from by decide) (g := (mkF m 66 #[.val (.int v0), .val (.int v1), .val (.int v2), .val (.int v3), .val (.int v4), .val (.int (1 : Int32)), .val (.long sA), .second, .val (.long sB), .second, .val (.long sC), .second, .val (.long sD), .second, .val (.ref b4), .unset] [(.long sA), (.int (0 : Int32)), (.ref b4)])) rfl rfl (hb hby at_66)
      refine Go.st st5 ?_
      have E_b4_5 := B4.wr W5
      have A_b4_5 : AJ Z h5 b4 [sA] := A5
      have K_5 : Keep h0 h5 [] := K_4.wr W5 (Or.inr sz_b4)
      have Z_5 : n0 ≤ h5.size := Nat.le_trans Z0 K_5.1
      have N5 := Fr.snoc X5 N0 g_b4
      show Go p e below s _ _ _ T5 (mkF m 67 #[.val (.int v0), .val (.int v1), .val (.int v2), .val (.int v3), .val (.int v4), .val (.int (1 : Int32)), .val (.long sA), .second, .val (.long sB), .second, .val (.long sC), .second, .val (.long sD), .second, .val (.ref b4), .unset] [])
      refine G_iload X5 hx (pc' := 69) rfl (hb hby at_67) rfl ?_
      refine G_iconst X5 hx (pc' := 70) rfl (hb hby at_69) (z := (1 : Int32)) rfl ?_
      refine G_icmpYes X5 hx (pc' := 79) (hb hby at_70) (flt (by decide : ¬ ((1 : Int32) < (1 : Int32)))).2.2.2 (by decide) (by decide) ?_
      refine G_iload X5 hx (pc' := 81) rfl (hb hby at_79) rfl ?_
      refine G_iconst X5 hx (pc' := 82) rfl (hb hby at_81) (z := (2 : Int32)) rfl ?_
      refine G_icmpYes X5 hx (pc' := 91) (hb hby at_82) (flt (by decide : ¬ ((2 : Int32) < (1 : Int32)))).2.2.2 (by decide) (by decide) ?_
      refine G_iload X5 hx (pc' := 93) rfl (hb hby at_91) rfl ?_
      refine G_iconst X5 hx (pc' := 94) rfl (hb hby at_93) (z := (3 : Int32)) rfl ?_
      refine G_icmpYes X5 hx (pc' := 103) (hb hby at_94) (flt (by decide : ¬ ((3 : Int32) < (1 : Int32)))).2.2.2 (by decide) (by decide) ?_
      refine G_aload X5 hx (pc' := 105) rfl (hb hby at_103) rfl rfl ?_
      obtain ⟨_, _, ⟨T6, L6, k6, n6⟩, -, X6, ⟨Lc6, hQ6, l6, y6, z6⟩, st6⟩ := Jvm.LawKit.callS X5 hx (y := (⟨"com/example/quern/quern/core/TreeUpdate", "mergeCount", "([J)I"⟩ : MethodName)) hown (mvT hZ (hw _ (List.mem_of_getElem? (i := 3) rfl))) (mvT hZ (hw _ (List.mem_of_getElem? (i := 4) rfl))) (mvT hZ (hw _ (List.mem_of_getElem? (i := 5) rfl))) (mvT hZ (hw _ (List.mem_of_getElem? (i := 6) rfl))) (by decide) (backOf (W := 0) (rm_merge1 l Z a0 hw [] b4 sA h5 n0 Z_5 A_b4_5) hZ (hw _ (List.mem_of_getElem? (i := 6) rfl)) (hw _ (List.mem_of_getElem? (i := 5) rfl)) (by decide) (by decide)) (g := (mkF m 105 #[.val (.int v0), .val (.int v1), .val (.int v2), .val (.int v3), .val (.int v4), .val (.int (1 : Int32)), .val (.long sA), .second, .val (.long sB), .second, .val (.long sC), .second, .val (.long sD), .second, .val (.ref b4), .unset] [(.ref b4)])) rfl (by rw [hml]; rfl) (argsL := [(.ref b4)]) (rest := []) (lenOf pd_0 rfl) rfl (by show 2 * 0 + _ ≤ _; exact Nat.le_of_eq rfl) (hb hby at_105) (fun _ _ => ⟨rfl, e5, (by decide : 1 + 0 ≤ _), (by decide : 1 + 0 ≤ _)⟩)
      dsimp only [Pt.U, Pt.locs, Pt.cells, Pt.slots] at X6 l6 y6 z6 st6 hQ6
      subst l6 y6 z6
      obtain ⟨rfl, N6q, e6⟩ := hQ6
      have N6 := Fr.app N5 N6q
      refine Go.st st6 ?_
      show Go p e below s _ _ _ T6 (mkF m 108 #[.val (.int v0), .val (.int v1), .val (.int v2), .val (.int v3), .val (.int v4), .val (.int (1 : Int32)), .val (.long sA), .second, .val (.long sB), .second, .val (.long sC), .second, .val (.long sD), .second, .val (.ref b4), .unset] [(.int (f_merge1 sA))])
      refine G_istore X6 hx (pc' := 110) rfl (hb hby at_108) (L' := #[.val (.int v0), .val (.int v1), .val (.int v2), .val (.int v3), .val (.int v4), .val (.int (1 : Int32)), .val (.long sA), .second, .val (.long sB), .second, .val (.long sC), .second, .val (.long sD), .second, .val (.ref b4), .val (.int (f_merge1 sA))]) rfl ?_
      refine G_iload X6 hx (pc' := 112) rfl (hb hby at_110) rfl ?_
      refine G_iload X6 hx (pc' := 114) rfl (hb hby at_112) rfl ?_
      refine G_lload X6 hx (pc' := 116) rfl (hb hby at_114) rfl ?_
      refine G_lload X6 hx (pc' := 118) rfl (hb hby at_116) rfl ?_
      refine G_lload X6 hx (pc' := 120) rfl (hb hby at_118) rfl ?_
      refine G_lload X6 hx (pc' := 122) rfl (hb hby at_120) rfl ?_
      obtain ⟨_, _, ⟨T7, L7, k7, n7⟩, -, X7, ⟨Lc7, hQ7, l7, y7, z7⟩, st7⟩ := Jvm.LawKit.callS X6 hx (y := (⟨"com/example/quern/quern/core/TreeUpdateMergeCountPinLaw", "expected", "(IJJJJ)I"⟩ : MethodName)) hown (mvT hZ (hw _ (List.mem_of_getElem? (i := 7) rfl))) (mvT hZ (hw _ (List.mem_of_getElem? (i := 8) rfl))) (mvT hZ (hw _ (List.mem_of_getElem? (i := 9) rfl))) (mvT hZ (hw _ (List.mem_of_getElem? (i := 10) rfl))) (by decide) (backOf (W := 1) (rm_exp1 l Z a0 hw [] sA sB sC sD h5 n0 Z_5 ) hZ (hw _ (List.mem_of_getElem? (i := 10) rfl)) (hw _ (List.mem_of_getElem? (i := 9) rfl)) (by decide) (by decide)) (g := (mkF m 122 #[.val (.int v0), .val (.int v1), .val (.int v2), .val (.int v3), .val (.int v4), .val (.int (1 : Int32)), .val (.long sA), .second, .val (.long sB), .second, .val (.long sC), .second, .val (.long sD), .second, .val (.ref b4), .val (.int (f_merge1 sA))] [(.long sD), (.long sC), (.long sB), (.long sA), (.int (1 : Int32)), (.int (f_merge1 sA))])) rfl (by rw [hml]; rfl) (argsL := [(.int (1 : Int32)), (.long sA), (.long sB), (.long sC), (.long sD)]) (rest := [(.int (f_merge1 sA))]) (lenOf pd_1 rfl) rfl (by show 2 * 0 + _ ≤ _; exact Nat.le_of_eq rfl) (hb hby at_122) (fun _ _ => ⟨rfl, e6, (by decide : 1 + 0 ≤ _), (by decide : 1 + 0 ≤ _)⟩)
      dsimp only [Pt.U, Pt.locs, Pt.cells, Pt.slots] at X7 l7 y7 z7 st7 hQ7
      subst l7 y7 z7
      obtain ⟨rfl, N7q, e7⟩ := hQ7
      have N7 := Fr.app N6 N7q
      refine Go.st st7 ?_
      show Go p e below s _ _ _ T7 (mkF m 125 #[.val (.int v0), .val (.int v1), .val (.int v2), .val (.int v3), .val (.int v4), .val (.int (1 : Int32)), .val (.long sA), .second, .val (.long sB), .second, .val (.long sC), .second, .val (.long sD), .second, .val (.ref b4), .val (.int (f_merge1 sA))] [(.int (f_exp1 sA sB sC sD)), (.int (f_merge1 sA))])
      by_cases hc125_4 : (f_merge1 sA) = (f_exp1 sA sB sC sD)
      · refine G_icmpNo X7 hx (pc' := 128) rfl (hb hby at_125) (teq hc125_4).2 ?_
        refine G_iconst X7 hx (pc' := 129) rfl (hb hby at_128) (z := (1 : Int32)) rfl ?_
        refine G_goto X7 hx (pc' := 133) (hb hby at_129)  (by decide) (by decide) ?_
        refine Go.fin X7 hlk (v := some (.int (1 : Int32))) (fun h => by rw [Bd.returns] at h; cases h) (by decide) (by decide) ?_ (fun fs hr => retN X7 hx (t := .boolean) Bd.returns (by simp) (hb hby at_133) hr)
        show Q_law Z v0 v1 v2 v3 v4 h0 n0 _ T7.heap _
        rw [e7]
        exact ⟨congrArg (fun z => some (Value.int z)) (by rw [f_law]; (try rw [h_n]); (try rw [h_sA]); (try rw [h_sB]); (try rw [h_sC]); (try rw [h_sD]); rw [if_neg hk0_1, if_pos hk1_3, if_pos hc125_4]), N7⟩
      · refine G_icmpYes X7 hx (pc' := 132) (hb hby at_125) (feq hc125_4).2 (by decide) (by decide) ?_
        refine G_iconst X7 hx (pc' := 133) rfl (hb hby at_132) (z := (0 : Int32)) rfl ?_
        refine Go.fin X7 hlk (v := some (.int (0 : Int32))) (fun h => by rw [Bd.returns] at h; cases h) (by decide) (by decide) ?_ (fun fs hr => retN X7 hx (t := .boolean) Bd.returns (by simp) (hb hby at_133) hr)
        show Q_law Z v0 v1 v2 v3 v4 h0 n0 _ T7.heap _
        rw [e7]
        exact ⟨congrArg (fun z => some (Value.int z)) (by rw [f_law]; (try rw [h_n]); (try rw [h_sA]); (try rw [h_sB]); (try rw [h_sC]); (try rw [h_sD]); rw [if_neg hk0_1, if_pos hk1_3, if_neg hc125_4]), N7⟩
    · by_cases hk2_5 : n = (2 : Int32)
      · rw [hk2_5]
        refine G_iload X0 hx (pc' := 52) rfl (hb hby at_50) rfl ?_
        obtain ⟨T8, h8, X8, e8, E8, B8, A8, st8⟩ := newAJ X0 hx hZ (hw _ (List.mem_of_getElem? (i := 2) rfl)) e0 (g := (mkF m 52 #[.val (.int v0), .val (.int v1), .val (.int v2), .val (.int v3), .val (.int v4), .val (.int (2 : Int32)), .val (.long sA), .second, .val (.long sB), .second, .val (.long sC), .second, .val (.long sD), .second, .unset, .unset] [(.int (2 : Int32))])) rfl (hb hby at_52) rfl (by decide) (cap := 2) (by decide) (by decide) (by decide) (by decide) (ad := "[J") (by decide)
        obtain ⟨b8, q8⟩ : ∃ z, z = h0.size := ⟨_, rfl⟩
        rw [← q8] at A8 B8 st8
        refine Go.st st8 ?_
        have g_b8 : n0 ≤ b8 := Nat.le_trans Z0 (Nat.le_of_eq q8.symm)
        have sz_b8 : h0.size ≤ b8 := Nat.le_trans (Nat.le_refl _) (Nat.le_of_eq q8.symm)
        have A_b8 : AJ Z h8 b8 [(0 : Int64), (0 : Int64)] := A8
        have K_8 : Keep h0 h8 [] := (Keep.refl h0 []).ext E8
        have Z_8 : n0 ≤ h8.size := Nat.le_trans Z0 K_8.1
        show Go p e below s _ _ _ T8 (mkF m 54 #[.val (.int v0), .val (.int v1), .val (.int v2), .val (.int v3), .val (.int v4), .val (.int (2 : Int32)), .val (.long sA), .second, .val (.long sB), .second, .val (.long sC), .second, .val (.long sD), .second, .unset, .unset] [(.ref b8)])
        refine G_astore X8 hx (pc' := 56) rfl (hb hby at_54) rfl (L' := #[.val (.int v0), .val (.int v1), .val (.int v2), .val (.int v3), .val (.int v4), .val (.int (2 : Int32)), .val (.long sA), .second, .val (.long sB), .second, .val (.long sC), .second, .val (.long sD), .second, .val (.ref b8), .unset]) rfl ?_
        refine G_iload X8 hx (pc' := 58) rfl (hb hby at_56) rfl ?_
        refine G_ifNo X8 hx (pc' := 61) rfl (hb hby at_58) ((if0 _ _).trans (tlt (by decide : (0 : Int32) < (2 : Int32))).2.2.2) ?_
        refine G_aload X8 hx (pc' := 63) rfl (hb hby at_61) rfl rfl ?_
        refine G_iconst X8 hx (pc' := 64) rfl (hb hby at_63) (z := (0 : Int32)) rfl ?_
        refine G_lload X8 hx (pc' := 66) rfl (hb hby at_64) rfl ?_
        obtain ⟨T9, h9, X9, e9, W9, A9, st9⟩ := stAJ X8 hx hZ e8 A_b8 (j := (0 : Int32)) (by decide) (show Int32.toNatClampNeg 0 < 2 from by decide) (g := (mkF m 66 #[.val (.int v0), .val (.int v1), .val (.int v2), .val (.int v3), .val (.int v4), .val (.int (2 : Int32)), .val (.long sA), .second, .val (.long sB), .second, .val (.long sC), .second, .val (.long sD), .second, .val (.ref b8), .unset] [(.long sA), (.int (0 : Int32)), (.ref b8)])) rfl rfl (hb hby at_66)
        refine Go.st st9 ?_
        have E_b8_9 := B8.wr W9
        have A_b8_9 : AJ Z h9 b8 [sA, (0 : Int64)] := A9
        have K_9 : Keep h0 h9 [] := K_8.wr W9 (Or.inr sz_b8)
        have Z_9 : n0 ≤ h9.size := Nat.le_trans Z0 K_9.1
        have N9 := Fr.snoc X9 N0 g_b8
        show Go p e below s _ _ _ T9 (mkF m 67 #[.val (.int v0), .val (.int v1), .val (.int v2), .val (.int v3), .val (.int v4), .val (.int (2 : Int32)), .val (.long sA), .second, .val (.long sB), .second, .val (.long sC), .second, .val (.long sD), .second, .val (.ref b8), .unset] [])
        refine G_iload X9 hx (pc' := 69) rfl (hb hby at_67) rfl ?_
        refine G_iconst X9 hx (pc' := 70) rfl (hb hby at_69) (z := (1 : Int32)) rfl ?_
        refine G_icmpNo X9 hx (pc' := 73) rfl (hb hby at_70) (tlt (by decide : (1 : Int32) < (2 : Int32))).2.2.2 ?_
        refine G_aload X9 hx (pc' := 75) rfl (hb hby at_73) rfl rfl ?_
        refine G_iconst X9 hx (pc' := 76) rfl (hb hby at_75) (z := (1 : Int32)) rfl ?_
        refine G_lload X9 hx (pc' := 78) rfl (hb hby at_76) rfl ?_
        obtain ⟨T10, h10, X10, e10, W10, A10, st10⟩ := stAJ X9 hx hZ e9 A_b8_9 (j := (1 : Int32)) (by decide) (show Int32.toNatClampNeg 1 < 2 from by decide) (g := (mkF m 78 #[.val (.int v0), .val (.int v1), .val (.int v2), .val (.int v3), .val (.int v4), .val (.int (2 : Int32)), .val (.long sA), .second, .val (.long sB), .second, .val (.long sC), .second, .val (.long sD), .second, .val (.ref b8), .unset] [(.long sB), (.int (1 : Int32)), (.ref b8)])) rfl rfl (hb hby at_78)
        refine Go.st st10 ?_
        have E_b8_10 := E_b8_9.wr W10
        have A_b8_10 : AJ Z h10 b8 [sA, sB] := A10
        have K_10 : Keep h0 h10 [] := K_9.wr W10 (Or.inr sz_b8)
        have Z_10 : n0 ≤ h10.size := Nat.le_trans Z0 K_10.1
        have N10 := Fr.snoc X10 N9 g_b8
        show Go p e below s _ _ _ T10 (mkF m 79 #[.val (.int v0), .val (.int v1), .val (.int v2), .val (.int v3), .val (.int v4), .val (.int (2 : Int32)), .val (.long sA), .second, .val (.long sB), .second, .val (.long sC), .second, .val (.long sD), .second, .val (.ref b8), .unset] [])
        refine G_iload X10 hx (pc' := 81) rfl (hb hby at_79) rfl ?_
        refine G_iconst X10 hx (pc' := 82) rfl (hb hby at_81) (z := (2 : Int32)) rfl ?_
        refine G_icmpYes X10 hx (pc' := 91) (hb hby at_82) (flt (by decide : ¬ ((2 : Int32) < (2 : Int32)))).2.2.2 (by decide) (by decide) ?_
        refine G_iload X10 hx (pc' := 93) rfl (hb hby at_91) rfl ?_
        refine G_iconst X10 hx (pc' := 94) rfl (hb hby at_93) (z := (3 : Int32)) rfl ?_
        refine G_icmpYes X10 hx (pc' := 103) (hb hby at_94) (flt (by decide : ¬ ((3 : Int32) < (2 : Int32)))).2.2.2 (by decide) (by decide) ?_
        refine G_aload X10 hx (pc' := 105) rfl (hb hby at_103) rfl rfl ?_
        obtain ⟨_, _, ⟨T11, L11, k11, n11⟩, -, X11, ⟨Lc11, hQ11, l11, y11, z11⟩, st11⟩ := Jvm.LawKit.callS X10 hx (y := (⟨"com/example/quern/quern/core/TreeUpdate", "mergeCount", "([J)I"⟩ : MethodName)) hown (mvT hZ (hw _ (List.mem_of_getElem? (i := 3) rfl))) (mvT hZ (hw _ (List.mem_of_getElem? (i := 4) rfl))) (mvT hZ (hw _ (List.mem_of_getElem? (i := 5) rfl))) (mvT hZ (hw _ (List.mem_of_getElem? (i := 6) rfl))) (by decide) (backOf (W := 0) (rm_merge2 l Z a0 hw [] b8 sA sB h10 n0 Z_10 A_b8_10) hZ (hw _ (List.mem_of_getElem? (i := 6) rfl)) (hw _ (List.mem_of_getElem? (i := 5) rfl)) (by decide) (by decide)) (g := (mkF m 105 #[.val (.int v0), .val (.int v1), .val (.int v2), .val (.int v3), .val (.int v4), .val (.int (2 : Int32)), .val (.long sA), .second, .val (.long sB), .second, .val (.long sC), .second, .val (.long sD), .second, .val (.ref b8), .unset] [(.ref b8)])) rfl (by rw [hml]; rfl) (argsL := [(.ref b8)]) (rest := []) (lenOf pd_0 rfl) rfl (by show 2 * 0 + _ ≤ _; exact Nat.le_of_eq rfl) (hb hby at_105) (fun _ _ => ⟨rfl, e10, (by decide : 1 + 0 ≤ _), (by decide : 2 + 0 ≤ _)⟩)
        dsimp only [Pt.U, Pt.locs, Pt.cells, Pt.slots] at X11 l11 y11 z11 st11 hQ11
        subst l11 y11 z11
        obtain ⟨rfl, N11q, e11⟩ := hQ11
        have N11 := Fr.app N10 N11q
        refine Go.st st11 ?_
        show Go p e below s _ _ _ T11 (mkF m 108 #[.val (.int v0), .val (.int v1), .val (.int v2), .val (.int v3), .val (.int v4), .val (.int (2 : Int32)), .val (.long sA), .second, .val (.long sB), .second, .val (.long sC), .second, .val (.long sD), .second, .val (.ref b8), .unset] [(.int (f_merge2 sA sB))])
        refine G_istore X11 hx (pc' := 110) rfl (hb hby at_108) (L' := #[.val (.int v0), .val (.int v1), .val (.int v2), .val (.int v3), .val (.int v4), .val (.int (2 : Int32)), .val (.long sA), .second, .val (.long sB), .second, .val (.long sC), .second, .val (.long sD), .second, .val (.ref b8), .val (.int (f_merge2 sA sB))]) rfl ?_
        refine G_iload X11 hx (pc' := 112) rfl (hb hby at_110) rfl ?_
        refine G_iload X11 hx (pc' := 114) rfl (hb hby at_112) rfl ?_
        refine G_lload X11 hx (pc' := 116) rfl (hb hby at_114) rfl ?_
        refine G_lload X11 hx (pc' := 118) rfl (hb hby at_116) rfl ?_
        refine G_lload X11 hx (pc' := 120) rfl (hb hby at_118) rfl ?_
        refine G_lload X11 hx (pc' := 122) rfl (hb hby at_120) rfl ?_
        obtain ⟨_, _, ⟨T12, L12, k12, n12⟩, -, X12, ⟨Lc12, hQ12, l12, y12, z12⟩, st12⟩ := Jvm.LawKit.callS X11 hx (y := (⟨"com/example/quern/quern/core/TreeUpdateMergeCountPinLaw", "expected", "(IJJJJ)I"⟩ : MethodName)) hown (mvT hZ (hw _ (List.mem_of_getElem? (i := 7) rfl))) (mvT hZ (hw _ (List.mem_of_getElem? (i := 8) rfl))) (mvT hZ (hw _ (List.mem_of_getElem? (i := 9) rfl))) (mvT hZ (hw _ (List.mem_of_getElem? (i := 10) rfl))) (by decide) (backOf (W := 1) (rm_exp2 l Z a0 hw [] sA sB sC sD h10 n0 Z_10 ) hZ (hw _ (List.mem_of_getElem? (i := 10) rfl)) (hw _ (List.mem_of_getElem? (i := 9) rfl)) (by decide) (by decide)) (g := (mkF m 122 #[.val (.int v0), .val (.int v1), .val (.int v2), .val (.int v3), .val (.int v4), .val (.int (2 : Int32)), .val (.long sA), .second, .val (.long sB), .second, .val (.long sC), .second, .val (.long sD), .second, .val (.ref b8), .val (.int (f_merge2 sA sB))] [(.long sD), (.long sC), (.long sB), (.long sA), (.int (2 : Int32)), (.int (f_merge2 sA sB))])) rfl (by rw [hml]; rfl) (argsL := [(.int (2 : Int32)), (.long sA), (.long sB), (.long sC), (.long sD)]) (rest := [(.int (f_merge2 sA sB))]) (lenOf pd_1 rfl) rfl (by show 2 * 0 + _ ≤ _; exact Nat.le_of_eq rfl) (hb hby at_122) (fun _ _ => ⟨rfl, e11, (by decide : 1 + 0 ≤ _), (by decide : 2 + 0 ≤ _)⟩)
        dsimp only [Pt.U, Pt.locs, Pt.cells, Pt.slots] at X12 l12 y12 z12 st12 hQ12
        subst l12 y12 z12
        obtain ⟨rfl, N12q, e12⟩ := hQ12
        have N12 := Fr.app N11 N12q
        refine Go.st st12 ?_
        show Go p e below s _ _ _ T12 (mkF m 125 #[.val (.int v0), .val (.int v1), .val (.int v2), .val (.int v3), .val (.int v4), .val (.int (2 : Int32)), .val (.long sA), .second, .val (.long sB), .second, .val (.long sC), .second, .val (.long sD), .second, .val (.ref b8), .val (.int (f_merge2 sA sB))] [(.int (f_exp2 sA sB sC sD)), (.int (f_merge2 sA sB))])
        by_cases hc125_6 : (f_merge2 sA sB) = (f_exp2 sA sB sC sD)
        · refine G_icmpNo X12 hx (pc' := 128) rfl (hb hby at_125) (teq hc125_6).2 ?_
          refine G_iconst X12 hx (pc' := 129) rfl (hb hby at_128) (z := (1 : Int32)) rfl ?_
          refine G_goto X12 hx (pc' := 133) (hb hby at_129)  (by decide) (by decide) ?_
          refine Go.fin X12 hlk (v := some (.int (1 : Int32))) (fun h => by rw [Bd.returns] at h; cases h) (by decide) (by decide) ?_ (fun fs hr => retN X12 hx (t := .boolean) Bd.returns (by simp) (hb hby at_133) hr)
          show Q_law Z v0 v1 v2 v3 v4 h0 n0 _ T12.heap _
          rw [e12]
          exact ⟨congrArg (fun z => some (Value.int z)) (by rw [f_law]; (try rw [h_n]); (try rw [h_sA]); (try rw [h_sB]); (try rw [h_sC]); (try rw [h_sD]); rw [if_neg hk0_1, if_neg hk1_3, if_pos hk2_5, if_pos hc125_6]), N12⟩
        · refine G_icmpYes X12 hx (pc' := 132) (hb hby at_125) (feq hc125_6).2 (by decide) (by decide) ?_
          refine G_iconst X12 hx (pc' := 133) rfl (hb hby at_132) (z := (0 : Int32)) rfl ?_
          refine Go.fin X12 hlk (v := some (.int (0 : Int32))) (fun h => by rw [Bd.returns] at h; cases h) (by decide) (by decide) ?_ (fun fs hr => retN X12 hx (t := .boolean) Bd.returns (by simp) (hb hby at_133) hr)
          show Q_law Z v0 v1 v2 v3 v4 h0 n0 _ T12.heap _
          rw [e12]
          exact ⟨congrArg (fun z => some (Value.int z)) (by rw [f_law]; (try rw [h_n]); (try rw [h_sA]); (try rw [h_sB]); (try rw [h_sC]); (try rw [h_sD]); rw [if_neg hk0_1, if_neg hk1_3, if_pos hk2_5, if_neg hc125_6]), N12⟩
      · by_cases hk3_7 : n = (3 : Int32)
        · rw [hk3_7]
          refine G_iload X0 hx (pc' := 52) rfl (hb hby at_50) rfl ?_
          obtain ⟨T13, h13, X13, e13, E13, B13, A13, st13⟩ := newAJ X0 hx hZ (hw _ (List.mem_of_getElem? (i := 2) rfl)) e0 (g := (mkF m 52 #[.val (.int v0), .val (.int v1), .val (.int v2), .val (.int v3), .val (.int v4), .val (.int (3 : Int32)), .val (.long sA), .second, .val (.long sB), .second, .val (.long sC), .second, .val (.long sD), .second, .unset, .unset] [(.int (3 : Int32))])) rfl (hb hby at_52) rfl (by decide) (cap := 3) (by decide) (by decide) (by decide) (by decide) (ad := "[J") (by decide)
          obtain ⟨b13, q13⟩ : ∃ z, z = h0.size := ⟨_, rfl⟩
          rw [← q13] at A13 B13 st13
          refine Go.st st13 ?_
          have g_b13 : n0 ≤ b13 := Nat.le_trans Z0 (Nat.le_of_eq q13.symm)
          have sz_b13 : h0.size ≤ b13 := Nat.le_trans (Nat.le_refl _) (Nat.le_of_eq q13.symm)
          have A_b13 : AJ Z h13 b13 [(0 : Int64), (0 : Int64), (0 : Int64)] := A13
          have K_13 : Keep h0 h13 [] := (Keep.refl h0 []).ext E13
          have Z_13 : n0 ≤ h13.size := Nat.le_trans Z0 K_13.1
          show Go p e below s _ _ _ T13 (mkF m 54 #[.val (.int v0), .val (.int v1), .val (.int v2), .val (.int v3), .val (.int v4), .val (.int (3 : Int32)), .val (.long sA), .second, .val (.long sB), .second, .val (.long sC), .second, .val (.long sD), .second, .unset, .unset] [(.ref b13)])
          refine G_astore X13 hx (pc' := 56) rfl (hb hby at_54) rfl (L' := #[.val (.int v0), .val (.int v1), .val (.int v2), .val (.int v3), .val (.int v4), .val (.int (3 : Int32)), .val (.long sA), .second, .val (.long sB), .second, .val (.long sC), .second, .val (.long sD), .second, .val (.ref b13), .unset]) rfl ?_
          refine G_iload X13 hx (pc' := 58) rfl (hb hby at_56) rfl ?_
          refine G_ifNo X13 hx (pc' := 61) rfl (hb hby at_58) ((if0 _ _).trans (tlt (by decide : (0 : Int32) < (3 : Int32))).2.2.2) ?_
          refine G_aload X13 hx (pc' := 63) rfl (hb hby at_61) rfl rfl ?_
          refine G_iconst X13 hx (pc' := 64) rfl (hb hby at_63) (z := (0 : Int32)) rfl ?_
          refine G_lload X13 hx (pc' := 66) rfl (hb hby at_64) rfl ?_
          obtain ⟨T14, h14, X14, e14, W14, A14, st14⟩ := stAJ X13 hx hZ e13 A_b13 (j := (0 : Int32)) (by decide) (show Int32.toNatClampNeg 0 < 3 from by decide) (g := (mkF m 66 #[.val (.int v0), .val (.int v1), .val (.int v2), .val (.int v3), .val (.int v4), .val (.int (3 : Int32)), .val (.long sA), .second, .val (.long sB), .second, .val (.long sC), .second, .val (.long sD), .second, .val (.ref b13), .unset] [(.long sA), (.int (0 : Int32)), (.ref b13)])) rfl rfl (hb hby at_66)
          refine Go.st st14 ?_
          have E_b13_14 := B13.wr W14
          have A_b13_14 : AJ Z h14 b13 [sA, (0 : Int64), (0 : Int64)] := A14
          have K_14 : Keep h0 h14 [] := K_13.wr W14 (Or.inr sz_b13)
          have Z_14 : n0 ≤ h14.size := Nat.le_trans Z0 K_14.1
          have N14 := Fr.snoc X14 N0 g_b13
          show Go p e below s _ _ _ T14 (mkF m 67 #[.val (.int v0), .val (.int v1), .val (.int v2), .val (.int v3), .val (.int v4), .val (.int (3 : Int32)), .val (.long sA), .second, .val (.long sB), .second, .val (.long sC), .second, .val (.long sD), .second, .val (.ref b13), .unset] [])
          refine G_iload X14 hx (pc' := 69) rfl (hb hby at_67) rfl ?_
          refine G_iconst X14 hx (pc' := 70) rfl (hb hby at_69) (z := (1 : Int32)) rfl ?_
          refine G_icmpNo X14 hx (pc' := 73) rfl (hb hby at_70) (tlt (by decide : (1 : Int32) < (3 : Int32))).2.2.2 ?_
          refine G_aload X14 hx (pc' := 75) rfl (hb hby at_73) rfl rfl ?_
          refine G_iconst X14 hx (pc' := 76) rfl (hb hby at_75) (z := (1 : Int32)) rfl ?_
          refine G_lload X14 hx (pc' := 78) rfl (hb hby at_76) rfl ?_
          obtain ⟨T15, h15, X15, e15, W15, A15, st15⟩ := stAJ X14 hx hZ e14 A_b13_14 (j := (1 : Int32)) (by decide) (show Int32.toNatClampNeg 1 < 3 from by decide) (g := (mkF m 78 #[.val (.int v0), .val (.int v1), .val (.int v2), .val (.int v3), .val (.int v4), .val (.int (3 : Int32)), .val (.long sA), .second, .val (.long sB), .second, .val (.long sC), .second, .val (.long sD), .second, .val (.ref b13), .unset] [(.long sB), (.int (1 : Int32)), (.ref b13)])) rfl rfl (hb hby at_78)
          refine Go.st st15 ?_
          have E_b13_15 := E_b13_14.wr W15
          have A_b13_15 : AJ Z h15 b13 [sA, sB, (0 : Int64)] := A15
          have K_15 : Keep h0 h15 [] := K_14.wr W15 (Or.inr sz_b13)
          have Z_15 : n0 ≤ h15.size := Nat.le_trans Z0 K_15.1
          have N15 := Fr.snoc X15 N14 g_b13
          show Go p e below s _ _ _ T15 (mkF m 79 #[.val (.int v0), .val (.int v1), .val (.int v2), .val (.int v3), .val (.int v4), .val (.int (3 : Int32)), .val (.long sA), .second, .val (.long sB), .second, .val (.long sC), .second, .val (.long sD), .second, .val (.ref b13), .unset] [])
          refine G_iload X15 hx (pc' := 81) rfl (hb hby at_79) rfl ?_
          refine G_iconst X15 hx (pc' := 82) rfl (hb hby at_81) (z := (2 : Int32)) rfl ?_
          refine G_icmpNo X15 hx (pc' := 85) rfl (hb hby at_82) (tlt (by decide : (2 : Int32) < (3 : Int32))).2.2.2 ?_
          refine G_aload X15 hx (pc' := 87) rfl (hb hby at_85) rfl rfl ?_
          refine G_iconst X15 hx (pc' := 88) rfl (hb hby at_87) (z := (2 : Int32)) rfl ?_
          refine G_lload X15 hx (pc' := 90) rfl (hb hby at_88) rfl ?_
          obtain ⟨T16, h16, X16, e16, W16, A16, st16⟩ := stAJ X15 hx hZ e15 A_b13_15 (j := (2 : Int32)) (by decide) (show Int32.toNatClampNeg 2 < 3 from by decide) (g := (mkF m 90 #[.val (.int v0), .val (.int v1), .val (.int v2), .val (.int v3), .val (.int v4), .val (.int (3 : Int32)), .val (.long sA), .second, .val (.long sB), .second, .val (.long sC), .second, .val (.long sD), .second, .val (.ref b13), .unset] [(.long sC), (.int (2 : Int32)), (.ref b13)])) rfl rfl (hb hby at_90)
          refine Go.st st16 ?_
          have E_b13_16 := E_b13_15.wr W16
          have A_b13_16 : AJ Z h16 b13 [sA, sB, sC] := A16
          have K_16 : Keep h0 h16 [] := K_15.wr W16 (Or.inr sz_b13)
          have Z_16 : n0 ≤ h16.size := Nat.le_trans Z0 K_16.1
          have N16 := Fr.snoc X16 N15 g_b13
          show Go p e below s _ _ _ T16 (mkF m 91 #[.val (.int v0), .val (.int v1), .val (.int v2), .val (.int v3), .val (.int v4), .val (.int (3 : Int32)), .val (.long sA), .second, .val (.long sB), .second, .val (.long sC), .second, .val (.long sD), .second, .val (.ref b13), .unset] [])
          refine G_iload X16 hx (pc' := 93) rfl (hb hby at_91) rfl ?_
          refine G_iconst X16 hx (pc' := 94) rfl (hb hby at_93) (z := (3 : Int32)) rfl ?_
          refine G_icmpYes X16 hx (pc' := 103) (hb hby at_94) (flt (by decide : ¬ ((3 : Int32) < (3 : Int32)))).2.2.2 (by decide) (by decide) ?_
          refine G_aload X16 hx (pc' := 105) rfl (hb hby at_103) rfl rfl ?_
          obtain ⟨_, _, ⟨T17, L17, k17, n17⟩, -, X17, ⟨Lc17, hQ17, l17, y17, z17⟩, st17⟩ := Jvm.LawKit.callS X16 hx (y := (⟨"com/example/quern/quern/core/TreeUpdate", "mergeCount", "([J)I"⟩ : MethodName)) hown (mvT hZ (hw _ (List.mem_of_getElem? (i := 3) rfl))) (mvT hZ (hw _ (List.mem_of_getElem? (i := 4) rfl))) (mvT hZ (hw _ (List.mem_of_getElem? (i := 5) rfl))) (mvT hZ (hw _ (List.mem_of_getElem? (i := 6) rfl))) (by decide) (backOf (W := 0) (rm_merge3 l Z a0 hw [] b13 sA sB sC h16 n0 Z_16 A_b13_16) hZ (hw _ (List.mem_of_getElem? (i := 6) rfl)) (hw _ (List.mem_of_getElem? (i := 5) rfl)) (by decide) (by decide)) (g := (mkF m 105 #[.val (.int v0), .val (.int v1), .val (.int v2), .val (.int v3), .val (.int v4), .val (.int (3 : Int32)), .val (.long sA), .second, .val (.long sB), .second, .val (.long sC), .second, .val (.long sD), .second, .val (.ref b13), .unset] [(.ref b13)])) rfl (by rw [hml]; rfl) (argsL := [(.ref b13)]) (rest := []) (lenOf pd_0 rfl) rfl (by show 2 * 0 + _ ≤ _; exact Nat.le_of_eq rfl) (hb hby at_105) (fun _ _ => ⟨rfl, e16, (by decide : 1 + 0 ≤ _), (by decide : 3 + 0 ≤ _)⟩)
          dsimp only [Pt.U, Pt.locs, Pt.cells, Pt.slots] at X17 l17 y17 z17 st17 hQ17
          subst l17 y17 z17
          obtain ⟨rfl, N17q, e17⟩ := hQ17
          have N17 := Fr.app N16 N17q
          refine Go.st st17 ?_
          show Go p e below s _ _ _ T17 (mkF m 108 #[.val (.int v0), .val (.int v1), .val (.int v2), .val (.int v3), .val (.int v4), .val (.int (3 : Int32)), .val (.long sA), .second, .val (.long sB), .second, .val (.long sC), .second, .val (.long sD), .second, .val (.ref b13), .unset] [(.int (f_merge3 sA sB sC))])
          refine G_istore X17 hx (pc' := 110) rfl (hb hby at_108) (L' := #[.val (.int v0), .val (.int v1), .val (.int v2), .val (.int v3), .val (.int v4), .val (.int (3 : Int32)), .val (.long sA), .second, .val (.long sB), .second, .val (.long sC), .second, .val (.long sD), .second, .val (.ref b13), .val (.int (f_merge3 sA sB sC))]) rfl ?_
          refine G_iload X17 hx (pc' := 112) rfl (hb hby at_110) rfl ?_
          refine G_iload X17 hx (pc' := 114) rfl (hb hby at_112) rfl ?_
          refine G_lload X17 hx (pc' := 116) rfl (hb hby at_114) rfl ?_
          refine G_lload X17 hx (pc' := 118) rfl (hb hby at_116) rfl ?_
          refine G_lload X17 hx (pc' := 120) rfl (hb hby at_118) rfl ?_
          refine G_lload X17 hx (pc' := 122) rfl (hb hby at_120) rfl ?_
          obtain ⟨_, _, ⟨T18, L18, k18, n18⟩, -, X18, ⟨Lc18, hQ18, l18, y18, z18⟩, st18⟩ := Jvm.LawKit.callS X17 hx (y := (⟨"com/example/quern/quern/core/TreeUpdateMergeCountPinLaw", "expected", "(IJJJJ)I"⟩ : MethodName)) hown (mvT hZ (hw _ (List.mem_of_getElem? (i := 7) rfl))) (mvT hZ (hw _ (List.mem_of_getElem? (i := 8) rfl))) (mvT hZ (hw _ (List.mem_of_getElem? (i := 9) rfl))) (mvT hZ (hw _ (List.mem_of_getElem? (i := 10) rfl))) (by decide) (backOf (W := 1) (rm_exp3 l Z a0 hw [] sA sB sC sD h16 n0 Z_16 ) hZ (hw _ (List.mem_of_getElem? (i := 10) rfl)) (hw _ (List.mem_of_getElem? (i := 9) rfl)) (by decide) (by decide)) (g := (mkF m 122 #[.val (.int v0), .val (.int v1), .val (.int v2), .val (.int v3), .val (.int v4), .val (.int (3 : Int32)), .val (.long sA), .second, .val (.long sB), .second, .val (.long sC), .second, .val (.long sD), .second, .val (.ref b13), .val (.int (f_merge3 sA sB sC))] [(.long sD), (.long sC), (.long sB), (.long sA), (.int (3 : Int32)), (.int (f_merge3 sA sB sC))])) rfl (by rw [hml]; rfl) (argsL := [(.int (3 : Int32)), (.long sA), (.long sB), (.long sC), (.long sD)]) (rest := [(.int (f_merge3 sA sB sC))]) (lenOf pd_1 rfl) rfl (by show 2 * 0 + _ ≤ _; exact Nat.le_of_eq rfl) (hb hby at_122) (fun _ _ => ⟨rfl, e17, (by decide : 1 + 0 ≤ _), (by decide : 3 + 0 ≤ _)⟩)
          dsimp only [Pt.U, Pt.locs, Pt.cells, Pt.slots] at X18 l18 y18 z18 st18 hQ18
          subst l18 y18 z18
          obtain ⟨rfl, N18q, e18⟩ := hQ18
          have N18 := Fr.app N17 N18q
          refine Go.st st18 ?_
          show Go p e below s _ _ _ T18 (mkF m 125 #[.val (.int v0), .val (.int v1), .val (.int v2), .val (.int v3), .val (.int v4), .val (.int (3 : Int32)), .val (.long sA), .second, .val (.long sB), .second, .val (.long sC), .second, .val (.long sD), .second, .val (.ref b13), .val (.int (f_merge3 sA sB sC))] [(.int (f_exp3 sA sB sC sD)), (.int (f_merge3 sA sB sC))])
          by_cases hc125_8 : (f_merge3 sA sB sC) = (f_exp3 sA sB sC sD)
          · refine G_icmpNo X18 hx (pc' := 128) rfl (hb hby at_125) (teq hc125_8).2 ?_
            refine G_iconst X18 hx (pc' := 129) rfl (hb hby at_128) (z := (1 : Int32)) rfl ?_
            refine G_goto X18 hx (pc' := 133) (hb hby at_129)  (by decide) (by decide) ?_
            refine Go.fin X18 hlk (v := some (.int (1 : Int32))) (fun h => by rw [Bd.returns] at h; cases h) (by decide) (by decide) ?_ (fun fs hr => retN X18 hx (t := .boolean) Bd.returns (by simp) (hb hby at_133) hr)
            show Q_law Z v0 v1 v2 v3 v4 h0 n0 _ T18.heap _
            rw [e18]
            exact ⟨congrArg (fun z => some (Value.int z)) (by rw [f_law]; (try rw [h_n]); (try rw [h_sA]); (try rw [h_sB]); (try rw [h_sC]); (try rw [h_sD]); rw [if_neg hk0_1, if_neg hk1_3, if_neg hk2_5, if_pos hk3_7, if_pos hc125_8]), N18⟩
          · refine G_icmpYes X18 hx (pc' := 132) (hb hby at_125) (feq hc125_8).2 (by decide) (by decide) ?_
            refine G_iconst X18 hx (pc' := 133) rfl (hb hby at_132) (z := (0 : Int32)) rfl ?_
            refine Go.fin X18 hlk (v := some (.int (0 : Int32))) (fun h => by rw [Bd.returns] at h; cases h) (by decide) (by decide) ?_ (fun fs hr => retN X18 hx (t := .boolean) Bd.returns (by simp) (hb hby at_133) hr)
            show Q_law Z v0 v1 v2 v3 v4 h0 n0 _ T18.heap _
            rw [e18]
            exact ⟨congrArg (fun z => some (Value.int z)) (by rw [f_law]; (try rw [h_n]); (try rw [h_sA]); (try rw [h_sB]); (try rw [h_sC]); (try rw [h_sD]); rw [if_neg hk0_1, if_neg hk1_3, if_neg hk2_5, if_pos hk3_7, if_neg hc125_8]), N18⟩
        · have hk4_9 : n = (4 : Int32) := (own_last hA hB (by assumption) (by assumption) (by assumption) (by assumption))
          rw [hk4_9]
          refine G_iload X0 hx (pc' := 52) rfl (hb hby at_50) rfl ?_
          obtain ⟨T19, h19, X19, e19, E19, B19, A19, st19⟩ := newAJ X0 hx hZ (hw _ (List.mem_of_getElem? (i := 2) rfl)) e0 (g := (mkF m 52 #[.val (.int v0), .val (.int v1), .val (.int v2), .val (.int v3), .val (.int v4), .val (.int (4 : Int32)), .val (.long sA), .second, .val (.long sB), .second, .val (.long sC), .second, .val (.long sD), .second, .unset, .unset] [(.int (4 : Int32))])) rfl (hb hby at_52) rfl (by decide) (cap := 4) (by decide) (by decide) (by decide) (by decide) (ad := "[J") (by decide)
          obtain ⟨b19, q19⟩ : ∃ z, z = h0.size := ⟨_, rfl⟩
          rw [← q19] at A19 B19 st19
          refine Go.st st19 ?_
          have g_b19 : n0 ≤ b19 := Nat.le_trans Z0 (Nat.le_of_eq q19.symm)
          have sz_b19 : h0.size ≤ b19 := Nat.le_trans (Nat.le_refl _) (Nat.le_of_eq q19.symm)
          have A_b19 : AJ Z h19 b19 [(0 : Int64), (0 : Int64), (0 : Int64), (0 : Int64)] := A19
          have K_19 : Keep h0 h19 [] := (Keep.refl h0 []).ext E19
          have Z_19 : n0 ≤ h19.size := Nat.le_trans Z0 K_19.1
          show Go p e below s _ _ _ T19 (mkF m 54 #[.val (.int v0), .val (.int v1), .val (.int v2), .val (.int v3), .val (.int v4), .val (.int (4 : Int32)), .val (.long sA), .second, .val (.long sB), .second, .val (.long sC), .second, .val (.long sD), .second, .unset, .unset] [(.ref b19)])
          refine G_astore X19 hx (pc' := 56) rfl (hb hby at_54) rfl (L' := #[.val (.int v0), .val (.int v1), .val (.int v2), .val (.int v3), .val (.int v4), .val (.int (4 : Int32)), .val (.long sA), .second, .val (.long sB), .second, .val (.long sC), .second, .val (.long sD), .second, .val (.ref b19), .unset]) rfl ?_
          refine G_iload X19 hx (pc' := 58) rfl (hb hby at_56) rfl ?_
          refine G_ifNo X19 hx (pc' := 61) rfl (hb hby at_58) ((if0 _ _).trans (tlt (by decide : (0 : Int32) < (4 : Int32))).2.2.2) ?_
          refine G_aload X19 hx (pc' := 63) rfl (hb hby at_61) rfl rfl ?_
          refine G_iconst X19 hx (pc' := 64) rfl (hb hby at_63) (z := (0 : Int32)) rfl ?_
          refine G_lload X19 hx (pc' := 66) rfl (hb hby at_64) rfl ?_
          obtain ⟨T20, h20, X20, e20, W20, A20, st20⟩ := stAJ X19 hx hZ e19 A_b19 (j := (0 : Int32)) (by decide) (show Int32.toNatClampNeg 0 < 4 from by decide) (g := (mkF m 66 #[.val (.int v0), .val (.int v1), .val (.int v2), .val (.int v3), .val (.int v4), .val (.int (4 : Int32)), .val (.long sA), .second, .val (.long sB), .second, .val (.long sC), .second, .val (.long sD), .second, .val (.ref b19), .unset] [(.long sA), (.int (0 : Int32)), (.ref b19)])) rfl rfl (hb hby at_66)
          refine Go.st st20 ?_
          have E_b19_20 := B19.wr W20
          have A_b19_20 : AJ Z h20 b19 [sA, (0 : Int64), (0 : Int64), (0 : Int64)] := A20
          have K_20 : Keep h0 h20 [] := K_19.wr W20 (Or.inr sz_b19)
          have Z_20 : n0 ≤ h20.size := Nat.le_trans Z0 K_20.1
          have N20 := Fr.snoc X20 N0 g_b19
          show Go p e below s _ _ _ T20 (mkF m 67 #[.val (.int v0), .val (.int v1), .val (.int v2), .val (.int v3), .val (.int v4), .val (.int (4 : Int32)), .val (.long sA), .second, .val (.long sB), .second, .val (.long sC), .second, .val (.long sD), .second, .val (.ref b19), .unset] [])
          refine G_iload X20 hx (pc' := 69) rfl (hb hby at_67) rfl ?_
          refine G_iconst X20 hx (pc' := 70) rfl (hb hby at_69) (z := (1 : Int32)) rfl ?_
          refine G_icmpNo X20 hx (pc' := 73) rfl (hb hby at_70) (tlt (by decide : (1 : Int32) < (4 : Int32))).2.2.2 ?_
          refine G_aload X20 hx (pc' := 75) rfl (hb hby at_73) rfl rfl ?_
          refine G_iconst X20 hx (pc' := 76) rfl (hb hby at_75) (z := (1 : Int32)) rfl ?_
          refine G_lload X20 hx (pc' := 78) rfl (hb hby at_76) rfl ?_
          obtain ⟨T21, h21, X21, e21, W21, A21, st21⟩ := stAJ X20 hx hZ e20 A_b19_20 (j := (1 : Int32)) (by decide) (show Int32.toNatClampNeg 1 < 4 from by decide) (g := (mkF m 78 #[.val (.int v0), .val (.int v1), .val (.int v2), .val (.int v3), .val (.int v4), .val (.int (4 : Int32)), .val (.long sA), .second, .val (.long sB), .second, .val (.long sC), .second, .val (.long sD), .second, .val (.ref b19), .unset] [(.long sB), (.int (1 : Int32)), (.ref b19)])) rfl rfl (hb hby at_78)
          refine Go.st st21 ?_
          have E_b19_21 := E_b19_20.wr W21
          have A_b19_21 : AJ Z h21 b19 [sA, sB, (0 : Int64), (0 : Int64)] := A21
          have K_21 : Keep h0 h21 [] := K_20.wr W21 (Or.inr sz_b19)
          have Z_21 : n0 ≤ h21.size := Nat.le_trans Z0 K_21.1
          have N21 := Fr.snoc X21 N20 g_b19
          show Go p e below s _ _ _ T21 (mkF m 79 #[.val (.int v0), .val (.int v1), .val (.int v2), .val (.int v3), .val (.int v4), .val (.int (4 : Int32)), .val (.long sA), .second, .val (.long sB), .second, .val (.long sC), .second, .val (.long sD), .second, .val (.ref b19), .unset] [])
          refine G_iload X21 hx (pc' := 81) rfl (hb hby at_79) rfl ?_
          refine G_iconst X21 hx (pc' := 82) rfl (hb hby at_81) (z := (2 : Int32)) rfl ?_
          refine G_icmpNo X21 hx (pc' := 85) rfl (hb hby at_82) (tlt (by decide : (2 : Int32) < (4 : Int32))).2.2.2 ?_
          refine G_aload X21 hx (pc' := 87) rfl (hb hby at_85) rfl rfl ?_
          refine G_iconst X21 hx (pc' := 88) rfl (hb hby at_87) (z := (2 : Int32)) rfl ?_
          refine G_lload X21 hx (pc' := 90) rfl (hb hby at_88) rfl ?_
          obtain ⟨T22, h22, X22, e22, W22, A22, st22⟩ := stAJ X21 hx hZ e21 A_b19_21 (j := (2 : Int32)) (by decide) (show Int32.toNatClampNeg 2 < 4 from by decide) (g := (mkF m 90 #[.val (.int v0), .val (.int v1), .val (.int v2), .val (.int v3), .val (.int v4), .val (.int (4 : Int32)), .val (.long sA), .second, .val (.long sB), .second, .val (.long sC), .second, .val (.long sD), .second, .val (.ref b19), .unset] [(.long sC), (.int (2 : Int32)), (.ref b19)])) rfl rfl (hb hby at_90)
          refine Go.st st22 ?_
          have E_b19_22 := E_b19_21.wr W22
          have A_b19_22 : AJ Z h22 b19 [sA, sB, sC, (0 : Int64)] := A22
          have K_22 : Keep h0 h22 [] := K_21.wr W22 (Or.inr sz_b19)
          have Z_22 : n0 ≤ h22.size := Nat.le_trans Z0 K_22.1
          have N22 := Fr.snoc X22 N21 g_b19
          show Go p e below s _ _ _ T22 (mkF m 91 #[.val (.int v0), .val (.int v1), .val (.int v2), .val (.int v3), .val (.int v4), .val (.int (4 : Int32)), .val (.long sA), .second, .val (.long sB), .second, .val (.long sC), .second, .val (.long sD), .second, .val (.ref b19), .unset] [])
          refine G_iload X22 hx (pc' := 93) rfl (hb hby at_91) rfl ?_
          refine G_iconst X22 hx (pc' := 94) rfl (hb hby at_93) (z := (3 : Int32)) rfl ?_
          refine G_icmpNo X22 hx (pc' := 97) rfl (hb hby at_94) (tlt (by decide : (3 : Int32) < (4 : Int32))).2.2.2 ?_
          refine G_aload X22 hx (pc' := 99) rfl (hb hby at_97) rfl rfl ?_
          refine G_iconst X22 hx (pc' := 100) rfl (hb hby at_99) (z := (3 : Int32)) rfl ?_
          refine G_lload X22 hx (pc' := 102) rfl (hb hby at_100) rfl ?_
          obtain ⟨T23, h23, X23, e23, W23, A23, st23⟩ := stAJ X22 hx hZ e22 A_b19_22 (j := (3 : Int32)) (by decide) (show Int32.toNatClampNeg 3 < 4 from by decide) (g := (mkF m 102 #[.val (.int v0), .val (.int v1), .val (.int v2), .val (.int v3), .val (.int v4), .val (.int (4 : Int32)), .val (.long sA), .second, .val (.long sB), .second, .val (.long sC), .second, .val (.long sD), .second, .val (.ref b19), .unset] [(.long sD), (.int (3 : Int32)), (.ref b19)])) rfl rfl (hb hby at_102)
          refine Go.st st23 ?_
          have E_b19_23 := E_b19_22.wr W23
          have A_b19_23 : AJ Z h23 b19 [sA, sB, sC, sD] := A23
          have K_23 : Keep h0 h23 [] := K_22.wr W23 (Or.inr sz_b19)
          have Z_23 : n0 ≤ h23.size := Nat.le_trans Z0 K_23.1
          have N23 := Fr.snoc X23 N22 g_b19
          show Go p e below s _ _ _ T23 (mkF m 103 #[.val (.int v0), .val (.int v1), .val (.int v2), .val (.int v3), .val (.int v4), .val (.int (4 : Int32)), .val (.long sA), .second, .val (.long sB), .second, .val (.long sC), .second, .val (.long sD), .second, .val (.ref b19), .unset] [])
          refine G_aload X23 hx (pc' := 105) rfl (hb hby at_103) rfl rfl ?_
          obtain ⟨_, _, ⟨T24, L24, k24, n24⟩, -, X24, ⟨Lc24, hQ24, l24, y24, z24⟩, st24⟩ := Jvm.LawKit.callS X23 hx (y := (⟨"com/example/quern/quern/core/TreeUpdate", "mergeCount", "([J)I"⟩ : MethodName)) hown (mvT hZ (hw _ (List.mem_of_getElem? (i := 3) rfl))) (mvT hZ (hw _ (List.mem_of_getElem? (i := 4) rfl))) (mvT hZ (hw _ (List.mem_of_getElem? (i := 5) rfl))) (mvT hZ (hw _ (List.mem_of_getElem? (i := 6) rfl))) (by decide) (backOf (W := 0) (rm_merge4 l Z a0 hw [] b19 sA sB sC sD h23 n0 Z_23 A_b19_23) hZ (hw _ (List.mem_of_getElem? (i := 6) rfl)) (hw _ (List.mem_of_getElem? (i := 5) rfl)) (by decide) (by decide)) (g := (mkF m 105 #[.val (.int v0), .val (.int v1), .val (.int v2), .val (.int v3), .val (.int v4), .val (.int (4 : Int32)), .val (.long sA), .second, .val (.long sB), .second, .val (.long sC), .second, .val (.long sD), .second, .val (.ref b19), .unset] [(.ref b19)])) rfl (by rw [hml]; rfl) (argsL := [(.ref b19)]) (rest := []) (lenOf pd_0 rfl) rfl (by show 2 * 0 + _ ≤ _; exact Nat.le_of_eq rfl) (hb hby at_105) (fun _ _ => ⟨rfl, e23, (by decide : 1 + 0 ≤ _), (by decide : 4 + 0 ≤ _)⟩)
          dsimp only [Pt.U, Pt.locs, Pt.cells, Pt.slots] at X24 l24 y24 z24 st24 hQ24
          subst l24 y24 z24
          obtain ⟨rfl, N24q, e24⟩ := hQ24
          have N24 := Fr.app N23 N24q
          refine Go.st st24 ?_
          show Go p e below s _ _ _ T24 (mkF m 108 #[.val (.int v0), .val (.int v1), .val (.int v2), .val (.int v3), .val (.int v4), .val (.int (4 : Int32)), .val (.long sA), .second, .val (.long sB), .second, .val (.long sC), .second, .val (.long sD), .second, .val (.ref b19), .unset] [(.int (f_merge4 sA sB sC sD))])
          refine G_istore X24 hx (pc' := 110) rfl (hb hby at_108) (L' := #[.val (.int v0), .val (.int v1), .val (.int v2), .val (.int v3), .val (.int v4), .val (.int (4 : Int32)), .val (.long sA), .second, .val (.long sB), .second, .val (.long sC), .second, .val (.long sD), .second, .val (.ref b19), .val (.int (f_merge4 sA sB sC sD))]) rfl ?_
          refine G_iload X24 hx (pc' := 112) rfl (hb hby at_110) rfl ?_
          refine G_iload X24 hx (pc' := 114) rfl (hb hby at_112) rfl ?_
          refine G_lload X24 hx (pc' := 116) rfl (hb hby at_114) rfl ?_
          refine G_lload X24 hx (pc' := 118) rfl (hb hby at_116) rfl ?_
          refine G_lload X24 hx (pc' := 120) rfl (hb hby at_118) rfl ?_
          refine G_lload X24 hx (pc' := 122) rfl (hb hby at_120) rfl ?_
          obtain ⟨_, _, ⟨T25, L25, k25, n25⟩, -, X25, ⟨Lc25, hQ25, l25, y25, z25⟩, st25⟩ := Jvm.LawKit.callS X24 hx (y := (⟨"com/example/quern/quern/core/TreeUpdateMergeCountPinLaw", "expected", "(IJJJJ)I"⟩ : MethodName)) hown (mvT hZ (hw _ (List.mem_of_getElem? (i := 7) rfl))) (mvT hZ (hw _ (List.mem_of_getElem? (i := 8) rfl))) (mvT hZ (hw _ (List.mem_of_getElem? (i := 9) rfl))) (mvT hZ (hw _ (List.mem_of_getElem? (i := 10) rfl))) (by decide) (backOf (W := 1) (rm_exp4 l Z a0 hw [] sA sB sC sD h23 n0 Z_23 ) hZ (hw _ (List.mem_of_getElem? (i := 10) rfl)) (hw _ (List.mem_of_getElem? (i := 9) rfl)) (by decide) (by decide)) (g := (mkF m 122 #[.val (.int v0), .val (.int v1), .val (.int v2), .val (.int v3), .val (.int v4), .val (.int (4 : Int32)), .val (.long sA), .second, .val (.long sB), .second, .val (.long sC), .second, .val (.long sD), .second, .val (.ref b19), .val (.int (f_merge4 sA sB sC sD))] [(.long sD), (.long sC), (.long sB), (.long sA), (.int (4 : Int32)), (.int (f_merge4 sA sB sC sD))])) rfl (by rw [hml]; rfl) (argsL := [(.int (4 : Int32)), (.long sA), (.long sB), (.long sC), (.long sD)]) (rest := [(.int (f_merge4 sA sB sC sD))]) (lenOf pd_1 rfl) rfl (by show 2 * 0 + _ ≤ _; exact Nat.le_of_eq rfl) (hb hby at_122) (fun _ _ => ⟨rfl, e24, (by decide : 1 + 0 ≤ _), (by decide : 4 + 0 ≤ _)⟩)
          dsimp only [Pt.U, Pt.locs, Pt.cells, Pt.slots] at X25 l25 y25 z25 st25 hQ25
          subst l25 y25 z25
          obtain ⟨rfl, N25q, e25⟩ := hQ25
          have N25 := Fr.app N24 N25q
          refine Go.st st25 ?_
          show Go p e below s _ _ _ T25 (mkF m 125 #[.val (.int v0), .val (.int v1), .val (.int v2), .val (.int v3), .val (.int v4), .val (.int (4 : Int32)), .val (.long sA), .second, .val (.long sB), .second, .val (.long sC), .second, .val (.long sD), .second, .val (.ref b19), .val (.int (f_merge4 sA sB sC sD))] [(.int (f_exp4 sA sB sC sD)), (.int (f_merge4 sA sB sC sD))])
          by_cases hc125_10 : (f_merge4 sA sB sC sD) = (f_exp4 sA sB sC sD)
          · refine G_icmpNo X25 hx (pc' := 128) rfl (hb hby at_125) (teq hc125_10).2 ?_
            refine G_iconst X25 hx (pc' := 129) rfl (hb hby at_128) (z := (1 : Int32)) rfl ?_
            refine G_goto X25 hx (pc' := 133) (hb hby at_129)  (by decide) (by decide) ?_
            refine Go.fin X25 hlk (v := some (.int (1 : Int32))) (fun h => by rw [Bd.returns] at h; cases h) (by decide) (by decide) ?_ (fun fs hr => retN X25 hx (t := .boolean) Bd.returns (by simp) (hb hby at_133) hr)
            show Q_law Z v0 v1 v2 v3 v4 h0 n0 _ T25.heap _
            rw [e25]
            exact ⟨congrArg (fun z => some (Value.int z)) (by rw [f_law]; (try rw [h_n]); (try rw [h_sA]); (try rw [h_sB]); (try rw [h_sC]); (try rw [h_sD]); rw [if_neg hk0_1, if_neg hk1_3, if_neg hk2_5, if_neg hk3_7, if_pos hc125_10]), N25⟩
          · refine G_icmpYes X25 hx (pc' := 132) (hb hby at_125) (feq hc125_10).2 (by decide) (by decide) ?_
            refine G_iconst X25 hx (pc' := 133) rfl (hb hby at_132) (z := (0 : Int32)) rfl ?_
            refine Go.fin X25 hlk (v := some (.int (0 : Int32))) (fun h => by rw [Bd.returns] at h; cases h) (by decide) (by decide) ?_ (fun fs hr => retN X25 hx (t := .boolean) Bd.returns (by simp) (hb hby at_133) hr)
            show Q_law Z v0 v1 v2 v3 v4 h0 n0 _ T25.heap _
            rw [e25]
            exact ⟨congrArg (fun z => some (Value.int z)) (by rw [f_law]; (try rw [h_n]); (try rw [h_sA]); (try rw [h_sB]); (try rw [h_sC]); (try rw [h_sD]); rw [if_neg hk0_1, if_neg hk1_3, if_neg hk2_5, if_neg hk3_7, if_neg hc125_10]), N25⟩
theorem own_core (n : Int32) (A B C D : Int64) : (if n = (0 : Int32) then (if f_merge0 = f_exp0 A B C D then (1 : Int32) else (0 : Int32)) else (if n = (1 : Int32) then (if f_merge1 A = f_exp1 A B C D then (1 : Int32) else (0 : Int32)) else (if n = (2 : Int32) then (if f_merge2 A B = f_exp2 A B C D then (1 : Int32) else (0 : Int32)) else (if n = (3 : Int32) then (if f_merge3 A B C = f_exp3 A B C D then (1 : Int32) else (0 : Int32)) else (if f_merge4 A B C D = f_exp4 A B C D then (1 : Int32) else (0 : Int32)))))) = 1 := by
  rw [own_m0 A B C D, own_m1 A B C D, own_m2 A B C D, own_m3 A B C D, own_m4 A B C D]
  simp
theorem own_law (a b c d e : Int32) : f_law a b c d e = 1 := by
  unfold f_law
  exact own_core _ _ _ _ _
set_option maxRecDepth 65536 in
set_option maxHeartbeats 40000000 in
theorem comes_1 {Post : Tables → Env → Array Value → State → Outcome → State → Prop} (hpost : ∀ tb e args s v u, (limb_1_1.after args s (.returned v) u = true ∧ limb_1_2.after args s (.returned v) u = true ∧ True) → FrameEnd s (.returned v) u (Jvm.fieldLocs frame_1_writes args s ++ Jvm.arrayLocs frame_1_arrays args s ++ Jvm.staticLocs frame_1_statics s) 16 128 → Post tb e args s (.returned v) u) :
    ArmFor flags0 classFile x code maxLocals ret World_1 tables_1 room_1 Calls_1 rest_1 Pre_1 Post := by
  intro l hfl _ _ p e ha hc hk s m args below hf hA hF happ hP
  obtain ⟨hcalls, hrest, hpre⟩ := hP
  obtain ⟨-, -, -, hnamed, -, -, -, hat⟩ := (Spec.applies_iff hf).mp happ
  obtain ⟨hg, hn⟩ := and_e (Cond.before_iff.mp (show (Jvm.Cond.and given_1 narrow_1).before args s = true from hpre))
  obtain ⟨hcnt, hg0⟩ := and_e hg
  obtain ⟨ha0, hg1⟩ := and_e hg0
  obtain ⟨ha1, hg2⟩ := and_e hg1
  obtain ⟨ha2, hg3⟩ := and_e hg2
  obtain ⟨ha3, hg4⟩ := and_e hg3
  have ha4 := hg4
  obtain ⟨w0, w1, w2, w3, w4, rfl⟩ : ∃ w0 w1 w2 w3 w4 : Value, args = #[w0, w1, w2, w3, w4] := by
    have hs : args.size = 5 := by simpa [Cond.value, given_1] using hcnt
    obtain ⟨L⟩ := args
    match L, hs with
    | [w0, w1, w2, w3, w4], _ => exact ⟨w0, w1, w2, w3, w4, rfl⟩
  have hw := fun d (hd : d ∈ tables_1) => atoms_spec (ws := Jvm.Cond.code x code maxLocals ret :: tables_1) hat d (List.mem_cons_of_mem _ hd)
  have hfit : Fit s := fun {y c} hc i hi => by
    obtain ⟨ha, rfl⟩ := Array.getElem?_eq_some_iff.mp hc
    have q := List.all_eq_true.mp ((Array.all_eq_true_iff_forall_mem.mp hF) _ (Array.getElem_mem ha)) i (List.mem_range.mpr hi)
    simpa [Array.getElem?_eq_getElem hi] using q
  obtain ⟨i0, ei0⟩ := is_v ha0
  obtain rfl : w0 = (.int i0) := Option.some.inj ei0
  obtain ⟨i1, ei1⟩ := is_v ha1
  obtain rfl : w1 = (.int i1) := Option.some.inj ei1
  obtain ⟨i2, ei2⟩ := is_v ha2
  obtain rfl : w2 = (.int i2) := Option.some.inj ei2
  obtain ⟨i3, ei3⟩ := is_v ha3
  obtain rfl : w3 = (.int i3) := Option.some.inj ei3
  obtain ⟨i4, ei4⟩ := is_v ha4
  obtain rfl : w4 = (.int i4) := Option.some.inj ei4
  obtain ⟨n, o, h1, h2, h3, v, L, rfl, ⟨hv, N⟩, hq⟩ := rm_law l s _ hw tables_1 i0 i1 i2 i3 i4  s.heap s.heap.size (Nat.le_refl _)  p e ha hc hk s m _ below hf ((Spec.applies_iff_loose hf).mp happ).1 ⟨rfl, State.Warmed39.refl s, rfl⟩ trivial
  rw [own_law i0 i1 i2 i3 i4] at hv
  subst hv
  refine ⟨n, _, h1, h2, h3, hpost _ _ _ _ _ _ ⟨Cond.after_iff.mpr rfl, Cond.after_iff.mpr (eq_i res_at (Term.int_eval (1)) rfl), trivial⟩ ⟨hq.1, hq.2.1, (hq.2.2.sift fun y hy => Or.inr (N y hy)).mono (by decide) (by decide)⟩⟩
theorem main_1_1 : Claimed_1_1 := comes_1 fun _ _ _ _ _ _ h hF => ⟨h.1, hF⟩
theorem main_1_2 : Claimed_1_2 := comes_1 fun _ _ _ _ _ _ h hF => ⟨h.2.1, hF⟩
end Jvm.Pilot.@@N@@
namespace Jvm.Pilot.@@N@@
open Jvm Jvm.ClassFile Sem Op Lib Jvm.Free Jvm.Stand Jvm.Pilot.@@N@@.Jvm.D
/-! MADE BY PROGRAM (witnessworld.py) out of the Statement's table words and the real class files: 11 classes; the members and pool entries that the words name. The judged class is class 1, her method 1. -/
namespace start1
open Jvm.ClassFile
def u (s : String) : CpInfo := .utf8 (stringToUtf16 s)
/-- a pool by its gaps: so many unusable entries, then the entry; so many at the end -/
def gap : Nat → List CpInfo → List CpInfo
  | 0, r => r
  | n + 1, r => .unusable :: gap n r
def poolList (es : List (Nat × CpInfo)) (last : Nat) : List CpInfo := es.foldr (fun e r => gap e.1 (e.2 :: r)) (gap last [])
def pool (es : List (Nat × CpInfo)) (last : Nat) : Array CpInfo := ⟨poolList es last⟩
def fileOf (pool : Array CpInfo) (this : Nat) (attrs : Array Attribute := #[]) (ms : Array MethodInfo := #[]) (fl : Nat := 33) (sup : Nat := 0) (ifs : Array Nat := #[]) (fds : Array FieldInfo := #[]) : ClassFile where
  minorVersion := 0
  majorVersion := 65
  constantPool := pool
  accessFlags := fl
  thisClass := this
  superClass := sup
  interfaces := ifs
  fields := fds
  methods := ms
  attributes := attrs
def plain (name : String) (sup : Option ClassId) : Class where
  name := name
  kind := .ordinary
  loader := none
  accessFlags := 33
  super := sup
  interfaces := #[]
  cf := none
  fields := #[]
  methods := #[]
  instanceTypes := #[]
  staticTypes := #[]
  resolved := #[]
  callSites := []
  init := .initialized
  statics := none
  mirror := none

def pool0 : Array CpInfo := pool [(5, u "<init>"), (0, u "()V"), (1, .class_ 10), (1, u "java/lang/Object")] 113

def k0m0 : Method := { name := "<init>", desc := "()V", sig := { parameters := [], returnType := none }, accessFlags := 1, code := none }
/-- java/lang/Object -/
def k0 : Class := { plain "java/lang/Object" none with
  accessFlags := 33
  interfaces := #[]
  cf := some (fileOf pool0 8 #[] #[{ accessFlags := 1, nameIndex := 5, descriptorIndex := 6, attributes := #[] }] 33 0 #[] #[])
  fields := #[]
  methods := #[k0m0]
  instanceTypes := #[]
  staticTypes := #[]
  resolved := Array.replicate 124 none
  statics := none }

def pool1 : Array CpInfo := pool [(2, .class_ 4), (1, u "java/lang/Object"), (0, u "<init>"), (0, u "()V"), (0, .integer 2147483647), (0, .long 2147483647), (1, .methodref 11 12), (0, .class_ 13), (0, .nameAndType 14 15), (0, u "com/example/quern/quern/core/TreeUpdate"), (0, u "mergeCount"), (0, u "([J)I"), (0, .methodref 17 18), (0, .class_ 19), (0, .nameAndType 20 21), (0, u "com/example/quern/quern/core/TreeUpdateMergeCountPinLaw"), (0, u "expected"), (0, u "(IJJJJ)I"), (2, u "law"), (0, u "(IIIII)Z")] 5

def k1m0 : Method := { name := "<init>", desc := "()V", sig := { parameters := [], returnType := none }, accessFlags := 1, code := none }
def k1c1 : Code := { maxStack := 10, maxLocals := 16, code := code, exceptionTable := #[], attributes := #[] }
def k1m1 : Method := { name := "law", desc := "(IIIII)Z", sig := { parameters := [.int, .int, .int, .int, .int], returnType := some .boolean }, accessFlags := 9, code := some k1c1 }
def k1c2 : Code := { maxStack := 4, maxLocals := 15, code := method_3_code, exceptionTable := #[], attributes := #[] }
def k1m2 : Method := { name := "expected", desc := "(IJJJJ)I", sig := { parameters := [.int, .long, .long, .long, .long], returnType := some .int }, accessFlags := 10, code := some k1c2 }
/-- com/example/quern/quern/core/TreeUpdateMergeCountPinLaw -/
def k1 : Class := { plain "com/example/quern/quern/core/TreeUpdateMergeCountPinLaw" (some 0) with
  accessFlags := 49
  interfaces := #[]
  cf := some (fileOf pool1 17 #[] #[{ accessFlags := 1, nameIndex := 5, descriptorIndex := 6, attributes := #[] }, { accessFlags := 9, nameIndex := 24, descriptorIndex := 25, attributes := #[] }, { accessFlags := 10, nameIndex := 20, descriptorIndex := 21, attributes := #[] }] 49 2 #[] #[])
  fields := #[]
  methods := #[k1m0, k1m1, k1m2]
  instanceTypes := #[]
  staticTypes := #[]
  resolved := Array.replicate 31 none
  statics := none }

def pool2 : Array CpInfo := pool [(2, .class_ 4), (1, u "java/lang/Object"), (6, .class_ 13), (1, u "com/example/quern/quern/core/TreeUpdate"), (0, u "readers"), (0, u "Ljava/util/List;"), (2, u "deleted"), (2, u "unchanged"), (2, u "path"), (0, u "Ljava/nio/file/Path;"), (2, u "directory"), (0, u "Lcom/example/quern/quern/store/IndexDirectory;"), (8, u "commit"), (0, u "Lcom/example/quern/quern/store/Commit;"), (13, u "builder"), (0, u "Lcom/example/quern/quern/core/SegmentBuilder;"), (116, u "added"), (0, u "I"), (2, u "changed"), (66, .class_ 244), (1, u "com/example/quern/quern/core/TreeUpdate$Held"), (90, u "mergeCount"), (0, u "([J)I")] 113

def k2c0 : Code := { maxStack := 4, maxLocals := 5, code := prog_40_method_10_code, exceptionTable := #[], attributes := #[] }
def k2m0 : Method := { name := "mergeCount", desc := "([J)I", sig := { parameters := [(.array .long)], returnType := some .int }, accessFlags := 8, code := some k2c0 }
/-- com/example/quern/quern/core/TreeUpdate -/
def k2 : Class := { plain "com/example/quern/quern/core/TreeUpdate" (some 0) with
  accessFlags := 48
  interfaces := #[]
  cf := some (fileOf pool2 11 #[.nestMembers #[242]] #[{ accessFlags := 8, nameIndex := 335, descriptorIndex := 336, attributes := #[] }] 48 2 #[] #[{ accessFlags := 18, nameIndex := 24, descriptorIndex := 25, attributes := #[] }, { accessFlags := 18, nameIndex := 28, descriptorIndex := 29, attributes := #[] }, { accessFlags := 18, nameIndex := 38, descriptorIndex := 39, attributes := #[] }, { accessFlags := 18, nameIndex := 14, descriptorIndex := 15, attributes := #[] }, { accessFlags := 18, nameIndex := 18, descriptorIndex := 15, attributes := #[] }, { accessFlags := 18, nameIndex := 21, descriptorIndex := 15, attributes := #[] }, { accessFlags := 18, nameIndex := 53, descriptorIndex := 54, attributes := #[] }, { accessFlags := 2, nameIndex := 171, descriptorIndex := 172, attributes := #[] }, { accessFlags := 2, nameIndex := 175, descriptorIndex := 172, attributes := #[] }])
  fields := #[{ name := "path", type := (.object "java/nio/file/Path"), accessFlags := 18, slot := 0, constantValue := 0 }, { name := "directory", type := (.object "com/example/quern/quern/store/IndexDirectory"), accessFlags := 18, slot := 1, constantValue := 0 }, { name := "commit", type := (.object "com/example/quern/quern/store/Commit"), accessFlags := 18, slot := 2, constantValue := 0 }, { name := "readers", type := (.object "java/util/List"), accessFlags := 18, slot := 3, constantValue := 0 }, { name := "deleted", type := (.object "java/util/List"), accessFlags := 18, slot := 4, constantValue := 0 }, { name := "unchanged", type := (.object "java/util/List"), accessFlags := 18, slot := 5, constantValue := 0 }, { name := "builder", type := (.object "com/example/quern/quern/core/SegmentBuilder"), accessFlags := 18, slot := 6, constantValue := 0 }, { name := "added", type := .int, accessFlags := 2, slot := 7, constantValue := 0 }, { name := "changed", type := .int, accessFlags := 2, slot := 8, constantValue := 0 }]
  methods := #[k2m0]
  instanceTypes := #[(.object "java/nio/file/Path"), (.object "com/example/quern/quern/store/IndexDirectory"), (.object "com/example/quern/quern/store/Commit"), (.object "java/util/List"), (.object "java/util/List"), (.object "java/util/List"), (.object "com/example/quern/quern/core/SegmentBuilder"), .int, .int]
  staticTypes := #[]
  resolved := Array.replicate 450 none
  statics := none }

def pool3 : Array CpInfo := pool [(1, u "java/lang/Cloneable"), (0, .class_ 1), (0, u "java/lang/Object"), (0, .class_ 3)] 3

/-- java/lang/Cloneable -/
def k3 : Class := { plain "java/lang/Cloneable" (some 0) with
  accessFlags := 1537
  interfaces := #[]
  cf := some (fileOf pool3 2 #[] #[] 1537 4 #[] #[])
  fields := #[]
  methods := #[]
  instanceTypes := #[]
  staticTypes := #[]
  resolved := Array.replicate 8 none
  statics := none }

def pool4 : Array CpInfo := pool [(1, u "java/io/Serializable"), (0, .class_ 1), (0, u "java/lang/Object"), (0, .class_ 3)] 3

/-- java/io/Serializable -/
def k4 : Class := { plain "java/io/Serializable" (some 0) with
  accessFlags := 1537
  interfaces := #[]
  cf := some (fileOf pool4 2 #[] #[] 1537 4 #[] #[])
  fields := #[]
  methods := #[]
  instanceTypes := #[]
  staticTypes := #[]
  resolved := Array.replicate 8 none
  statics := none }

/-- the primitive byte -/
def k5 : Class := { plain "byte" none with kind := .primitive 'B', accessFlags := 0x411 }
/-- [B -/
def k6 : Class := { plain "[B" (some 0) with kind := .array 5 .byte, interfaces := #[3, 4], accessFlags := 1041 }

/-- the primitive int -/
def k7 : Class := { plain "int" none with kind := .primitive 'I', accessFlags := 0x411 }
/-- [I -/
def k8 : Class := { plain "[I" (some 0) with kind := .array 7 .int, interfaces := #[3, 4], accessFlags := 1041 }

/-- the primitive long -/
def k9 : Class := { plain "long" none with kind := .primitive 'J', accessFlags := 0x411 }
/-- [J -/
def k10 : Class := { plain "[J" (some 0) with kind := .array 9 .long, interfaces := #[3, 4], accessFlags := 1041 }

def heap : Heap := #[]
def classes : Array Class := #[k0, k1, k2, k3, k4, k5, k6, k7, k8, k9, k10]
def interned : List (Array UInt16 × Addr) := []
def slotsUsed : Nat := 0
def theMethod : MethodId := ⟨1, 1⟩
def args0 : Array Value := #[.int 3, .int 7, .int 3, .int 1, .int 2]
def aboutOver (below : List Frame) : State where
  vm := { classes := classes, interned := interned.toArray }
  heap := heap
  slotsUsed := slotsUsed
  threads := #[{ frames := .invoking theMethod args0 :: below }]
def below0 : List Frame := [.native { method := ⟨0, 0⟩, args := #[] }]
def about1 : State := aboutOver below0
def p0 : Program := .bare "" "" ""
def e0 : Env := launch0.env 0 0 0
theorem w_frames : about1.frames = Frame.invoking theMethod args0 :: below0 := rfl
set_option maxRecDepth 65536 in
theorem w_args : argsFit about1.vm theMethod args0 = true := by decide +kernel
set_option maxRecDepth 65536 in
theorem w_heap : heapFits about1 = true := by decide +kernel
set_option maxRecDepth 65536 in
theorem w_runnable : about1.curStatus? = some .runnable := by decide +kernel
set_option maxRecDepth 65536 in
theorem w_alone : about1.alone = true := by decide +kernel
set_option maxRecDepth 65536 in
theorem w_named : about1.methodNamed? x = some theMethod := by decide +kernel
set_option maxRecDepth 65536 in
theorem w_hears : about1.hears theMethod below0 = true := by decide +kernel
set_option maxRecDepth 65536 in
theorem w_ripe : about1.ripe theMethod args0 below0 = true := by decide +kernel
theorem w_running : about1.status = .running := rfl
set_option maxRecDepth 65536 in
theorem w_room : about1.hasRoom e0.platform room_1 = true :=
  launch0.hasRoom_least _ room_1 (by decide +kernel) (by decide +kernel) (by decide +kernel) (by decide +kernel) (by decide +kernel) (by decide +kernel)
theorem allAtoms_all (ts : List Jvm.Cond) (a : Array Jvm.Value) (st : Jvm.State) : (allAtoms ts).before a st = ts.all (fun c => c.before a st) := by
  induction ts with
  | nil => rfl
  | cons c t ih =>
    show (Jvm.Cond.and c (allAtoms t)).before a st = _
    rw [Jvm.Cond.before_and, ih, List.all_cons]
def words1 : List Jvm.Cond := Jvm.Cond.code x code maxLocals ret :: tables_1
/-- a 'code' word, met by the world's own term for the bytes: nothing is compared byte by byte -/
theorem code_word {y : MethodName} {bytes : ByteArray} {mx : Nat} {rt : Option FieldType} {a : Array Value} {s : State} {m : MethodId} {meth : Method} {c : Code} (h1 : s.methodNamed? y = some m) (h2 : s.vm.method? m = some meth) (h3 : meth.code = some c) (h4 : c.code = bytes)
    (h5 : (c.maxLocals == mx && c.exceptionTable.isEmpty && decide (c.maxStack ≤ mostOperands) && decide (meth.sig.returnType = rt) && !meth.locks && decide (parseMethodDescriptor y.desc = some meth.sig)) = true) : (Jvm.Cond.code y bytes mx rt).before a s = true := by
  simp only [Bool.and_eq_true, beq_iff_eq, Bool.not_eq_true', decide_eq_true_eq] at h5
  obtain ⟨⟨⟨⟨⟨g1, g2⟩, g3⟩, g4⟩, g5⟩, g6⟩ := h5
  simp [Cond.before, Cond.holds, Cond.value, h1, h2, h3, h4, g1, g2, g3, g4, g5, g6]
def isCode : Jvm.Cond → Bool
  | .code _ _ _ _ => true
  | _ => false
theorem all_split {L : List Jvm.Cond} {P : Jvm.Cond → Bool} (h1 : L.all (fun c => isCode c || P c) = true) (h2 : ∀ c ∈ L.filter isCode, P c = true) : L.all P = true := by
  refine List.all_eq_true.mpr fun c hc => ?_
  have h := List.all_eq_true.mp h1 c hc
  rcases Bool.eq_false_or_eq_true (isCode c) with hi | hi
  · exact h2 c (List.mem_filter.mpr ⟨hc, hi⟩)
  · simpa [hi] using h
set_option maxRecDepth 65536 in
theorem w_c0 : (Jvm.Cond.code x code maxLocals ret).before args0 about1 = true := code_word (m := ⟨1, 1⟩) (meth := k1m1) (c := k1c1) (by decide +kernel) rfl rfl rfl (by decide +kernel)
set_option maxRecDepth 65536 in
theorem w_c1 : (Jvm.Cond.code ({ cls := "com/example/quern/quern/core/TreeUpdate", name := "mergeCount", desc := "([J)I" } : Jvm.MethodName) prog_40_method_10_code (5 : Nat) (Option.some Jvm.ClassFile.FieldType.int)).before args0 about1 = true := code_word (m := ⟨2, 0⟩) (meth := k2m0) (c := k2c0) (by decide +kernel) rfl rfl rfl (by decide +kernel)
set_option maxRecDepth 65536 in
theorem w_c2 : (Jvm.Cond.code ({ cls := "com/example/quern/quern/core/TreeUpdateMergeCountPinLaw", name := "expected", desc := "(IJJJJ)I" } : Jvm.MethodName) method_3_code (15 : Nat) (Option.some Jvm.ClassFile.FieldType.int)).before args0 about1 = true := code_word (m := ⟨1, 2⟩) (meth := k1m2) (c := k1c2) (by decide +kernel) rfl rfl rfl (by decide +kernel)
def codes1 : List Jvm.Cond := [Jvm.Cond.code x code maxLocals ret, Jvm.Cond.code ({ cls := "com/example/quern/quern/core/TreeUpdate", name := "mergeCount", desc := "([J)I" } : Jvm.MethodName) prog_40_method_10_code (5 : Nat) (Option.some Jvm.ClassFile.FieldType.int), Jvm.Cond.code ({ cls := "com/example/quern/quern/core/TreeUpdateMergeCountPinLaw", name := "expected", desc := "(IJJJJ)I" } : Jvm.MethodName) method_3_code (15 : Nat) (Option.some Jvm.ClassFile.FieldType.int)]
set_option maxRecDepth 65536 in
theorem codes_eq : words1.filter isCode = codes1 := rfl
theorem w_codes : ∀ c ∈ words1.filter isCode, c.before args0 about1 = true := by
  rw [codes_eq]
  intro c hc
  simp only [codes1, List.mem_cons, List.not_mem_nil, or_false] at hc
  rcases hc with rfl | rfl | rfl
  · exact w_c0
  · exact w_c1
  · exact w_c2
set_option maxRecDepth 65536 in
theorem w_t1 : words1.all (fun c => isCode c || c.before args0 about1) = true := by decide +kernel
theorem w_tables : (allAtoms (Jvm.Cond.code x code maxLocals ret :: tables_1)).before args0 about1 = true := by
  rw [allAtoms_all]
  show words1.all (fun c => c.before args0 about1) = true
  refine all_split ?_ w_codes
  rw [w_t1]
set_option maxRecDepth 65536 in
theorem w_case : (Jvm.Cond.and given_1 narrow_1).before args0 about1 = true := by decide +kernel
theorem w_applies : (headSpec (Jvm.Cond.code x code maxLocals ret :: tables_1) room_1).applies x e0.platform about1 = true :=
  (Spec.applies_iff w_frames).mpr ⟨w_running, w_runnable, w_alone, w_named, w_hears, w_ripe, w_room, w_tables⟩
theorem atStart : AtStart classFile x code maxLocals ret World_1 tables_1 room_1 Calls_1 rest_1 Pre_1 launch0 p0 e0 about1 theMethod args0 below0 :=
  ⟨lists_1, trivial, launch0.admits_env _ _ _, launch0.least_env, fairChoices_fair.cas, fairChoices_fair.clock, w_frames, w_args, w_heap, w_applies, trivial, trivial, w_case⟩
end start1
theorem witness_1 : WitnessClaimed_1 := ⟨start1.p0, start1.e0, start1.about1, start1.theMethod, start1.args0, start1.below0, start1.atStart⟩
end Jvm.Pilot.@@N@@
