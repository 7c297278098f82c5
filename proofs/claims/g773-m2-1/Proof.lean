import JvmDerived
import JvmDerived.Pilot.@@N@@Statement
import JvmDerived.Pilot.@@N@@Code
set_option linter.unusedVariables false
set_option linter.unusedSimpArgs false
namespace Jvm.Pilot.@@N@@
open Jvm Jvm.ClassFile Sem Op Lib Jvm.Free Jvm.Stand Jvm.LawKit Jvm.RoadKit Bundle Jvm.Pilot.@@N@@.Jvm.D
section Own
variable {p : Program} {l : Launch} {e : Env} {R : Room} {s : State} {m : MethodId} {args : Array Value} {below : List Frame} {meth : Method} {c : Code} {T T' : State} {locs : List Loc} {cells slots C N : Nat} {Q : Option Value → Heap → List Loc → Prop} {g g' : JFrame}
/-- from T with the frame g on top the invocation of s comes to its end: it returns, and Q holds of what it returns, of the heap and of the places written -/
def Go (p : Program) (e : Env) (below : List Frame) (s : State) (C N : Nat) (Q : Option Value → Heap → List Loc → Prop) (T : State) (g : JFrame) : Prop :=
  ∃ s₂ o, Steps p.tables e below (T.setTop g) s₂ ∧ s₂.status = .running ∧ Ended s₂ below o ∧ ∃ v L, o = .returned v ∧ Q v s₂.heap L ∧ FrameEnd s o s₂ L C N
theorem Go.st (h : ∀ t, Steps p.tables e below (T'.setTop g') t → Steps p.tables e below (T.setTop g) t) (k : Go p e below s C N Q T' g') : Go p e below s C N Q T g := by
  obtain ⟨s2, o, h1, h2⟩ := k
  exact ⟨s2, o, h _ h1, h2⟩
theorem Go.enter (q : g = g') (k : Go p e below s C N Q T g') : ∃ s₂ o, Steps p.tables e below (T.setTop g) s₂ ∧ s₂.status = .running ∧ Ended s₂ below o ∧ ∃ v L, o = .returned v ∧ Q v s₂.heap L ∧ FrameEnd s o s₂ L C N := by
  subst q; exact k
theorem Go.fin (X : Stand p l e R s m args below meth c T locs cells slots) (hlk : meth.locks = false) {v : Option Value} (hv : meth.sig.returnType = none → v = none) (hC : cells ≤ C) (hN : slots ≤ N) (hq : Q v T.heap locs)
    (hs : ∀ fs, (∀ (f : JFrame) (acts : List Action), f.method = m → f.locked = none → f.entered = [] → (doReturn e (T.setTop f) acts v).1 = T.setFrames fs) → Steps p.tables e below (T.setTop g) (T.setFrames fs)) : Go p e below s C N Q T g := by
  obtain ⟨fs, hr, hrun, hended, hW, hsame⟩ := X.leave hv hlk
  exact ⟨_, _, hs fs hr, hrun, hended, _, _, rfl, hq, ⟨_, rfl⟩, hW, hsame.mono hC hN⟩
end Own

section OwnG
variable {p : Program} {l : Launch} {e : Env} {R : Room} {s : State} {m : MethodId} {args : Array Value} {below : List Frame} {meth : Method} {c : Code} {T : State} {locs : List Loc} {cells slots C N : Nat} {Q : Option Value → Heap → List Loc → Prop} {pc pc' : Nat} {L L' : Array Slot} {S : List Value}
theorem G_iloadN (X : Stand p l e R s m args below meth c T locs cells slots) (hx : p.tables.exec = Jvm.exec) {k : Fin 4} {v : Int32} (hp : pc + 1 = pc') (hd : decode c.code pc = .ok (.iload_n k, 1)) (hl : L[k.val]? = some (.val (.int v))) (h : Go p e below s C N Q T (mkF m pc' L (.int v :: S))) : Go p e below s C N Q T (mkF m pc L S) := by
  subst hp; exact Go.st (fun _ k => XS.iloadN X.here hx rfl hd hl k) h
theorem G_iload (X : Stand p l e R s m args below meth c T locs cells slots) (hx : p.tables.exec = Jvm.exec) {k : Nat} {v : Int32} (hp : pc + 2 = pc') (hd : decode c.code pc = .ok (.iload k, 2)) (hl : L[k]? = some (.val (.int v))) (h : Go p e below s C N Q T (mkF m pc' L (.int v :: S))) : Go p e below s C N Q T (mkF m pc L S) := by
  subst hp; exact Go.st (fun _ k => XS.iload X.here hx rfl hd hl k) h
theorem G_istoreN (X : Stand p l e R s m args below meth c T locs cells slots) (hx : p.tables.exec = Jvm.exec) {k : Fin 4} {v : Int32} (hp : pc + 1 = pc') (hd : decode c.code pc = .ok (.istore_n k, 1)) (hl : storeLocals L k.val (.int v) = some L') (h : Go p e below s C N Q T (mkF m pc' L' S)) : Go p e below s C N Q T (mkF m pc L (.int v :: S)) := by
  subst hp; exact Go.st (fun _ k => XS.istoreN X.here hx rfl hd rfl hl k) h
theorem G_istore (X : Stand p l e R s m args below meth c T locs cells slots) (hx : p.tables.exec = Jvm.exec) {k : Nat} {v : Int32} (hp : pc + 2 = pc') (hd : decode c.code pc = .ok (.istore k, 2)) (hl : storeLocals L k (.int v) = some L') (h : Go p e below s C N Q T (mkF m pc' L' S)) : Go p e below s C N Q T (mkF m pc L (.int v :: S)) := by
  subst hp; exact Go.st (fun _ k => XS.istore X.here hx rfl hd rfl hl k) h
theorem G_lloadN (X : Stand p l e R s m args below meth c T locs cells slots) (hx : p.tables.exec = Jvm.exec) {k : Fin 4} {v : Int64} (hp : pc + 1 = pc') (hd : decode c.code pc = .ok (.lload_n k, 1)) (hl : L[k.val]? = some (.val (.long v))) (h : Go p e below s C N Q T (mkF m pc' L (.long v :: S))) : Go p e below s C N Q T (mkF m pc L S) := by
  subst hp; exact Go.st (fun _ k => XS.lloadN X.here hx rfl hd hl k) h
theorem G_lload (X : Stand p l e R s m args below meth c T locs cells slots) (hx : p.tables.exec = Jvm.exec) {k : Nat} {v : Int64} (hp : pc + 2 = pc') (hd : decode c.code pc = .ok (.lload k, 2)) (hl : L[k]? = some (.val (.long v))) (h : Go p e below s C N Q T (mkF m pc' L (.long v :: S))) : Go p e below s C N Q T (mkF m pc L S) := by
  subst hp; exact Go.st (fun _ k => XS.lload X.here hx rfl hd hl k) h
theorem G_lstoreN (X : Stand p l e R s m args below meth c T locs cells slots) (hx : p.tables.exec = Jvm.exec) {k : Fin 4} {v : Int64} (hp : pc + 1 = pc') (hd : decode c.code pc = .ok (.lstore_n k, 1)) (hl : storeLocals L k.val (.long v) = some L') (h : Go p e below s C N Q T (mkF m pc' L' S)) : Go p e below s C N Q T (mkF m pc L (.long v :: S)) := by
  subst hp; exact Go.st (fun _ k => XS.lstoreN X.here hx rfl hd rfl hl k) h
theorem G_lstore (X : Stand p l e R s m args below meth c T locs cells slots) (hx : p.tables.exec = Jvm.exec) {k : Nat} {v : Int64} (hp : pc + 2 = pc') (hd : decode c.code pc = .ok (.lstore k, 2)) (hl : storeLocals L k (.long v) = some L') (h : Go p e below s C N Q T (mkF m pc' L' S)) : Go p e below s C N Q T (mkF m pc L (.long v :: S)) := by
  subst hp; exact Go.st (fun _ k => XS.lstore X.here hx rfl hd rfl hl k) h
theorem G_aloadN (X : Stand p l e R s m args below meth c T locs cells slots) (hx : p.tables.exec = Jvm.exec) {k : Fin 4} {v : Value} (hp : pc + 1 = pc') (hd : decode c.code pc = .ok (.aload_n k, 1)) (hl : L[k.val]? = some (.val v)) (hv : v.isRef = true) (h : Go p e below s C N Q T (mkF m pc' L (v :: S))) : Go p e below s C N Q T (mkF m pc L S) := by
  subst hp; exact Go.st (fun _ k => XS.aloadN X.here hx rfl hd hl hv k) h
theorem G_aload (X : Stand p l e R s m args below meth c T locs cells slots) (hx : p.tables.exec = Jvm.exec) {k : Nat} {v : Value} (hp : pc + 2 = pc') (hd : decode c.code pc = .ok (.aload k, 2)) (hl : L[k]? = some (.val v)) (hv : v.isRef = true) (h : Go p e below s C N Q T (mkF m pc' L (v :: S))) : Go p e below s C N Q T (mkF m pc L S) := by
  subst hp; exact Go.st (fun _ k => XS.aload X.here hx rfl hd hl hv k) h
theorem G_astoreN (X : Stand p l e R s m args below meth c T locs cells slots) (hx : p.tables.exec = Jvm.exec) {k : Fin 4} {v : Value} (hp : pc + 1 = pc') (hd : decode c.code pc = .ok (.astore_n k, 1)) (hv : v.isRef = true) (hl : storeLocals L k.val v = some L') (h : Go p e below s C N Q T (mkF m pc' L' S)) : Go p e below s C N Q T (mkF m pc L (v :: S)) := by
  subst hp; exact Go.st (fun _ k => XS.astoreN X.here hx rfl hd rfl hv hl k) h
theorem G_astore (X : Stand p l e R s m args below meth c T locs cells slots) (hx : p.tables.exec = Jvm.exec) {k : Nat} {v : Value} (hp : pc + 2 = pc') (hd : decode c.code pc = .ok (.astore k, 2)) (hv : v.isRef = true) (hl : storeLocals L k v = some L') (h : Go p e below s C N Q T (mkF m pc' L' S)) : Go p e below s C N Q T (mkF m pc L (v :: S)) := by
  subst hp; exact Go.st (fun _ k => XS.astore X.here hx rfl hd rfl hv hl k) h
theorem G_iconst (X : Stand p l e R s m args below meth c T locs cells slots) (hx : p.tables.exec = Jvm.exec) {i : Int} {z : Int32} (hp : pc + 1 = pc') (hd : decode c.code pc = .ok (.iconst i, 1)) (hz : Int32.ofInt i = z) (h : Go p e below s C N Q T (mkF m pc' L (.int z :: S))) : Go p e below s C N Q T (mkF m pc L S) := by
  subst hp; exact Go.st (fun _ k => XS.iconst X.here hx rfl hd (by rw [hz]; exact k)) h
theorem G_bipush (X : Stand p l e R s m args below meth c T locs cells slots) (hx : p.tables.exec = Jvm.exec) {i : Int} {z : Int32} (hp : pc + 2 = pc') (hd : decode c.code pc = .ok (.bipush i, 2)) (hz : (Int8.ofInt i).toInt32 = z) (h : Go p e below s C N Q T (mkF m pc' L (.int z :: S))) : Go p e below s C N Q T (mkF m pc L S) := by
  subst hp; exact Go.st (fun _ k => XS.bipush X.here hx rfl hd (by rw [hz]; exact k)) h
theorem G_sipush (X : Stand p l e R s m args below meth c T locs cells slots) (hx : p.tables.exec = Jvm.exec) {i : Int} {z : Int32} (hp : pc + 3 = pc') (hd : decode c.code pc = .ok (.sipush i, 3)) (hz : (Int16.ofInt i).toInt32 = z) (h : Go p e below s C N Q T (mkF m pc' L (.int z :: S))) : Go p e below s C N Q T (mkF m pc L S) := by
  subst hp; exact Go.st (fun _ k => XS.sipush X.here hx rfl hd (by rw [hz]; exact k)) h
theorem G_lconst (X : Stand p l e R s m args below meth c T locs cells slots) (hx : p.tables.exec = Jvm.exec) {i : Fin 2} {z : Int64} (hp : pc + 1 = pc') (hd : decode c.code pc = .ok (.lconst i, 1)) (hz : Int64.ofNat i = z) (h : Go p e below s C N Q T (mkF m pc' L (.long z :: S))) : Go p e below s C N Q T (mkF m pc L S) := by
  subst hp; exact Go.st (fun _ k => XS.lconst X.here hx rfl hd (by rw [hz]; exact k)) h
theorem G_aconstNull (X : Stand p l e R s m args below meth c T locs cells slots) (hx : p.tables.exec = Jvm.exec)  (hp : pc + 1 = pc') (hd : decode c.code pc = .ok (.aconst_null, 1))  (h : Go p e below s C N Q T (mkF m pc' L (.null :: S))) : Go p e below s C N Q T (mkF m pc L S) := by
  subst hp; exact Go.st (fun _ k => XS.aconstNull X.here hx rfl hd k) h
theorem G_iadd (X : Stand p l e R s m args below meth c T locs cells slots) (hx : p.tables.exec = Jvm.exec) {x y : Int32} (hp : pc + 1 = pc') (hd : decode c.code pc = .ok (.iadd, 1))  (h : Go p e below s C N Q T (mkF m pc' L (.int (x + y) :: S))) : Go p e below s C N Q T (mkF m pc L (.int y :: .int x :: S)) := by
  subst hp; exact Go.st (fun _ k => XS.iadd X.here hx rfl hd rfl k) h
theorem G_isub (X : Stand p l e R s m args below meth c T locs cells slots) (hx : p.tables.exec = Jvm.exec) {x y : Int32} (hp : pc + 1 = pc') (hd : decode c.code pc = .ok (.isub, 1))  (h : Go p e below s C N Q T (mkF m pc' L (.int (x - y) :: S))) : Go p e below s C N Q T (mkF m pc L (.int y :: .int x :: S)) := by
  subst hp; exact Go.st (fun _ k => XS.isub X.here hx rfl hd rfl k) h
theorem G_imul (X : Stand p l e R s m args below meth c T locs cells slots) (hx : p.tables.exec = Jvm.exec) {x y : Int32} (hp : pc + 1 = pc') (hd : decode c.code pc = .ok (.imul, 1))  (h : Go p e below s C N Q T (mkF m pc' L (.int (x * y) :: S))) : Go p e below s C N Q T (mkF m pc L (.int y :: .int x :: S)) := by
  subst hp; exact Go.st (fun _ k => XS.imul X.here hx rfl hd rfl k) h
theorem G_iand (X : Stand p l e R s m args below meth c T locs cells slots) (hx : p.tables.exec = Jvm.exec) {x y : Int32} (hp : pc + 1 = pc') (hd : decode c.code pc = .ok (.iand, 1))  (h : Go p e below s C N Q T (mkF m pc' L (.int (x &&& y) :: S))) : Go p e below s C N Q T (mkF m pc L (.int y :: .int x :: S)) := by
  subst hp; exact Go.st (fun _ k => XS.iand X.here hx rfl hd rfl k) h
theorem G_ior (X : Stand p l e R s m args below meth c T locs cells slots) (hx : p.tables.exec = Jvm.exec) {x y : Int32} (hp : pc + 1 = pc') (hd : decode c.code pc = .ok (.ior, 1))  (h : Go p e below s C N Q T (mkF m pc' L (.int (x ||| y) :: S))) : Go p e below s C N Q T (mkF m pc L (.int y :: .int x :: S)) := by
  subst hp; exact Go.st (fun _ k => XS.ior X.here hx rfl hd rfl k) h
theorem G_ixor (X : Stand p l e R s m args below meth c T locs cells slots) (hx : p.tables.exec = Jvm.exec) {x y : Int32} (hp : pc + 1 = pc') (hd : decode c.code pc = .ok (.ixor, 1))  (h : Go p e below s C N Q T (mkF m pc' L (.int (x ^^^ y) :: S))) : Go p e below s C N Q T (mkF m pc L (.int y :: .int x :: S)) := by
  subst hp; exact Go.st (fun _ k => XS.ixor X.here hx rfl hd rfl k) h
theorem G_ishl (X : Stand p l e R s m args below meth c T locs cells slots) (hx : p.tables.exec = Jvm.exec) {x y : Int32} (hp : pc + 1 = pc') (hd : decode c.code pc = .ok (.ishl, 1))  (h : Go p e below s C N Q T (mkF m pc' L (.int (x <<< (y &&& 31)) :: S))) : Go p e below s C N Q T (mkF m pc L (.int y :: .int x :: S)) := by
  subst hp; exact Go.st (fun _ k => XS.ishl X.here hx rfl hd rfl k) h
theorem G_ishr (X : Stand p l e R s m args below meth c T locs cells slots) (hx : p.tables.exec = Jvm.exec) {x y : Int32} (hp : pc + 1 = pc') (hd : decode c.code pc = .ok (.ishr, 1))  (h : Go p e below s C N Q T (mkF m pc' L (.int (x >>> (y &&& 31)) :: S))) : Go p e below s C N Q T (mkF m pc L (.int y :: .int x :: S)) := by
  subst hp; exact Go.st (fun _ k => XS.ishr X.here hx rfl hd rfl k) h
theorem G_iushr (X : Stand p l e R s m args below meth c T locs cells slots) (hx : p.tables.exec = Jvm.exec) {x y : Int32} (hp : pc + 1 = pc') (hd : decode c.code pc = .ok (.iushr, 1))  (h : Go p e below s C N Q T (mkF m pc' L (.int ((x.toUInt32 >>> (y &&& 31).toUInt32).toInt32) :: S))) : Go p e below s C N Q T (mkF m pc L (.int y :: .int x :: S)) := by
  subst hp; exact Go.st (fun _ k => XS.iushr X.here hx rfl hd rfl k) h
theorem G_ladd (X : Stand p l e R s m args below meth c T locs cells slots) (hx : p.tables.exec = Jvm.exec) {x y : Int64} (hp : pc + 1 = pc') (hd : decode c.code pc = .ok (.ladd, 1))  (h : Go p e below s C N Q T (mkF m pc' L (.long (x + y) :: S))) : Go p e below s C N Q T (mkF m pc L (.long y :: .long x :: S)) := by
  subst hp; exact Go.st (fun _ k => XS.ladd X.here hx rfl hd rfl k) h
theorem G_lsub (X : Stand p l e R s m args below meth c T locs cells slots) (hx : p.tables.exec = Jvm.exec) {x y : Int64} (hp : pc + 1 = pc') (hd : decode c.code pc = .ok (.lsub, 1))  (h : Go p e below s C N Q T (mkF m pc' L (.long (x - y) :: S))) : Go p e below s C N Q T (mkF m pc L (.long y :: .long x :: S)) := by
  subst hp; exact Go.st (fun _ k => XS.lsub X.here hx rfl hd rfl k) h
theorem G_lmul (X : Stand p l e R s m args below meth c T locs cells slots) (hx : p.tables.exec = Jvm.exec) {x y : Int64} (hp : pc + 1 = pc') (hd : decode c.code pc = .ok (.lmul, 1))  (h : Go p e below s C N Q T (mkF m pc' L (.long (x * y) :: S))) : Go p e below s C N Q T (mkF m pc L (.long y :: .long x :: S)) := by
  subst hp; exact Go.st (fun _ k => XS.lmul X.here hx rfl hd rfl k) h
theorem G_land (X : Stand p l e R s m args below meth c T locs cells slots) (hx : p.tables.exec = Jvm.exec) {x y : Int64} (hp : pc + 1 = pc') (hd : decode c.code pc = .ok (.land, 1))  (h : Go p e below s C N Q T (mkF m pc' L (.long (x &&& y) :: S))) : Go p e below s C N Q T (mkF m pc L (.long y :: .long x :: S)) := by
  subst hp; exact Go.st (fun _ k => XS.land X.here hx rfl hd rfl k) h
theorem G_lor (X : Stand p l e R s m args below meth c T locs cells slots) (hx : p.tables.exec = Jvm.exec) {x y : Int64} (hp : pc + 1 = pc') (hd : decode c.code pc = .ok (.lor, 1))  (h : Go p e below s C N Q T (mkF m pc' L (.long (x ||| y) :: S))) : Go p e below s C N Q T (mkF m pc L (.long y :: .long x :: S)) := by
  subst hp; exact Go.st (fun _ k => XS.lor X.here hx rfl hd rfl k) h
theorem G_lxor (X : Stand p l e R s m args below meth c T locs cells slots) (hx : p.tables.exec = Jvm.exec) {x y : Int64} (hp : pc + 1 = pc') (hd : decode c.code pc = .ok (.lxor, 1))  (h : Go p e below s C N Q T (mkF m pc' L (.long (x ^^^ y) :: S))) : Go p e below s C N Q T (mkF m pc L (.long y :: .long x :: S)) := by
  subst hp; exact Go.st (fun _ k => XS.lxor X.here hx rfl hd rfl k) h
theorem G_lshl (X : Stand p l e R s m args below meth c T locs cells slots) (hx : p.tables.exec = Jvm.exec) {x : Int64} {y : Int32} (hp : pc + 1 = pc') (hd : decode c.code pc = .ok (.lshl, 1))  (h : Go p e below s C N Q T (mkF m pc' L (.long (x <<< (y &&& 0x3f).toInt64) :: S))) : Go p e below s C N Q T (mkF m pc L (.int y :: .long x :: S)) := by
  subst hp; exact Go.st (fun _ k => XS.lshl X.here hx rfl hd rfl k) h
theorem G_lshr (X : Stand p l e R s m args below meth c T locs cells slots) (hx : p.tables.exec = Jvm.exec) {x : Int64} {y : Int32} (hp : pc + 1 = pc') (hd : decode c.code pc = .ok (.lshr, 1))  (h : Go p e below s C N Q T (mkF m pc' L (.long (x >>> (y &&& 0x3f).toInt64) :: S))) : Go p e below s C N Q T (mkF m pc L (.int y :: .long x :: S)) := by
  subst hp; exact Go.st (fun _ k => XS.lshr X.here hx rfl hd rfl k) h
theorem G_lushr (X : Stand p l e R s m args below meth c T locs cells slots) (hx : p.tables.exec = Jvm.exec) {x : Int64} {y : Int32} (hp : pc + 1 = pc') (hd : decode c.code pc = .ok (.lushr, 1))  (h : Go p e below s C N Q T (mkF m pc' L (.long ((x.toUInt64 >>> (y &&& 0x3f).toInt64.toUInt64).toInt64) :: S))) : Go p e below s C N Q T (mkF m pc L (.int y :: .long x :: S)) := by
  subst hp; exact Go.st (fun _ k => XS.lushr X.here hx rfl hd rfl k) h
theorem G_idiv (X : Stand p l e R s m args below meth c T locs cells slots) (hx : p.tables.exec = Jvm.exec) {x y : Int32} (hp : pc + 1 = pc') (hd : decode c.code pc = .ok (.idiv, 1)) (hy : y ≠ 0) (h : Go p e below s C N Q T (mkF m pc' L (.int (x / y) :: S))) : Go p e below s C N Q T (mkF m pc L (.int y :: .int x :: S)) := by
  subst hp; exact Go.st (fun _ k => XS.idiv X.here hx rfl hd rfl hy k) h
theorem G_irem (X : Stand p l e R s m args below meth c T locs cells slots) (hx : p.tables.exec = Jvm.exec) {x y : Int32} (hp : pc + 1 = pc') (hd : decode c.code pc = .ok (.irem, 1)) (hy : y ≠ 0) (h : Go p e below s C N Q T (mkF m pc' L (.int (x % y) :: S))) : Go p e below s C N Q T (mkF m pc L (.int y :: .int x :: S)) := by
  subst hp; exact Go.st (fun _ k => iremM X hx rfl hd rfl hy k) h
theorem G_ldiv (X : Stand p l e R s m args below meth c T locs cells slots) (hx : p.tables.exec = Jvm.exec) {x y : Int64} (hp : pc + 1 = pc') (hd : decode c.code pc = .ok (.ldiv, 1)) (hy : y ≠ 0) (h : Go p e below s C N Q T (mkF m pc' L (.long (x / y) :: S))) : Go p e below s C N Q T (mkF m pc L (.long y :: .long x :: S)) := by
  subst hp; exact Go.st (fun _ k => XS.ldiv X.here hx rfl hd rfl hy k) h
theorem G_lrem (X : Stand p l e R s m args below meth c T locs cells slots) (hx : p.tables.exec = Jvm.exec) {x y : Int64} (hp : pc + 1 = pc') (hd : decode c.code pc = .ok (.lrem, 1)) (hy : y ≠ 0) (h : Go p e below s C N Q T (mkF m pc' L (.long (x % y) :: S))) : Go p e below s C N Q T (mkF m pc L (.long y :: .long x :: S)) := by
  subst hp; exact Go.st (fun _ k => XS.lrem X.here hx rfl hd rfl hy (by rw [lrem_mod]; exact k)) h
theorem G_ineg (X : Stand p l e R s m args below meth c T locs cells slots) (hx : p.tables.exec = Jvm.exec) {x : Int32} (hp : pc + 1 = pc') (hd : decode c.code pc = .ok (.ineg, 1))  (h : Go p e below s C N Q T (mkF m pc' L (.int (-x) :: S))) : Go p e below s C N Q T (mkF m pc L (.int x :: S)) := by
  subst hp; exact Go.st (fun _ k => XS.ineg X.here hx rfl hd rfl k) h
theorem G_lneg (X : Stand p l e R s m args below meth c T locs cells slots) (hx : p.tables.exec = Jvm.exec) {x : Int64} (hp : pc + 1 = pc') (hd : decode c.code pc = .ok (.lneg, 1))  (h : Go p e below s C N Q T (mkF m pc' L (.long (-x) :: S))) : Go p e below s C N Q T (mkF m pc L (.long x :: S)) := by
  subst hp; exact Go.st (fun _ k => XS.lneg X.here hx rfl hd rfl k) h
theorem G_i2l (X : Stand p l e R s m args below meth c T locs cells slots) (hx : p.tables.exec = Jvm.exec) {x : Int32} (hp : pc + 1 = pc') (hd : decode c.code pc = .ok (.i2l, 1))  (h : Go p e below s C N Q T (mkF m pc' L (.long (x.toInt64) :: S))) : Go p e below s C N Q T (mkF m pc L (.int x :: S)) := by
  subst hp; exact Go.st (fun _ k => XS.i2l X.here hx rfl hd rfl k) h
theorem G_l2i (X : Stand p l e R s m args below meth c T locs cells slots) (hx : p.tables.exec = Jvm.exec) {x : Int64} (hp : pc + 1 = pc') (hd : decode c.code pc = .ok (.l2i, 1))  (h : Go p e below s C N Q T (mkF m pc' L (.int (x.toInt32) :: S))) : Go p e below s C N Q T (mkF m pc L (.long x :: S)) := by
  subst hp; exact Go.st (fun _ k => XS.l2i X.here hx rfl hd rfl k) h
theorem G_i2b (X : Stand p l e R s m args below meth c T locs cells slots) (hx : p.tables.exec = Jvm.exec) {x : Int32} (hp : pc + 1 = pc') (hd : decode c.code pc = .ok (.i2b, 1))  (h : Go p e below s C N Q T (mkF m pc' L (.int (x.toInt8.toInt32) :: S))) : Go p e below s C N Q T (mkF m pc L (.int x :: S)) := by
  subst hp; exact Go.st (fun _ k => XS.i2b X.here hx rfl hd rfl k) h
theorem G_i2s (X : Stand p l e R s m args below meth c T locs cells slots) (hx : p.tables.exec = Jvm.exec) {x : Int32} (hp : pc + 1 = pc') (hd : decode c.code pc = .ok (.i2s, 1))  (h : Go p e below s C N Q T (mkF m pc' L (.int (x.toInt16.toInt32) :: S))) : Go p e below s C N Q T (mkF m pc L (.int x :: S)) := by
  subst hp; exact Go.st (fun _ k => XS.i2s X.here hx rfl hd rfl k) h
theorem G_i2c (X : Stand p l e R s m args below meth c T locs cells slots) (hx : p.tables.exec = Jvm.exec) {x : Int32} (hp : pc + 1 = pc') (hd : decode c.code pc = .ok (.i2c, 1))  (h : Go p e below s C N Q T (mkF m pc' L (.int (x.toUInt32.toUInt16.toUInt32.toInt32) :: S))) : Go p e below s C N Q T (mkF m pc L (.int x :: S)) := by
  subst hp; exact Go.st (fun _ k => XS.i2c X.here hx rfl hd rfl k) h
theorem G_lcmp (X : Stand p l e R s m args below meth c T locs cells slots) (hx : p.tables.exec = Jvm.exec) {x y : Int64} (hp : pc + 1 = pc') (hd : decode c.code pc = .ok (.lcmp, 1))  (h : Go p e below s C N Q T (mkF m pc' L (.int (lcmpW x y) :: S))) : Go p e below s C N Q T (mkF m pc L (.long y :: .long x :: S)) := by
  subst hp; exact Go.st (fun _ k => XS.lcmp X.here hx rfl hd rfl k) h
theorem G_iinc (X : Stand p l e R s m args below meth c T locs cells slots) (hx : p.tables.exec = Jvm.exec) {k : Nat} {cst : Int} {x z : Int32} (hp : pc + 3 = pc') (hd : decode c.code pc = .ok (.iinc k cst, 3)) (hl : L[k]? = some (.val (.int x))) (hz : x + Int32.ofInt cst = z) (hl' : storeLocals L k (.int z) = some L') (h : Go p e below s C N Q T (mkF m pc' L' S)) : Go p e below s C N Q T (mkF m pc L S) := by
  subst hp; exact Go.st (fun _ k => XS.iinc X.here hx rfl hd hl (by rw [hz]; exact hl') k) h
theorem G_dup (X : Stand p l e R s m args below meth c T locs cells slots) (hx : p.tables.exec = Jvm.exec) {x : Value} (hp : pc + 1 = pc') (hd : decode c.code pc = .ok (.dup, 1)) (hc : x.category = 1) (h : Go p e below s C N Q T (mkF m pc' L (x :: x :: S))) : Go p e below s C N Q T (mkF m pc L (x :: S)) := by
  subst hp; exact Go.st (fun _ k => XS.dup X.here hx rfl hd rfl hc k) h
theorem G_pop (X : Stand p l e R s m args below meth c T locs cells slots) (hx : p.tables.exec = Jvm.exec) {x : Value} (hp : pc + 1 = pc') (hd : decode c.code pc = .ok (.pop, 1)) (hc : x.category = 1) (h : Go p e below s C N Q T (mkF m pc' L S)) : Go p e below s C N Q T (mkF m pc L (x :: S)) := by
  subst hp; exact Go.st (fun _ k => XS.pop X.here hx rfl hd rfl hc k) h
theorem G_dupX1 (X : Stand p l e R s m args below meth c T locs cells slots) (hx : p.tables.exec = Jvm.exec) {x y : Value} (hp : pc + 1 = pc') (hd : decode c.code pc = .ok (.dup_x1, 1)) (hc : x.category = 1) (hc' : y.category = 1) (h : Go p e below s C N Q T (mkF m pc' L (x :: y :: x :: S))) : Go p e below s C N Q T (mkF m pc L (x :: y :: S)) := by
  subst hp; exact Go.st (fun _ k => XS.dupX1 X.here hx rfl hd rfl hc hc' k) h
theorem G_goto (X : Stand p l e R s m args below meth c T locs cells slots) (hx : p.tables.exec = Jvm.exec)  {o : Int} (hd : decode c.code pc = .ok (.goto o, 3))  (ho : 0 ≤ (pc : Int) + o) (hp : ((pc : Int) + o).toNat = pc') (h : Go p e below s C N Q T (mkF m pc' L S)) : Go p e below s C N Q T (mkF m pc L S) :=
  Go.st (fun _ k => XS.goto X.here hx rfl rfl hd ho hp k) h
theorem G_ifYes (X : Stand p l e R s m args below meth c T locs cells slots) (hx : p.tables.exec = Jvm.exec) {cd : ClassFile.Cond} {x : Int32} {o : Int} (hd : decode c.code pc = .ok (.ifCond cd o, 3)) (hc : ifCond.holds cd x = true) (ho : 0 ≤ (pc : Int) + o) (hp : ((pc : Int) + o).toNat = pc') (h : Go p e below s C N Q T (mkF m pc' L S)) : Go p e below s C N Q T (mkF m pc L (.int x :: S)) :=
  Go.st (fun _ k => XS.ifYes X.here hx rfl rfl hd rfl hc ho hp k) h
theorem G_icmpYes (X : Stand p l e R s m args below meth c T locs cells slots) (hx : p.tables.exec = Jvm.exec) {cd : ClassFile.Cond} {x y : Int32} {o : Int} (hd : decode c.code pc = .ok (.if_icmp cd o, 3)) (hc : if_icmp.holds cd x y = true) (ho : 0 ≤ (pc : Int) + o) (hp : ((pc : Int) + o).toNat = pc') (h : Go p e below s C N Q T (mkF m pc' L S)) : Go p e below s C N Q T (mkF m pc L (.int y :: .int x :: S)) :=
  Go.st (fun _ k => XS.icmpYes X.here hx rfl rfl hd rfl hc ho hp k) h
theorem G_ifnullYes (X : Stand p l e R s m args below meth c T locs cells slots) (hx : p.tables.exec = Jvm.exec)  {o : Int} (hd : decode c.code pc = .ok (.ifnull o, 3))  (ho : 0 ≤ (pc : Int) + o) (hp : ((pc : Int) + o).toNat = pc') (h : Go p e below s C N Q T (mkF m pc' L S)) : Go p e below s C N Q T (mkF m pc L (.null :: S)) :=
  Go.st (fun _ k => XS.ifnullYes X.here hx rfl rfl hd rfl ho hp k) h
theorem G_ifnonnullYes (X : Stand p l e R s m args below meth c T locs cells slots) (hx : p.tables.exec = Jvm.exec) {b : Addr} {o : Int} (hd : decode c.code pc = .ok (.ifnonnull o, 3))  (ho : 0 ≤ (pc : Int) + o) (hp : ((pc : Int) + o).toNat = pc') (h : Go p e below s C N Q T (mkF m pc' L S)) : Go p e below s C N Q T (mkF m pc L (.ref b :: S)) :=
  Go.st (fun _ k => XS.ifnonnullYes X.here hx rfl rfl hd rfl ho hp k) h
theorem G_ifNo (X : Stand p l e R s m args below meth c T locs cells slots) (hx : p.tables.exec = Jvm.exec) {cd : ClassFile.Cond} {x : Int32} {o : Int} (hp : pc + 3 = pc') (hd : decode c.code pc = .ok (.ifCond cd o, 3)) (hc : ifCond.holds cd x = false) (h : Go p e below s C N Q T (mkF m pc' L S)) : Go p e below s C N Q T (mkF m pc L (.int x :: S)) := by
  subst hp; exact Go.st (fun _ k => XS.ifNo X.here hx rfl hd rfl hc k) h
theorem G_icmpNo (X : Stand p l e R s m args below meth c T locs cells slots) (hx : p.tables.exec = Jvm.exec) {cd : ClassFile.Cond} {x y : Int32} {o : Int} (hp : pc + 3 = pc') (hd : decode c.code pc = .ok (.if_icmp cd o, 3)) (hc : if_icmp.holds cd x y = false) (h : Go p e below s C N Q T (mkF m pc' L S)) : Go p e below s C N Q T (mkF m pc L (.int y :: .int x :: S)) := by
  subst hp; exact Go.st (fun _ k => XS.icmpNo X.here hx rfl hd rfl hc k) h
theorem G_ifnullNo (X : Stand p l e R s m args below meth c T locs cells slots) (hx : p.tables.exec = Jvm.exec) {b : Addr} {o : Int} (hp : pc + 3 = pc') (hd : decode c.code pc = .ok (.ifnull o, 3))  (h : Go p e below s C N Q T (mkF m pc' L S)) : Go p e below s C N Q T (mkF m pc L (.ref b :: S)) := by
  subst hp; exact Go.st (fun _ k => XS.ifnullNo X.here hx rfl hd rfl k) h
theorem G_ifnonnullNo (X : Stand p l e R s m args below meth c T locs cells slots) (hx : p.tables.exec = Jvm.exec) {o : Int} (hp : pc + 3 = pc') (hd : decode c.code pc = .ok (.ifnonnull o, 3))  (h : Go p e below s C N Q T (mkF m pc' L S)) : Go p e below s C N Q T (mkF m pc L (.null :: S)) := by
  subst hp; exact Go.st (fun _ k => XS.ifnonnullNo X.here hx rfl hd rfl k) h
theorem G_ldc (X : Stand p l e R s m args below meth c T locs cells slots) (hx : p.tables.exec = Jvm.exec) (hp : pc + 2 = pc') {own : String} {index : Nat} {v : Int32} (hown : s.vm.findClass own = some m.cls) (hw : (Cond.constant own index v).before args s = true) (hd : decode c.code pc = .ok (.ldc index, 2)) (h : Go p e below s C N Q T (mkF m pc' L (.int v :: S))) : Go p e below s C N Q T (mkF m pc L S) := by
  subst hp; exact Go.st (X.ldcInt hx hown hw (g := mkF m pc L S) rfl hd) h
theorem G_ldc2 (X : Stand p l e R s m args below meth c T locs cells slots) (hx : p.tables.exec = Jvm.exec) (hp : pc + 3 = pc') {own : String} {index : Nat} {v : Int64} (hown : s.vm.findClass own = some m.cls) (hw : (Cond.constantLong own index v).before args s = true) (hd : decode c.code pc = .ok (.ldc2_w index, 3)) (h : Go p e below s C N Q T (mkF m pc' L (.long v :: S))) : Go p e below s C N Q T (mkF m pc L S) := by
  subst hp; exact Go.st (X.ldc2Long hx hown hw (g := mkF m pc L S) rfl hd) h
end OwnG

section OwnArr
variable {p : Program} {l : Launch} {e : Env} {R : Room} {s : State} {m : MethodId} {args : Array Value} {below : List Frame} {meth : Method} {c : Code} {T T' : State} {locs : List Loc} {cells slots : Nat} {Z : State} {a0 : Array Value} {h h' : Heap} {a b : Addr} {ty : FieldType} {vs : List Value} {xs : List Int32} {ys : List Int64} {v : Value} {sl : Nat} {ws : List Addr}
/-- the array at a, of components ty, holds just these values -/
def AV (Z : State) (h : Heap) (a : Addr) (ty : FieldType) (vs : List Value) : Prop := ∃ c : Cell, Arr Z h a c ty ∧ c.slots = vs.toArray ∧ vs.length < 2147483648 ∧ ∀ v ∈ vs, fits ty v = true
def AI (Z : State) (h : Heap) (a : Addr) (ty : FieldType) (xs : List Int32) : Prop := AV Z h a ty (xs.map Value.int)
def AJ (Z : State) (h : Heap) (a : Addr) (ys : List Int64) : Prop := AV Z h a .long (ys.map Value.long)
theorem AV.lt (F : AV Z h a ty vs) : a < h.size := by obtain ⟨c, A, -⟩ := F; exact A.lt
theorem AV.ext (F : AV Z h a ty vs) (E : Ext h h') : AV Z h' a ty vs := by obtain ⟨c, A, r⟩ := F; exact ⟨c, A.ext E, r⟩
theorem AV.other (F : AV Z h b ty vs) (W : Wr h h' a sl v) (q : b ≠ a) : AV Z h' b ty vs := by obtain ⟨c, A, r⟩ := F; exact ⟨c, A.other W q, r⟩
theorem AV.keep (F : AV Z h a ty vs) (K : Keep h h' ws) (q : a ∉ ws) : AV Z h' a ty vs := by obtain ⟨c, A, r⟩ := F; exact ⟨c, ⟨K.2.1 a c A.1 q, A.2⟩, r⟩
theorem AI.lt (F : AI Z h a ty xs) : a < h.size := AV.lt F
theorem AI.ext (F : AI Z h a ty xs) (E : Ext h h') : AI Z h' a ty xs := AV.ext F E
theorem AI.other (F : AI Z h b ty xs) (W : Wr h h' a sl v) (q : b ≠ a) : AI Z h' b ty xs := AV.other F W q
theorem AI.keep (F : AI Z h a ty xs) (K : Keep h h' ws) (q : a ∉ ws) : AI Z h' a ty xs := AV.keep F K q
theorem AJ.lt (F : AJ Z h a ys) : a < h.size := AV.lt F
theorem AJ.ext (F : AJ Z h a ys) (E : Ext h h') : AJ Z h' a ys := AV.ext F E
theorem AJ.other (F : AJ Z h b ys) (W : Wr h h' a sl v) (q : b ≠ a) : AJ Z h' b ys := AV.other F W q
theorem AJ.keep (F : AJ Z h a ys) (K : Keep h h' ws) (q : a ∉ ws) : AJ Z h' a ys := AV.keep F K q
theorem own_in {j : Int32} {n : Nat} (h1 : ¬ j < 0) (h2 : j.toNatClampNeg < n) : ¬ (j < 0 ∨ n ≤ j.toNatClampNeg) := fun q => q.elim h1 (fun r => by omega)
theorem AV.new {k : ClassId} {n : Int32} (A : Arr Z h a (newA k ty n) ty) (q : ¬ n < 0) (hf : fits ty (defaultValue ty) = true) : AV Z h a ty (List.replicate n.toNatClampNeg (defaultValue ty)) := by
  refine ⟨_, A, by simp [newA], ?_, fun v hv => ?_⟩
  · rw [List.length_replicate]; exact (back32 q).2
  · rw [List.eq_of_mem_replicate hv]; exact hf
theorem AV.set {cl : Cell} {jn : Nat} (A : Arr Z h a cl ty) (e1 : cl.slots = vs.toArray) (e2 : vs.length < 2147483648) (e3 : ∀ v ∈ vs, fits ty v = true) (hv : fits ty v = true) (W : Wr h h' a jn v) : AV Z h' a ty (vs.set jn v) := by
  refine ⟨cl.setSlot jn v, A.same W, ?_, by rw [List.length_set]; exact e2, fun w hw => ?_⟩
  · simp [Cell.setSlot, e1]
  · rcases List.mem_or_eq_of_mem_set hw with q | q
    · exact e3 w q
    · rw [q]; exact hv
theorem newAI (X : Stand p l e R s m args below meth c T locs cells slots) (hx : p.tables.exec = Jvm.exec) (hZ : Z.Warmed39 s.vm) {aty : ArrayType} (w : (Cond.arrayClass (newarray.typeOf aty)).before a0 Z = true) (eT : T.heap = h) {g : JFrame} (hg : g.method = m) (hd : decode c.code g.pc = .ok (.newarray aty, 2)) {n : Int32} {rest : List Value} (hs : g.stack = .int n :: rest)
    (hn : ¬ n < 0) {ty : FieldType} (hty : newarray.typeOf aty = ty) (hdv : defaultValue ty = .int 0 ∧ fits ty (.int 0) = true) {cap : Nat} (hcap : n.toNatClampNeg ≤ cap) (hb : cap * 8 ≤ 536870912) (hc : cells + 1 ≤ R.cells) (hl : slots + cap ≤ R.slots) {ad : String} (had : "[" ++ (newarray.typeOf aty).toString = ad) :
    ∃ T' h', Stand p l e R s m args below meth c T' locs (cells + 1) (slots + cap) ∧ T'.heap = h' ∧ Ext h h' ∧ Exa Z h' h.size ad ∧ AI Z h' h.size ty (List.replicate n.toNatClampNeg 0) ∧
      ∀ target, Steps p.tables e below (T'.setTop { g with pc := g.pc + 2, stack := .ref h.size :: rest }) target → Steps p.tables e below (T.setTop g) target := by
  subst hty
  obtain ⟨T', h', cA, X', e', E', A', B', st⟩ := newPE X hx hZ w eT hg hd hs hn hcap hb hc hl had
  have V := AV.new A' hn (by rw [hdv.1]; exact hdv.2)
  refine ⟨T', h', X', e', E', B', ?_, st⟩
  unfold AI
  rw [List.map_replicate, ← hdv.1]
  exact V
theorem newAJ (X : Stand p l e R s m args below meth c T locs cells slots) (hx : p.tables.exec = Jvm.exec) (hZ : Z.Warmed39 s.vm) (w : (Cond.arrayClass .long).before a0 Z = true) (eT : T.heap = h) {g : JFrame} (hg : g.method = m) (hd : decode c.code g.pc = .ok (.newarray .long, 2)) {n : Int32} {rest : List Value} (hs : g.stack = .int n :: rest)
    (hn : ¬ n < 0) {cap : Nat} (hcap : n.toNatClampNeg ≤ cap) (hb : cap * 8 ≤ 536870912) (hc : cells + 1 ≤ R.cells) (hl : slots + cap ≤ R.slots) {ad : String} (had : "[" ++ (newarray.typeOf .long).toString = ad) :
    ∃ T' h', Stand p l e R s m args below meth c T' locs (cells + 1) (slots + cap) ∧ T'.heap = h' ∧ Ext h h' ∧ Exa Z h' h.size ad ∧ AJ Z h' h.size (List.replicate n.toNatClampNeg 0) ∧
      ∀ target, Steps p.tables e below (T'.setTop { g with pc := g.pc + 2, stack := .ref h.size :: rest }) target → Steps p.tables e below (T.setTop g) target := by
  obtain ⟨T', h', cA, X', e', E', A', B', st⟩ := newPE X hx hZ (aty := .long) w eT hg hd hs hn hcap hb hc hl had
  have V := AV.new A' hn rfl
  refine ⟨T', h', X', e', E', B', ?_, st⟩
  unfold AJ
  rw [List.map_replicate]
  exact V
theorem own_len {n : Nat} (h : n < 2147483648) : n.toInt32 = Int32.ofNat n := rfl
theorem lenAV (X : Stand p l e R s m args below meth c T locs cells slots) (hx : p.tables.exec = Jvm.exec) (hZ : Z.Warmed39 s.vm) (eT : T.heap = h) (A : AV Z h a ty vs) {g : JFrame} (hg : g.method = m) {rest : List Value} (hs : g.stack = .ref a :: rest) (hd : decode c.code g.pc = .ok (.arraylength, 1)) :
    ∀ target, Steps p.tables e below (T.setTop { g with pc := g.pc + 1, stack := .int (Int32.ofNat vs.length) :: rest }) target → Steps p.tables e below (T.setTop g) target := by
  obtain ⟨cl, A, e1, e2, e3⟩ := A
  intro target k
  have hl : cl.slots.size.toInt32 = Int32.ofNat vs.length := by rw [e1]; rfl
  refine X.arraylength hx (cell := cl) (by rw [eT]; exact A.1) (State.isArrayOf_alike hZ.alike A.2.1) hg hs hd _ ?_
  rw [hl]; exact k
theorem lenAI (X : Stand p l e R s m args below meth c T locs cells slots) (hx : p.tables.exec = Jvm.exec) (hZ : Z.Warmed39 s.vm) (eT : T.heap = h) (A : AI Z h a ty xs) {g : JFrame} (hg : g.method = m) {rest : List Value} (hs : g.stack = .ref a :: rest) (hd : decode c.code g.pc = .ok (.arraylength, 1)) :
    ∀ target, Steps p.tables e below (T.setTop { g with pc := g.pc + 1, stack := .int (Int32.ofNat xs.length) :: rest }) target → Steps p.tables e below (T.setTop g) target := by
  have k := lenAV X hx hZ eT A hg hs hd
  rw [List.length_map] at k; exact k
theorem lenAJ (X : Stand p l e R s m args below meth c T locs cells slots) (hx : p.tables.exec = Jvm.exec) (hZ : Z.Warmed39 s.vm) (eT : T.heap = h) (A : AJ Z h a ys) {g : JFrame} (hg : g.method = m) {rest : List Value} (hs : g.stack = .ref a :: rest) (hd : decode c.code g.pc = .ok (.arraylength, 1)) :
    ∀ target, Steps p.tables e below (T.setTop { g with pc := g.pc + 1, stack := .int (Int32.ofNat ys.length) :: rest }) target → Steps p.tables e below (T.setTop g) target := by
  have k := lenAV X hx hZ eT A hg hs hd
  rw [List.length_map] at k; exact k
theorem own_getI {jn : Nat} (h2 : jn < xs.length) : (xs.map Value.int).toArray[jn]? = some (.int (xs.getD jn 0)) := by
  simp [List.getD_eq_getElem?_getD, h2]
theorem own_getJ {jn : Nat} (h2 : jn < ys.length) : (ys.map Value.long).toArray[jn]? = some (.long (ys.getD jn 0)) := by
  simp [List.getD_eq_getElem?_getD, h2]
theorem ldAI (X : Stand p l e R s m args below meth c T locs cells slots) (hx : p.tables.exec = Jvm.exec) (hZ : Z.Warmed39 s.vm) (eT : T.heap = h) (A : AI Z h a .int xs) {j : Int32} (h1 : ¬ j < 0) (h2 : j.toNatClampNeg < xs.length) {g : JFrame} (hg : g.method = m) {rest : List Value} (hs : g.stack = .int j :: .ref a :: rest) (hd : decode c.code g.pc = .ok (.iaload, 1)) :
    ∀ target, Steps p.tables e below (T.setTop { g with pc := g.pc + 1, stack := .int (xs.getD j.toNatClampNeg 0) :: rest }) target → Steps p.tables e below (T.setTop g) target := by
  obtain ⟨cl, A, e1, e2, e3⟩ := A
  intro target k
  refine X.iaload hx (cell := cl) (by rw [eT]; exact A.1) (State.isArrayOf_alike hZ.alike A.2.1) A.2.2 (own_in h1 (by rw [e1]; simpa using h2)) (by rw [e1]; exact own_getI h2) hg hs hd _ k
theorem ldAB (X : Stand p l e R s m args below meth c T locs cells slots) (hx : p.tables.exec = Jvm.exec) (hZ : Z.Warmed39 s.vm) (eT : T.heap = h) (A : AI Z h a .byte xs) {j : Int32} (h1 : ¬ j < 0) (h2 : j.toNatClampNeg < xs.length) {g : JFrame} (hg : g.method = m) {rest : List Value} (hs : g.stack = .int j :: .ref a :: rest) (hd : decode c.code g.pc = .ok (.baload, 1)) :
    ∀ target, Steps p.tables e below (T.setTop { g with pc := g.pc + 1, stack := .int (xs.getD j.toNatClampNeg 0) :: rest }) target → Steps p.tables e below (T.setTop g) target := by
  obtain ⟨cl, A, e1, e2, e3⟩ := A
  intro target k
  refine X.baloadBytes hx (cell := cl) (by rw [eT]; exact A.1) (State.isArrayOf_alike hZ.alike A.2.1) A.2.2 (own_in h1 (by rw [e1]; simpa using h2)) (by rw [e1]; exact own_getI h2) hg hs hd _ k
theorem ldAJ (X : Stand p l e R s m args below meth c T locs cells slots) (hx : p.tables.exec = Jvm.exec) (hZ : Z.Warmed39 s.vm) (eT : T.heap = h) (A : AJ Z h a ys) {j : Int32} (h1 : ¬ j < 0) (h2 : j.toNatClampNeg < ys.length) {g : JFrame} (hg : g.method = m) {rest : List Value} (hs : g.stack = .int j :: .ref a :: rest) (hd : decode c.code g.pc = .ok (.laload, 1)) :
    ∀ target, Steps p.tables e below (T.setTop { g with pc := g.pc + 1, stack := .long (ys.getD j.toNatClampNeg 0) :: rest }) target → Steps p.tables e below (T.setTop g) target := by
  obtain ⟨cl, A, e1, e2, e3⟩ := A
  intro target k
  refine X.laload hx (cell := cl) (by rw [eT]; exact A.1) (State.isArrayOf_alike hZ.alike A.2.1) A.2.2 (own_in h1 (by rw [e1]; simpa using h2)) (by rw [e1]; exact own_getJ h2) hg hs hd _ k
theorem stAI (X : Stand p l e R s m args below meth c T locs cells slots) (hx : p.tables.exec = Jvm.exec) (hZ : Z.Warmed39 s.vm) (eT : T.heap = h) (A : AI Z h a .int xs) {j x : Int32} (h1 : ¬ j < 0) (h2 : j.toNatClampNeg < xs.length) {g : JFrame} (hg : g.method = m) {rest : List Value} (hs : g.stack = .int x :: .int j :: .ref a :: rest) (hd : decode c.code g.pc = .ok (.iastore, 1)) :
    ∃ T' h', Stand p l e R s m args below meth c T' (locs ++ [⟨a, j.toNatClampNeg⟩]) cells slots ∧ T'.heap = h' ∧ Wr h h' a j.toNatClampNeg (.int x) ∧ AI Z h' a .int (xs.set j.toNatClampNeg x) ∧ ∀ target, Steps p.tables e below (T'.setTop { g with pc := g.pc + 1, stack := rest }) target → Steps p.tables e below (T.setTop g) target := by
  obtain ⟨cl, A, e1, e2, e3⟩ := A
  obtain ⟨T', h', X', e', W', st⟩ := stI X hx hZ eT A (own_in h1 (by rw [e1]; simpa using h2)) hg hs hd
  refine ⟨T', h', X', e', W', ?_, st⟩
  unfold AI
  rw [List.map_set]
  exact AV.set A e1 e2 e3 rfl W'
theorem stAB (X : Stand p l e R s m args below meth c T locs cells slots) (hx : p.tables.exec = Jvm.exec) (hZ : Z.Warmed39 s.vm) (eT : T.heap = h) (A : AI Z h a .byte xs) {j x : Int32} (h1 : ¬ j < 0) (h2 : j.toNatClampNeg < xs.length) {g : JFrame} (hg : g.method = m) {rest : List Value} (hs : g.stack = .int x :: .int j :: .ref a :: rest) (hd : decode c.code g.pc = .ok (.bastore, 1)) :
    ∃ T' h', Stand p l e R s m args below meth c T' (locs ++ [⟨a, j.toNatClampNeg⟩]) cells slots ∧ T'.heap = h' ∧ Wr h h' a j.toNatClampNeg (.int (x.toInt8.toInt32)) ∧ AI Z h' a .byte (xs.set j.toNatClampNeg (x.toInt8.toInt32)) ∧ ∀ target, Steps p.tables e below (T'.setTop { g with pc := g.pc + 1, stack := rest }) target → Steps p.tables e below (T.setTop g) target := by
  obtain ⟨cl, A, e1, e2, e3⟩ := A
  obtain ⟨T', h', X', e', W', st⟩ := stB X hx hZ eT A (own_in h1 (by rw [e1]; simpa using h2)) hg hs hd
  refine ⟨T', h', X', e', W', ?_, st⟩
  unfold AI
  rw [List.map_set]
  exact AV.set A e1 e2 e3 (fits_nar_byte x) W'
theorem own_b2 (y : Int32) : (y.toInt8.toInt32).toInt8.toInt32 = y.toInt8.toInt32 := by simp
theorem stABn (X : Stand p l e R s m args below meth c T locs cells slots) (hx : p.tables.exec = Jvm.exec) (hZ : Z.Warmed39 s.vm) (eT : T.heap = h) (A : AI Z h a .byte xs) {j y : Int32} (h1 : ¬ j < 0) (h2 : j.toNatClampNeg < xs.length) {g : JFrame} (hg : g.method = m) {rest : List Value} (hs : g.stack = .int (y.toInt8.toInt32) :: .int j :: .ref a :: rest) (hd : decode c.code g.pc = .ok (.bastore, 1)) :
    ∃ T' h', Stand p l e R s m args below meth c T' (locs ++ [⟨a, j.toNatClampNeg⟩]) cells slots ∧ T'.heap = h' ∧ Wr h h' a j.toNatClampNeg (.int (y.toInt8.toInt32)) ∧ AI Z h' a .byte (xs.set j.toNatClampNeg (y.toInt8.toInt32)) ∧ ∀ target, Steps p.tables e below (T'.setTop { g with pc := g.pc + 1, stack := rest }) target → Steps p.tables e below (T.setTop g) target := by
  have k := stAB X hx hZ eT A h1 h2 hg hs hd
  rw [own_b2] at k
  exact k
theorem stAJ (X : Stand p l e R s m args below meth c T locs cells slots) (hx : p.tables.exec = Jvm.exec) (hZ : Z.Warmed39 s.vm) (eT : T.heap = h) (A : AJ Z h a ys) {j : Int32} {x : Int64} (h1 : ¬ j < 0) (h2 : j.toNatClampNeg < ys.length) {g : JFrame} (hg : g.method = m) {rest : List Value} (hs : g.stack = .long x :: .int j :: .ref a :: rest) (hd : decode c.code g.pc = .ok (.lastore, 1)) :
    ∃ T' h', Stand p l e R s m args below meth c T' (locs ++ [⟨a, j.toNatClampNeg⟩]) cells slots ∧ T'.heap = h' ∧ Wr h h' a j.toNatClampNeg (.long x) ∧ AJ Z h' a (ys.set j.toNatClampNeg x) ∧ ∀ target, Steps p.tables e below (T'.setTop { g with pc := g.pc + 1, stack := rest }) target → Steps p.tables e below (T.setTop g) target := by
  obtain ⟨cl, A, e1, e2, e3⟩ := A
  obtain ⟨T', h', X', e', W', st⟩ := stJ X hx hZ eT A (own_in h1 (by rw [e1]; simpa using h2)) hg hs hd
  refine ⟨T', h', X', e', W', ?_, st⟩
  unfold AJ
  rw [List.map_set]
  exact AV.set A e1 e2 e3 rfl W'
end OwnArr
section OwnClone
variable {p : Program} {l : Launch} {e : Env} {R : Room} {s : State} {m : MethodId} {args : Array Value} {below : List Frame} {meth : Method} {c : Code} {T T' : State} {locs : List Loc} {cells slots : Nat} {Z : State} {a0 : Array Value} {h h' : Heap} {a b : Addr} {ty : FieldType} {xs : List Int32}
theorem cloneAI (X : Stand p l e R s m args below meth c T locs cells slots) (hx : p.tables.exec = Jvm.exec) (hZ : Z.Warmed39 s.vm) {own ad : String} {index : Nat} (hown : s.vm.findClass own = some m.cls)
    (w1 : (Cond.methodLink own index ⟨ad, "clone", "()Ljava/lang/Object;"⟩).before a0 Z = true) (w2 : (Cond.sameMethod ad "java/lang/Object" "clone" "()Ljava/lang/Object;").before a0 Z = true) (w3 : (Cond.native ⟨"java/lang/Object", "clone", "()Ljava/lang/Object;"⟩).before a0 Z = true)
    (w4 : (Cond.instanceMethod ⟨"java/lang/Object", "clone", "()Ljava/lang/Object;"⟩).before a0 Z = true) (w5 : (Cond.selects ad ⟨ad, "clone", "()Ljava/lang/Object;"⟩ ⟨"java/lang/Object", "clone", "()Ljava/lang/Object;"⟩).before a0 Z = true) (w6 : (Cond.castable ad "java/lang/Cloneable").before a0 Z = true)
    (eT : T.heap = h) (A : AI Z h a ty xs) (E : Exa Z h a ad) {g : JFrame} (hg : g.method = m) (hsize : g.locals.size = c.maxLocals) {rest : List Value} (hst : g.stack = .ref a :: rest) (hd : decode c.code g.pc = .ok (.invokevirtual index, 3))
    (hf : 1 ≤ R.frames) {W cap : Nat} (hW : 2 * g.monitorRoom + (rest.map fun v => v.category).sum ≤ W) (hl : W + 14 ≤ R.locals) (hcap : xs.length ≤ cap) (hc : cells + 1 ≤ R.cells) (hsl : slots + cap ≤ R.slots) :
    ∃ T' h', Stand p l e R s m args below meth c T' locs (cells + 1) (slots + cap) ∧ T'.heap = h' ∧ Ext h h' ∧ Exa Z h' h.size ad ∧ AI Z h' h.size ty xs ∧
      ∀ target, Steps p.tables e below (T'.setTop { g with pc := g.pc + 3, stack := .ref h.size :: rest }) target → Steps p.tables e below (T.setTop g) target := by
  obtain ⟨cl, A, e1, e2, e3⟩ := A
  have FC : FitC Z cl := fitC_of A fun i hi v hv => by
    rw [e1] at hv
    exact e3 v (by simpa using Array.mem_of_getElem? hv)
  obtain ⟨T', h', X', e', ex, A', E', st⟩ := cloneA X hx hZ hown w1 w2 w3 w4 w5 w6 eT A E FC hg hsize hst hd hf hW hl (by rw [e1]; simpa using hcap) hc hsl
  exact ⟨T', h', X', e', ex, E', ⟨_, A', e1, e2, e3⟩, st⟩
end OwnClone


theorem d_make0_0 : decode method_2_code 0 = .ok (.iload_n 0, 1) := by decide +kernel
theorem d_make0_1 : decode method_2_code 1 = .ok (.ifCond .ne 7, 3) := by decide +kernel
theorem d_make0_4 : decode method_2_code 4 = .ok (.iconst 0, 1) := by decide +kernel
theorem d_make0_5 : decode method_2_code 5 = .ok (.newarray .byte, 2) := by decide +kernel
theorem d_make0_7 : decode method_2_code 7 = .ok (.areturn, 1) := by decide +kernel
theorem ef_make0 (m : MethodId)  : entryFrame m #[(.int (0 : Int32))] 1 = mkF m 0 #[.val (.int (0 : Int32))] [] := by first | (simp [entryFrame, mkF, argsToLocals, Value.category]; done) | rfl
def Q_make0 (Z : State)  (h0 : Heap) (n0 : Nat) (v : Option Value) (h : Heap) (L : List Loc) : Prop := ∃ b0 : Addr, v = some (.ref b0) ∧ Fr n0 L ∧ Keep h0 h [] ∧ h0.size ≤ b0 ∧ Exa Z h b0 "[B" ∧ AI Z h b0 .byte []
set_option maxRecDepth 65536 in
set_option maxHeartbeats 40000000 in
theorem rm_make0 (l : Launch) (Z : State) (a0 : Array Value) (hw : ∀ d ∈ tables_1, d.before a0 Z = true) (ws : List Jvm.Cond)  (h0 : Heap) (n0 : Nat) (Z0 : n0 ≤ h0.size) :
    MetFree l (⟨"com/example/colonwise/colonwise/model/BencodeStringOfPinLaw", "make", "(I)[B"⟩ : MethodName) (head1 (Jvm.Cond.code (⟨"com/example/colonwise/colonwise/model/BencodeStringOfPinLaw", "make", "(I)[B"⟩ : MethodName) method_2_code 1 (some (.array .byte)) :: ws) ({ frames := 0, cells := 1, slots := 0, locals := 0 } : Room)) (fun a U => a = #[(.int (0 : Int32))] ∧ Z.Warmed39 U.vm ∧ U.heap = h0) (fun _ _ _ _ _ => True) (fun _ U o U' => ∃ v L, o = .returned v ∧ Q_make0 Z  h0 n0 v U'.heap L ∧ FrameEnd U o U' L ({ frames := 0, cells := 1, slots := 0, locals := 0 } : Room).cells ({ frames := 0, cells := 1, slots := 0, locals := 0 } : Room).slots) := by
  refine MetFree.of_bodySF (plainFor_of_name (by first | (simp [plainName, overriddenIn]; done) | decide +kernel)) hisR ?_
  intro p e s m args below meth c s₁ Bd hml0 hP hK
  obtain ⟨rfl, hZ, hh⟩ := hP
  have hx := Bd.exec
  have hby := Bd.bytes
  have hml : c.maxLocals = 1 := hml0
  have hown : s.vm.findClass "com/example/colonwise/colonwise/model/BencodeStringOfPinLaw" = some m.cls := findClass_of_methodNamed Bd.named
  have hnm := (name_of_methodNamed Bd.named Bd.method).1
  have hlk : meth.locks = false := Bd.notSynchronized
  have X0 : Stand p l e ({ frames := 0, cells := 1, slots := 0, locals := 0 } : Room) s m #[(.int (0 : Int32))] below meth c s₁ [] 0 0 := Stand.of_body Bd
  have e0 : s₁.heap = h0 := by rw [← hh, Bd.state]; rfl
  have N0 := Fr.nil n0
  refine Go.enter (Q := Q_make0 Z  h0 n0) (C := ({ frames := 0, cells := 1, slots := 0, locals := 0 } : Room).cells) (N := ({ frames := 0, cells := 1, slots := 0, locals := 0 } : Room).slots) (ef_make0 m ) ?_
  show Go p e below s _ _ _ s₁ (mkF m 0 #[.val (.int (0 : Int32))] [])
  refine G_iloadN X0 hx (pc' := 1) rfl (hb hby d_make0_0) rfl ?_
  refine G_ifNo X0 hx (pc' := 4) rfl (hb hby d_make0_1) ((if0 _ _).trans (teq (by decide : (0 : Int32) = (0 : Int32))).2) ?_
  refine G_iconst X0 hx (pc' := 5) rfl (hb hby d_make0_4) (z := (0 : Int32)) rfl ?_
  obtain ⟨T1, h1, X1, e1, E1, B1, A1, st1⟩ := newAI X0 hx hZ (hw _ (List.mem_of_getElem? (i := 5) rfl)) e0 (g := (mkF m 5 #[.val (.int (0 : Int32))] [(.int (0 : Int32))])) rfl (hb hby d_make0_5) rfl (by decide) (ty := .byte) rfl ⟨rfl, rfl⟩ (cap := 0) (by decide) (by decide) (by decide) (by decide) (ad := "[B") (by decide)
  obtain ⟨b1, q1⟩ : ∃ z, z = h0.size := ⟨_, rfl⟩
  rw [← q1] at A1 B1 st1
  refine Go.st st1 ?_
  have g_b1 : n0 ≤ b1 := Nat.le_trans Z0 (Nat.le_of_eq q1.symm)
  have sz_b1 : h0.size ≤ b1 := Nat.le_trans (Nat.le_refl _) (Nat.le_of_eq q1.symm)
  have A_b1 : AI Z h1 b1 .byte [] := A1
  have K_1 : Keep h0 h1 [] := (Keep.refl h0 []).ext E1
  have Z_1 : n0 ≤ h1.size := Nat.le_trans Z0 K_1.1
  show Go p e below s _ _ _ T1 (mkF m 7 #[.val (.int (0 : Int32))] [(.ref b1)])
  refine Go.fin X1 hlk (v := some (.ref b1)) (fun h => by rw [Bd.returns] at h; cases h) (by decide) (by decide) ?_ (fun fs hr => retOut X1 hx Bd.returns rfl (Or.inr (Or.inr (Or.inr (Or.inr ⟨rfl, rfl, rfl⟩)))) (hb hby d_make0_7) hr)
  show Q_make0 Z  h0 n0 _ T1.heap _
  rw [e1]
  exact ⟨b1, rfl, N0, K_1, sz_b1, B1, A_b1⟩
theorem d_make1_0 : decode method_2_code 0 = .ok (.iload_n 0, 1) := by decide +kernel
theorem d_make1_1 : decode method_2_code 1 = .ok (.ifCond .ne 7, 3) := by decide +kernel
theorem d_make1_8 : decode method_2_code 8 = .ok (.iload_n 0, 1) := by decide +kernel
theorem d_make1_9 : decode method_2_code 9 = .ok (.iconst 1, 1) := by decide +kernel
theorem d_make1_10 : decode method_2_code 10 = .ok (.if_icmp .ne 7, 3) := by decide +kernel
theorem d_make1_13 : decode method_2_code 13 = .ok (.iconst 1, 1) := by decide +kernel
theorem d_make1_14 : decode method_2_code 14 = .ok (.newarray .byte, 2) := by decide +kernel
theorem d_make1_16 : decode method_2_code 16 = .ok (.areturn, 1) := by decide +kernel
theorem ef_make1 (m : MethodId)  : entryFrame m #[(.int (1 : Int32))] 1 = mkF m 0 #[.val (.int (1 : Int32))] [] := by first | (simp [entryFrame, mkF, argsToLocals, Value.category]; done) | rfl
def Q_make1 (Z : State)  (h0 : Heap) (n0 : Nat) (v : Option Value) (h : Heap) (L : List Loc) : Prop := ∃ b0 : Addr, v = some (.ref b0) ∧ Fr n0 L ∧ Keep h0 h [] ∧ h0.size ≤ b0 ∧ Exa Z h b0 "[B" ∧ AI Z h b0 .byte [(0 : Int32)]
set_option maxRecDepth 65536 in
set_option maxHeartbeats 40000000 in
theorem rm_make1 (l : Launch) (Z : State) (a0 : Array Value) (hw : ∀ d ∈ tables_1, d.before a0 Z = true) (ws : List Jvm.Cond)  (h0 : Heap) (n0 : Nat) (Z0 : n0 ≤ h0.size) :
    MetFree l (⟨"com/example/colonwise/colonwise/model/BencodeStringOfPinLaw", "make", "(I)[B"⟩ : MethodName) (head1 (Jvm.Cond.code (⟨"com/example/colonwise/colonwise/model/BencodeStringOfPinLaw", "make", "(I)[B"⟩ : MethodName) method_2_code 1 (some (.array .byte)) :: ws) ({ frames := 0, cells := 1, slots := 1, locals := 0 } : Room)) (fun a U => a = #[(.int (1 : Int32))] ∧ Z.Warmed39 U.vm ∧ U.heap = h0) (fun _ _ _ _ _ => True) (fun _ U o U' => ∃ v L, o = .returned v ∧ Q_make1 Z  h0 n0 v U'.heap L ∧ FrameEnd U o U' L ({ frames := 0, cells := 1, slots := 1, locals := 0 } : Room).cells ({ frames := 0, cells := 1, slots := 1, locals := 0 } : Room).slots) := by
  refine MetFree.of_bodySF (plainFor_of_name (by first | (simp [plainName, overriddenIn]; done) | decide +kernel)) hisR ?_
  intro p e s m args below meth c s₁ Bd hml0 hP hK
  obtain ⟨rfl, hZ, hh⟩ := hP
  have hx := Bd.exec
  have hby := Bd.bytes
  have hml : c.maxLocals = 1 := hml0
  have hown : s.vm.findClass "com/example/colonwise/colonwise/model/BencodeStringOfPinLaw" = some m.cls := findClass_of_methodNamed Bd.named
  have hnm := (name_of_methodNamed Bd.named Bd.method).1
  have hlk : meth.locks = false := Bd.notSynchronized
  have X0 : Stand p l e ({ frames := 0, cells := 1, slots := 1, locals := 0 } : Room) s m #[(.int (1 : Int32))] below meth c s₁ [] 0 0 := Stand.of_body Bd
  have e0 : s₁.heap = h0 := by rw [← hh, Bd.state]; rfl
  have N0 := Fr.nil n0
  refine Go.enter (Q := Q_make1 Z  h0 n0) (C := ({ frames := 0, cells := 1, slots := 1, locals := 0 } : Room).cells) (N := ({ frames := 0, cells := 1, slots := 1, locals := 0 } : Room).slots) (ef_make1 m ) ?_
  show Go p e below s _ _ _ s₁ (mkF m 0 #[.val (.int (1 : Int32))] [])
  refine G_iloadN X0 hx (pc' := 1) rfl (hb hby d_make1_0) rfl ?_
  refine G_ifYes X0 hx (pc' := 8) (hb hby d_make1_1) ((if0 _ _).trans (feq (by decide : ¬ ((1 : Int32) = (0 : Int32)))).2) (by decide) (by decide) ?_
  refine G_iloadN X0 hx (pc' := 9) rfl (hb hby d_make1_8) rfl ?_
  refine G_iconst X0 hx (pc' := 10) rfl (hb hby d_make1_9) (z := (1 : Int32)) rfl ?_
  refine G_icmpNo X0 hx (pc' := 13) rfl (hb hby d_make1_10) (teq (by decide : (1 : Int32) = (1 : Int32))).2 ?_
  refine G_iconst X0 hx (pc' := 14) rfl (hb hby d_make1_13) (z := (1 : Int32)) rfl ?_
  obtain ⟨T2, h2, X2, e2, E2, B2, A2, st2⟩ := newAI X0 hx hZ (hw _ (List.mem_of_getElem? (i := 5) rfl)) e0 (g := (mkF m 14 #[.val (.int (1 : Int32))] [(.int (1 : Int32))])) rfl (hb hby d_make1_14) rfl (by decide) (ty := .byte) rfl ⟨rfl, rfl⟩ (cap := 1) (by decide) (by decide) (by decide) (by decide) (ad := "[B") (by decide)
  obtain ⟨b2, q2⟩ : ∃ z, z = h0.size := ⟨_, rfl⟩
  rw [← q2] at A2 B2 st2
  refine Go.st st2 ?_
  have g_b2 : n0 ≤ b2 := Nat.le_trans Z0 (Nat.le_of_eq q2.symm)
  have sz_b2 : h0.size ≤ b2 := Nat.le_trans (Nat.le_refl _) (Nat.le_of_eq q2.symm)
  have A_b2 : AI Z h2 b2 .byte [(0 : Int32)] := A2
  have K_2 : Keep h0 h2 [] := (Keep.refl h0 []).ext E2
  have Z_2 : n0 ≤ h2.size := Nat.le_trans Z0 K_2.1
  show Go p e below s _ _ _ T2 (mkF m 16 #[.val (.int (1 : Int32))] [(.ref b2)])
  refine Go.fin X2 hlk (v := some (.ref b2)) (fun h => by rw [Bd.returns] at h; cases h) (by decide) (by decide) ?_ (fun fs hr => retOut X2 hx Bd.returns rfl (Or.inr (Or.inr (Or.inr (Or.inr ⟨rfl, rfl, rfl⟩)))) (hb hby d_make1_16) hr)
  show Q_make1 Z  h0 n0 _ T2.heap _
  rw [e2]
  exact ⟨b2, rfl, N0, K_2, sz_b2, B2, A_b2⟩
theorem d_make2_0 : decode method_2_code 0 = .ok (.iload_n 0, 1) := by decide +kernel
theorem d_make2_1 : decode method_2_code 1 = .ok (.ifCond .ne 7, 3) := by decide +kernel
theorem d_make2_8 : decode method_2_code 8 = .ok (.iload_n 0, 1) := by decide +kernel
theorem d_make2_9 : decode method_2_code 9 = .ok (.iconst 1, 1) := by decide +kernel
theorem d_make2_10 : decode method_2_code 10 = .ok (.if_icmp .ne 7, 3) := by decide +kernel
theorem d_make2_17 : decode method_2_code 17 = .ok (.iload_n 0, 1) := by decide +kernel
theorem d_make2_18 : decode method_2_code 18 = .ok (.iconst 2, 1) := by decide +kernel
theorem d_make2_19 : decode method_2_code 19 = .ok (.if_icmp .ne 7, 3) := by decide +kernel
theorem d_make2_22 : decode method_2_code 22 = .ok (.iconst 2, 1) := by decide +kernel
theorem d_make2_23 : decode method_2_code 23 = .ok (.newarray .byte, 2) := by decide +kernel
theorem d_make2_25 : decode method_2_code 25 = .ok (.areturn, 1) := by decide +kernel
theorem ef_make2 (m : MethodId)  : entryFrame m #[(.int (2 : Int32))] 1 = mkF m 0 #[.val (.int (2 : Int32))] [] := by first | (simp [entryFrame, mkF, argsToLocals, Value.category]; done) | rfl
def Q_make2 (Z : State)  (h0 : Heap) (n0 : Nat) (v : Option Value) (h : Heap) (L : List Loc) : Prop := ∃ b0 : Addr, v = some (.ref b0) ∧ Fr n0 L ∧ Keep h0 h [] ∧ h0.size ≤ b0 ∧ Exa Z h b0 "[B" ∧ AI Z h b0 .byte [(0 : Int32), (0 : Int32)]
set_option maxRecDepth 65536 in
set_option maxHeartbeats 40000000 in
theorem rm_make2 (l : Launch) (Z : State) (a0 : Array Value) (hw : ∀ d ∈ tables_1, d.before a0 Z = true) (ws : List Jvm.Cond)  (h0 : Heap) (n0 : Nat) (Z0 : n0 ≤ h0.size) :
    MetFree l (⟨"com/example/colonwise/colonwise/model/BencodeStringOfPinLaw", "make", "(I)[B"⟩ : MethodName) (head1 (Jvm.Cond.code (⟨"com/example/colonwise/colonwise/model/BencodeStringOfPinLaw", "make", "(I)[B"⟩ : MethodName) method_2_code 1 (some (.array .byte)) :: ws) ({ frames := 0, cells := 1, slots := 2, locals := 0 } : Room)) (fun a U => a = #[(.int (2 : Int32))] ∧ Z.Warmed39 U.vm ∧ U.heap = h0) (fun _ _ _ _ _ => True) (fun _ U o U' => ∃ v L, o = .returned v ∧ Q_make2 Z  h0 n0 v U'.heap L ∧ FrameEnd U o U' L ({ frames := 0, cells := 1, slots := 2, locals := 0 } : Room).cells ({ frames := 0, cells := 1, slots := 2, locals := 0 } : Room).slots) := by
  refine MetFree.of_bodySF (plainFor_of_name (by first | (simp [plainName, overriddenIn]; done) | decide +kernel)) hisR ?_
  intro p e s m args below meth c s₁ Bd hml0 hP hK
  obtain ⟨rfl, hZ, hh⟩ := hP
  have hx := Bd.exec
  have hby := Bd.bytes
  have hml : c.maxLocals = 1 := hml0
  have hown : s.vm.findClass "com/example/colonwise/colonwise/model/BencodeStringOfPinLaw" = some m.cls := findClass_of_methodNamed Bd.named
  have hnm := (name_of_methodNamed Bd.named Bd.method).1
  have hlk : meth.locks = false := Bd.notSynchronized
  have X0 : Stand p l e ({ frames := 0, cells := 1, slots := 2, locals := 0 } : Room) s m #[(.int (2 : Int32))] below meth c s₁ [] 0 0 := Stand.of_body Bd
  have e0 : s₁.heap = h0 := by rw [← hh, Bd.state]; rfl
  have N0 := Fr.nil n0
  refine Go.enter (Q := Q_make2 Z  h0 n0) (C := ({ frames := 0, cells := 1, slots := 2, locals := 0 } : Room).cells) (N := ({ frames := 0, cells := 1, slots := 2, locals := 0 } : Room).slots) (ef_make2 m ) ?_
  show Go p e below s _ _ _ s₁ (mkF m 0 #[.val (.int (2 : Int32))] [])
  refine G_iloadN X0 hx (pc' := 1) rfl (hb hby d_make2_0) rfl ?_
  refine G_ifYes X0 hx (pc' := 8) (hb hby d_make2_1) ((if0 _ _).trans (feq (by decide : ¬ ((2 : Int32) = (0 : Int32)))).2) (by decide) (by decide) ?_
  refine G_iloadN X0 hx (pc' := 9) rfl (hb hby d_make2_8) rfl ?_
  refine G_iconst X0 hx (pc' := 10) rfl (hb hby d_make2_9) (z := (1 : Int32)) rfl ?_
  refine G_icmpYes X0 hx (pc' := 17) (hb hby d_make2_10) (feq (by decide : ¬ ((2 : Int32) = (1 : Int32)))).2 (by decide) (by decide) ?_
  refine G_iloadN X0 hx (pc' := 18) rfl (hb hby d_make2_17) rfl ?_
  refine G_iconst X0 hx (pc' := 19) rfl (hb hby d_make2_18) (z := (2 : Int32)) rfl ?_
  refine G_icmpNo X0 hx (pc' := 22) rfl (hb hby d_make2_19) (teq (by decide : (2 : Int32) = (2 : Int32))).2 ?_
  refine G_iconst X0 hx (pc' := 23) rfl (hb hby d_make2_22) (z := (2 : Int32)) rfl ?_
  obtain ⟨T3, h3, X3, e3, E3, B3, A3, st3⟩ := newAI X0 hx hZ (hw _ (List.mem_of_getElem? (i := 5) rfl)) e0 (g := (mkF m 23 #[.val (.int (2 : Int32))] [(.int (2 : Int32))])) rfl (hb hby d_make2_23) rfl (by decide) (ty := .byte) rfl ⟨rfl, rfl⟩ (cap := 2) (by decide) (by decide) (by decide) (by decide) (ad := "[B") (by decide)
  obtain ⟨b3, q3⟩ : ∃ z, z = h0.size := ⟨_, rfl⟩
  rw [← q3] at A3 B3 st3
  refine Go.st st3 ?_
  have g_b3 : n0 ≤ b3 := Nat.le_trans Z0 (Nat.le_of_eq q3.symm)
  have sz_b3 : h0.size ≤ b3 := Nat.le_trans (Nat.le_refl _) (Nat.le_of_eq q3.symm)
  have A_b3 : AI Z h3 b3 .byte [(0 : Int32), (0 : Int32)] := A3
  have K_3 : Keep h0 h3 [] := (Keep.refl h0 []).ext E3
  have Z_3 : n0 ≤ h3.size := Nat.le_trans Z0 K_3.1
  show Go p e below s _ _ _ T3 (mkF m 25 #[.val (.int (2 : Int32))] [(.ref b3)])
  refine Go.fin X3 hlk (v := some (.ref b3)) (fun h => by rw [Bd.returns] at h; cases h) (by decide) (by decide) ?_ (fun fs hr => retOut X3 hx Bd.returns rfl (Or.inr (Or.inr (Or.inr (Or.inr ⟨rfl, rfl, rfl⟩)))) (hb hby d_make2_25) hr)
  show Q_make2 Z  h0 n0 _ T3.heap _
  rw [e3]
  exact ⟨b3, rfl, N0, K_3, sz_b3, B3, A_b3⟩
theorem d_make3_0 : decode method_2_code 0 = .ok (.iload_n 0, 1) := by decide +kernel
theorem d_make3_1 : decode method_2_code 1 = .ok (.ifCond .ne 7, 3) := by decide +kernel
theorem d_make3_8 : decode method_2_code 8 = .ok (.iload_n 0, 1) := by decide +kernel
theorem d_make3_9 : decode method_2_code 9 = .ok (.iconst 1, 1) := by decide +kernel
theorem d_make3_10 : decode method_2_code 10 = .ok (.if_icmp .ne 7, 3) := by decide +kernel
theorem d_make3_17 : decode method_2_code 17 = .ok (.iload_n 0, 1) := by decide +kernel
theorem d_make3_18 : decode method_2_code 18 = .ok (.iconst 2, 1) := by decide +kernel
theorem d_make3_19 : decode method_2_code 19 = .ok (.if_icmp .ne 7, 3) := by decide +kernel
theorem d_make3_26 : decode method_2_code 26 = .ok (.iload_n 0, 1) := by decide +kernel
theorem d_make3_27 : decode method_2_code 27 = .ok (.iconst 3, 1) := by decide +kernel
theorem d_make3_28 : decode method_2_code 28 = .ok (.if_icmp .ne 7, 3) := by decide +kernel
theorem d_make3_31 : decode method_2_code 31 = .ok (.iconst 3, 1) := by decide +kernel
theorem d_make3_32 : decode method_2_code 32 = .ok (.newarray .byte, 2) := by decide +kernel
theorem d_make3_34 : decode method_2_code 34 = .ok (.areturn, 1) := by decide +kernel
theorem ef_make3 (m : MethodId)  : entryFrame m #[(.int (3 : Int32))] 1 = mkF m 0 #[.val (.int (3 : Int32))] [] := by first | (simp [entryFrame, mkF, argsToLocals, Value.category]; done) | rfl
def Q_make3 (Z : State)  (h0 : Heap) (n0 : Nat) (v : Option Value) (h : Heap) (L : List Loc) : Prop := ∃ b0 : Addr, v = some (.ref b0) ∧ Fr n0 L ∧ Keep h0 h [] ∧ h0.size ≤ b0 ∧ Exa Z h b0 "[B" ∧ AI Z h b0 .byte [(0 : Int32), (0 : Int32), (0 : Int32)]
set_option maxRecDepth 65536 in
set_option maxHeartbeats 40000000 in
theorem rm_make3 (l : Launch) (Z : State) (a0 : Array Value) (hw : ∀ d ∈ tables_1, d.before a0 Z = true) (ws : List Jvm.Cond)  (h0 : Heap) (n0 : Nat) (Z0 : n0 ≤ h0.size) :
    MetFree l (⟨"com/example/colonwise/colonwise/model/BencodeStringOfPinLaw", "make", "(I)[B"⟩ : MethodName) (head1 (Jvm.Cond.code (⟨"com/example/colonwise/colonwise/model/BencodeStringOfPinLaw", "make", "(I)[B"⟩ : MethodName) method_2_code 1 (some (.array .byte)) :: ws) ({ frames := 0, cells := 1, slots := 3, locals := 0 } : Room)) (fun a U => a = #[(.int (3 : Int32))] ∧ Z.Warmed39 U.vm ∧ U.heap = h0) (fun _ _ _ _ _ => True) (fun _ U o U' => ∃ v L, o = .returned v ∧ Q_make3 Z  h0 n0 v U'.heap L ∧ FrameEnd U o U' L ({ frames := 0, cells := 1, slots := 3, locals := 0 } : Room).cells ({ frames := 0, cells := 1, slots := 3, locals := 0 } : Room).slots) := by
  refine MetFree.of_bodySF (plainFor_of_name (by first | (simp [plainName, overriddenIn]; done) | decide +kernel)) hisR ?_
  intro p e s m args below meth c s₁ Bd hml0 hP hK
  obtain ⟨rfl, hZ, hh⟩ := hP
  have hx := Bd.exec
  have hby := Bd.bytes
  have hml : c.maxLocals = 1 := hml0
  have hown : s.vm.findClass "com/example/colonwise/colonwise/model/BencodeStringOfPinLaw" = some m.cls := findClass_of_methodNamed Bd.named
  have hnm := (name_of_methodNamed Bd.named Bd.method).1
  have hlk : meth.locks = false := Bd.notSynchronized
  have X0 : Stand p l e ({ frames := 0, cells := 1, slots := 3, locals := 0 } : Room) s m #[(.int (3 : Int32))] below meth c s₁ [] 0 0 := Stand.of_body Bd
  have e0 : s₁.heap = h0 := by rw [← hh, Bd.state]; rfl
  have N0 := Fr.nil n0
  refine Go.enter (Q := Q_make3 Z  h0 n0) (C := ({ frames := 0, cells := 1, slots := 3, locals := 0 } : Room).cells) (N := ({ frames := 0, cells := 1, slots := 3, locals := 0 } : Room).slots) (ef_make3 m ) ?_
  show Go p e below s _ _ _ s₁ (mkF m 0 #[.val (.int (3 : Int32))] [])
  refine G_iloadN X0 hx (pc' := 1) rfl (hb hby d_make3_0) rfl ?_
  refine G_ifYes X0 hx (pc' := 8) (hb hby d_make3_1) ((if0 _ _).trans (feq (by decide : ¬ ((3 : Int32) = (0 : Int32)))).2) (by decide) (by decide) ?_
  refine G_iloadN X0 hx (pc' := 9) rfl (hb hby d_make3_8) rfl ?_
  refine G_iconst X0 hx (pc' := 10) rfl (hb hby d_make3_9) (z := (1 : Int32)) rfl ?_
  refine G_icmpYes X0 hx (pc' := 17) (hb hby d_make3_10) (feq (by decide : ¬ ((3 : Int32) = (1 : Int32)))).2 (by decide) (by decide) ?_
  refine G_iloadN X0 hx (pc' := 18) rfl (hb hby d_make3_17) rfl ?_
  refine G_iconst X0 hx (pc' := 19) rfl (hb hby d_make3_18) (z := (2 : Int32)) rfl ?_
  refine G_icmpYes X0 hx (pc' := 26) (hb hby d_make3_19) (feq (by decide : ¬ ((3 : Int32) = (2 : Int32)))).2 (by decide) (by decide) ?_
  refine G_iloadN X0 hx (pc' := 27) rfl (hb hby d_make3_26) rfl ?_
  refine G_iconst X0 hx (pc' := 28) rfl (hb hby d_make3_27) (z := (3 : Int32)) rfl ?_
  refine G_icmpNo X0 hx (pc' := 31) rfl (hb hby d_make3_28) (teq (by decide : (3 : Int32) = (3 : Int32))).2 ?_
  refine G_iconst X0 hx (pc' := 32) rfl (hb hby d_make3_31) (z := (3 : Int32)) rfl ?_
  obtain ⟨T4, h4, X4, e4, E4, B4, A4, st4⟩ := newAI X0 hx hZ (hw _ (List.mem_of_getElem? (i := 5) rfl)) e0 (g := (mkF m 32 #[.val (.int (3 : Int32))] [(.int (3 : Int32))])) rfl (hb hby d_make3_32) rfl (by decide) (ty := .byte) rfl ⟨rfl, rfl⟩ (cap := 3) (by decide) (by decide) (by decide) (by decide) (ad := "[B") (by decide)
  obtain ⟨b4, q4⟩ : ∃ z, z = h0.size := ⟨_, rfl⟩
  rw [← q4] at A4 B4 st4
  refine Go.st st4 ?_
  have g_b4 : n0 ≤ b4 := Nat.le_trans Z0 (Nat.le_of_eq q4.symm)
  have sz_b4 : h0.size ≤ b4 := Nat.le_trans (Nat.le_refl _) (Nat.le_of_eq q4.symm)
  have A_b4 : AI Z h4 b4 .byte [(0 : Int32), (0 : Int32), (0 : Int32)] := A4
  have K_4 : Keep h0 h4 [] := (Keep.refl h0 []).ext E4
  have Z_4 : n0 ≤ h4.size := Nat.le_trans Z0 K_4.1
  show Go p e below s _ _ _ T4 (mkF m 34 #[.val (.int (3 : Int32))] [(.ref b4)])
  refine Go.fin X4 hlk (v := some (.ref b4)) (fun h => by rw [Bd.returns] at h; cases h) (by decide) (by decide) ?_ (fun fs hr => retOut X4 hx Bd.returns rfl (Or.inr (Or.inr (Or.inr (Or.inr ⟨rfl, rfl, rfl⟩)))) (hb hby d_make3_34) hr)
  show Q_make3 Z  h0 n0 _ T4.heap _
  rw [e4]
  exact ⟨b4, rfl, N0, K_4, sz_b4, B4, A_b4⟩
theorem d_make4_0 : decode method_2_code 0 = .ok (.iload_n 0, 1) := by decide +kernel
theorem d_make4_1 : decode method_2_code 1 = .ok (.ifCond .ne 7, 3) := by decide +kernel
theorem d_make4_8 : decode method_2_code 8 = .ok (.iload_n 0, 1) := by decide +kernel
theorem d_make4_9 : decode method_2_code 9 = .ok (.iconst 1, 1) := by decide +kernel
theorem d_make4_10 : decode method_2_code 10 = .ok (.if_icmp .ne 7, 3) := by decide +kernel
theorem d_make4_17 : decode method_2_code 17 = .ok (.iload_n 0, 1) := by decide +kernel
theorem d_make4_18 : decode method_2_code 18 = .ok (.iconst 2, 1) := by decide +kernel
theorem d_make4_19 : decode method_2_code 19 = .ok (.if_icmp .ne 7, 3) := by decide +kernel
theorem d_make4_26 : decode method_2_code 26 = .ok (.iload_n 0, 1) := by decide +kernel
theorem d_make4_27 : decode method_2_code 27 = .ok (.iconst 3, 1) := by decide +kernel
theorem d_make4_28 : decode method_2_code 28 = .ok (.if_icmp .ne 7, 3) := by decide +kernel
theorem d_make4_35 : decode method_2_code 35 = .ok (.iconst 4, 1) := by decide +kernel
theorem d_make4_36 : decode method_2_code 36 = .ok (.newarray .byte, 2) := by decide +kernel
theorem d_make4_38 : decode method_2_code 38 = .ok (.areturn, 1) := by decide +kernel
theorem ef_make4 (m : MethodId)  : entryFrame m #[(.int (4 : Int32))] 1 = mkF m 0 #[.val (.int (4 : Int32))] [] := by first | (simp [entryFrame, mkF, argsToLocals, Value.category]; done) | rfl
def Q_make4 (Z : State)  (h0 : Heap) (n0 : Nat) (v : Option Value) (h : Heap) (L : List Loc) : Prop := ∃ b0 : Addr, v = some (.ref b0) ∧ Fr n0 L ∧ Keep h0 h [] ∧ h0.size ≤ b0 ∧ Exa Z h b0 "[B" ∧ AI Z h b0 .byte [(0 : Int32), (0 : Int32), (0 : Int32), (0 : Int32)]
set_option maxRecDepth 65536 in
set_option maxHeartbeats 40000000 in
theorem rm_make4 (l : Launch) (Z : State) (a0 : Array Value) (hw : ∀ d ∈ tables_1, d.before a0 Z = true) (ws : List Jvm.Cond)  (h0 : Heap) (n0 : Nat) (Z0 : n0 ≤ h0.size) :
    MetFree l (⟨"com/example/colonwise/colonwise/model/BencodeStringOfPinLaw", "make", "(I)[B"⟩ : MethodName) (head1 (Jvm.Cond.code (⟨"com/example/colonwise/colonwise/model/BencodeStringOfPinLaw", "make", "(I)[B"⟩ : MethodName) method_2_code 1 (some (.array .byte)) :: ws) ({ frames := 0, cells := 1, slots := 4, locals := 0 } : Room)) (fun a U => a = #[(.int (4 : Int32))] ∧ Z.Warmed39 U.vm ∧ U.heap = h0) (fun _ _ _ _ _ => True) (fun _ U o U' => ∃ v L, o = .returned v ∧ Q_make4 Z  h0 n0 v U'.heap L ∧ FrameEnd U o U' L ({ frames := 0, cells := 1, slots := 4, locals := 0 } : Room).cells ({ frames := 0, cells := 1, slots := 4, locals := 0 } : Room).slots) := by
  refine MetFree.of_bodySF (plainFor_of_name (by first | (simp [plainName, overriddenIn]; done) | decide +kernel)) hisR ?_
  intro p e s m args below meth c s₁ Bd hml0 hP hK
  obtain ⟨rfl, hZ, hh⟩ := hP
  have hx := Bd.exec
  have hby := Bd.bytes
  have hml : c.maxLocals = 1 := hml0
  have hown : s.vm.findClass "com/example/colonwise/colonwise/model/BencodeStringOfPinLaw" = some m.cls := findClass_of_methodNamed Bd.named
  have hnm := (name_of_methodNamed Bd.named Bd.method).1
  have hlk : meth.locks = false := Bd.notSynchronized
  have X0 : Stand p l e ({ frames := 0, cells := 1, slots := 4, locals := 0 } : Room) s m #[(.int (4 : Int32))] below meth c s₁ [] 0 0 := Stand.of_body Bd
  have e0 : s₁.heap = h0 := by rw [← hh, Bd.state]; rfl
  have N0 := Fr.nil n0
  refine Go.enter (Q := Q_make4 Z  h0 n0) (C := ({ frames := 0, cells := 1, slots := 4, locals := 0 } : Room).cells) (N := ({ frames := 0, cells := 1, slots := 4, locals := 0 } : Room).slots) (ef_make4 m ) ?_
  show Go p e below s _ _ _ s₁ (mkF m 0 #[.val (.int (4 : Int32))] [])
  refine G_iloadN X0 hx (pc' := 1) rfl (hb hby d_make4_0) rfl ?_
  refine G_ifYes X0 hx (pc' := 8) (hb hby d_make4_1) ((if0 _ _).trans (feq (by decide : ¬ ((4 : Int32) = (0 : Int32)))).2) (by decide) (by decide) ?_
  refine G_iloadN X0 hx (pc' := 9) rfl (hb hby d_make4_8) rfl ?_
  refine G_iconst X0 hx (pc' := 10) rfl (hb hby d_make4_9) (z := (1 : Int32)) rfl ?_
  refine G_icmpYes X0 hx (pc' := 17) (hb hby d_make4_10) (feq (by decide : ¬ ((4 : Int32) = (1 : Int32)))).2 (by decide) (by decide) ?_
  refine G_iloadN X0 hx (pc' := 18) rfl (hb hby d_make4_17) rfl ?_
  refine G_iconst X0 hx (pc' := 19) rfl (hb hby d_make4_18) (z := (2 : Int32)) rfl ?_
  refine G_icmpYes X0 hx (pc' := 26) (hb hby d_make4_19) (feq (by decide : ¬ ((4 : Int32) = (2 : Int32)))).2 (by decide) (by decide) ?_
  refine G_iloadN X0 hx (pc' := 27) rfl (hb hby d_make4_26) rfl ?_
  refine G_iconst X0 hx (pc' := 28) rfl (hb hby d_make4_27) (z := (3 : Int32)) rfl ?_
  refine G_icmpYes X0 hx (pc' := 35) (hb hby d_make4_28) (feq (by decide : ¬ ((4 : Int32) = (3 : Int32)))).2 (by decide) (by decide) ?_
  refine G_iconst X0 hx (pc' := 36) rfl (hb hby d_make4_35) (z := (4 : Int32)) rfl ?_
  obtain ⟨T5, h5, X5, e5, E5, B5, A5, st5⟩ := newAI X0 hx hZ (hw _ (List.mem_of_getElem? (i := 5) rfl)) e0 (g := (mkF m 36 #[.val (.int (4 : Int32))] [(.int (4 : Int32))])) rfl (hb hby d_make4_36) rfl (by decide) (ty := .byte) rfl ⟨rfl, rfl⟩ (cap := 4) (by decide) (by decide) (by decide) (by decide) (ad := "[B") (by decide)
  obtain ⟨b5, q5⟩ : ∃ z, z = h0.size := ⟨_, rfl⟩
  rw [← q5] at A5 B5 st5
  refine Go.st st5 ?_
  have g_b5 : n0 ≤ b5 := Nat.le_trans Z0 (Nat.le_of_eq q5.symm)
  have sz_b5 : h0.size ≤ b5 := Nat.le_trans (Nat.le_refl _) (Nat.le_of_eq q5.symm)
  have A_b5 : AI Z h5 b5 .byte [(0 : Int32), (0 : Int32), (0 : Int32), (0 : Int32)] := A5
  have K_5 : Keep h0 h5 [] := (Keep.refl h0 []).ext E5
  have Z_5 : n0 ≤ h5.size := Nat.le_trans Z0 K_5.1
  show Go p e below s _ _ _ T5 (mkF m 38 #[.val (.int (4 : Int32))] [(.ref b5)])
  refine Go.fin X5 hlk (v := some (.ref b5)) (fun h => by rw [Bd.returns] at h; cases h) (by decide) (by decide) ?_ (fun fs hr => retOut X5 hx Bd.returns rfl (Or.inr (Or.inr (Or.inr (Or.inr ⟨rfl, rfl, rfl⟩)))) (hb hby d_make4_38) hr)
  show Q_make4 Z  h0 n0 _ T5.heap _
  rw [e5]
  exact ⟨b5, rfl, N0, K_5, sz_b5, B5, A_b5⟩
theorem d_binit_0 : decode prog_31_method_1_code 0 = .ok (.aload_n 0, 1) := by decide +kernel
theorem d_binit_1 : decode prog_31_method_1_code 1 = .ok (.invokespecial 1, 3) := by decide +kernel
theorem d_binit_4 : decode prog_31_method_1_code 4 = .ok (.aload_n 0, 1) := by decide +kernel
theorem d_binit_5 : decode prog_31_method_1_code 5 = .ok (.aload_n 1, 1) := by decide +kernel
theorem d_binit_6 : decode prog_31_method_1_code 6 = .ok (.putfield 7, 3) := by decide +kernel
theorem d_binit_9 : decode prog_31_method_1_code 9 = .ok (.return_, 1) := by decide +kernel
theorem ef_binit (m : MethodId) (v0 : Addr) (v1 : Addr) : entryFrame m #[(.ref v0), (.ref v1)] 2 = mkF m 0 #[.val (.ref v0), .val (.ref v1)] [] := by first | (simp [entryFrame, mkF, argsToLocals, Value.category]; done) | rfl
def Q_binit (Z : State) (v0 : Addr) (v1 : Addr) (h0 : Heap) (n0 : Nat) (v : Option Value) (h : Heap) (L : List Loc) : Prop := v = none ∧ Fr n0 L ∧ Keep h0 h [v0] ∧ Exa Z h v0 "com/example/colonwise/colonwise/model/BencodeString" ∧ Fld Z h v0 "com/example/colonwise/colonwise/model/BencodeString" "bytes" "[B" (.ref v1)
set_option maxRecDepth 65536 in
set_option maxHeartbeats 40000000 in
theorem rm_binit (l : Launch) (Z : State) (a0 : Array Value) (hw : ∀ d ∈ tables_1, d.before a0 Z = true) (ws : List Jvm.Cond) (v0 : Addr) (v1 : Addr) (h0 : Heap) (n0 : Nat) (Z0 : n0 ≤ h0.size) (f0_E_v0 : Exa Z h0 v0 "com/example/colonwise/colonwise/model/BencodeString") (f1_F_v0 : Fld Z h0 v0 "com/example/colonwise/colonwise/model/BencodeString" "bytes" "[B" .null) (g_v0 : n0 ≤ v0) :
    MetFree l (⟨"com/example/colonwise/colonwise/model/BencodeString", "<init>", "([B)V"⟩ : MethodName) (head1 (Jvm.Cond.code (⟨"com/example/colonwise/colonwise/model/BencodeString", "<init>", "([B)V"⟩ : MethodName) prog_31_method_1_code 2 none :: ws) ({ frames := 1, cells := 0, slots := 0, locals := 12 } : Room)) (fun a U => a = #[(.ref v0), (.ref v1)] ∧ Z.Warmed39 U.vm ∧ U.heap = h0) (fun _ _ _ _ _ => True) (fun _ U o U' => ∃ v L, o = .returned v ∧ Q_binit Z v0 v1 h0 n0 v U'.heap L ∧ FrameEnd U o U' L ({ frames := 1, cells := 0, slots := 0, locals := 12 } : Room).cells ({ frames := 1, cells := 0, slots := 0, locals := 12 } : Room).slots) := by
  refine MetFree.of_bodySF (plainFor_of_name (by first | (simp [plainName, overriddenIn]; done) | decide +kernel)) hisR ?_
  intro p e s m args below meth c s₁ Bd hml0 hP hK
  obtain ⟨rfl, hZ, hh⟩ := hP
  have hx := Bd.exec
  have hby := Bd.bytes
  have hml : c.maxLocals = 2 := hml0
  have hown : s.vm.findClass "com/example/colonwise/colonwise/model/BencodeString" = some m.cls := findClass_of_methodNamed Bd.named
  have hnm := (name_of_methodNamed Bd.named Bd.method).1
  have hlk : meth.locks = false := Bd.notSynchronized
  have X0 : Stand p l e ({ frames := 1, cells := 0, slots := 0, locals := 12 } : Room) s m #[(.ref v0), (.ref v1)] below meth c s₁ [] 0 0 := Stand.of_body Bd
  have e0 : s₁.heap = h0 := by rw [← hh, Bd.state]; rfl
  have N0 := Fr.nil n0
  refine Go.enter (Q := Q_binit Z v0 v1 h0 n0) (C := ({ frames := 1, cells := 0, slots := 0, locals := 12 } : Room).cells) (N := ({ frames := 1, cells := 0, slots := 0, locals := 12 } : Room).slots) (ef_binit m v0 v1) ?_
  show Go p e below s _ _ _ s₁ (mkF m 0 #[.val (.ref v0), .val (.ref v1)] [])
  refine G_aloadN X0 hx (pc' := 1) rfl (hb hby d_binit_0) rfl rfl ?_
  obtain ⟨T6, X6, e6, st6⟩ := initO X0 hx hZ hown (hw _ (List.mem_of_getElem? (i := 24) rfl)) (hw _ (List.mem_of_getElem? (i := 25) rfl)) (hw _ (List.mem_of_getElem? (i := 26) rfl)) e0 (g := (mkF m 1 #[.val (.ref v0), .val (.ref v1)] [(.ref v0)])) rfl (by rw [hml]; rfl) rfl (hb hby d_binit_1) (by decide) (W := 0) (by show 2 * 0 + _ ≤ _; exact Nat.le_of_eq rfl) (by decide)
  refine Go.st st6 ?_
  show Go p e below s _ _ _ T6 (mkF m 4 #[.val (.ref v0), .val (.ref v1)] [])
  refine G_aloadN X6 hx (pc' := 5) rfl (hb hby d_binit_4) rfl rfl ?_
  refine G_aloadN X6 hx (pc' := 6) rfl (hb hby d_binit_5) rfl rfl ?_
  obtain ⟨T7, h7, X7, e7, W7, st7⟩ := putF X6 hx hZ hown (host := "") (Or.inl (hw _ (List.mem_of_getElem? (i := 27) rfl))) Via.refl e6 f1_F_v0 f0_E_v0 (Or.inr ⟨(hw _ (List.mem_of_getElem? (i := 28) rfl)), rfl, hnm⟩) (hw _ (List.mem_of_getElem? (i := 11) rfl)) (ty := (.array .byte)) (by decide) rfl rfl (g := (mkF m 6 #[.val (.ref v0), .val (.ref v1)] [(.ref v1), (.ref v0)])) rfl rfl (hb hby d_binit_6)
  refine Go.st st7 ?_
  have F_v0_w7 := f1_F_v0.same W7
  have E_v0_7 := f0_E_v0.wr W7
  have K_7 : Keep h0 h7 [v0] := (Keep.refl h0 [v0]).wr W7 (Or.inl (List.mem_of_getElem? (i := 0) rfl))
  have Z_7 : n0 ≤ h7.size := Nat.le_trans Z0 K_7.1
  have N7 := Fr.snoc X7 N0 g_v0
  show Go p e below s _ _ _ T7 (mkF m 9 #[.val (.ref v0), .val (.ref v1)] [])
  refine Go.fin X7 hlk (v := none) (fun _ => rfl) (by decide) (by decide) ?_ (fun fs hr => X7.returnOut hx Bd.returns (hb hby d_binit_9) hr)
  show Q_binit Z v0 v1 h0 n0 _ T7.heap _
  rw [e7]
  exact ⟨rfl, N7, K_7, E_v0_7, F_v0_w7⟩
theorem d_of_0 : decode prog_31_method_2_code 0 = .ok (.new 8, 3) := by decide +kernel
theorem d_of_3 : decode prog_31_method_2_code 3 = .ok (.dup, 1) := by decide +kernel
theorem d_of_4 : decode prog_31_method_2_code 4 = .ok (.aload_n 0, 1) := by decide +kernel
theorem d_of_5 : decode prog_31_method_2_code 5 = .ok (.invokevirtual 13, 3) := by decide +kernel
theorem d_of_8 : decode prog_31_method_2_code 8 = .ok (.checkcast 14, 3) := by decide +kernel
theorem d_of_11 : decode prog_31_method_2_code 11 = .ok (.invokespecial 18, 3) := by decide +kernel
theorem pd_0 : parseMethodDescriptor "([B)V" = some ⟨[(.array .byte)], none⟩ := by decide +kernel
theorem d_of_14 : decode prog_31_method_2_code 14 = .ok (.areturn, 1) := by decide +kernel
theorem ef_of (m : MethodId) (v0 : Addr) : entryFrame m #[(.ref v0)] 1 = mkF m 0 #[.val (.ref v0)] [] := by first | (simp [entryFrame, mkF, argsToLocals, Value.category]; done) | rfl
def Q_of (Z : State) (v0 : Addr) (xs : List Int32) (h0 : Heap) (n0 : Nat) (v : Option Value) (h : Heap) (L : List Loc) : Prop := ∃ b0 b1 : Addr, v = some (.ref b0) ∧ Fr n0 L ∧ Keep h0 h [] ∧ h0.size ≤ b0 ∧ h0.size ≤ b1 ∧ Exa Z h b0 "com/example/colonwise/colonwise/model/BencodeString" ∧ Fld Z h b0 "com/example/colonwise/colonwise/model/BencodeString" "bytes" "[B" (.ref b1) ∧ Exa Z h b1 "[B" ∧ AI Z h b1 .byte xs ∧ b0 ≠ b1
set_option maxRecDepth 65536 in
set_option maxHeartbeats 40000000 in
theorem rm_of (l : Launch) (Z : State) (a0 : Array Value) (hw : ∀ d ∈ tables_1, d.before a0 Z = true) (ws : List Jvm.Cond) (v0 : Addr) (xs : List Int32) (h0 : Heap) (n0 : Nat) (Z0 : n0 ≤ h0.size) (f0_E_v0 : Exa Z h0 v0 "[B") (f1_A_v0 : AI Z h0 v0 .byte xs) (hcap : xs.length ≤ 4) :
    MetFree l (⟨"com/example/colonwise/colonwise/model/BencodeString", "of", "([B)Lcom/example/colonwise/colonwise/model/BencodeString;"⟩ : MethodName) (head1 (Jvm.Cond.code (⟨"com/example/colonwise/colonwise/model/BencodeString", "of", "([B)Lcom/example/colonwise/colonwise/model/BencodeString;"⟩ : MethodName) prog_31_method_2_code 1 (some (.object "com/example/colonwise/colonwise/model/BencodeString")) :: ws) ({ frames := 2, cells := 2, slots := 5, locals := 26 } : Room)) (fun a U => a = #[(.ref v0)] ∧ Z.Warmed39 U.vm ∧ U.heap = h0) (fun _ _ _ _ _ => True) (fun _ U o U' => ∃ v L, o = .returned v ∧ Q_of Z v0 xs h0 n0 v U'.heap L ∧ FrameEnd U o U' L ({ frames := 2, cells := 2, slots := 5, locals := 26 } : Room).cells ({ frames := 2, cells := 2, slots := 5, locals := 26 } : Room).slots) := by
  refine MetFree.of_bodySF (plainFor_of_name (by first | (simp [plainName, overriddenIn]; done) | decide +kernel)) hisR ?_
  intro p e s m args below meth c s₁ Bd hml0 hP hK
  obtain ⟨rfl, hZ, hh⟩ := hP
  have hx := Bd.exec
  have hby := Bd.bytes
  have hml : c.maxLocals = 1 := hml0
  have hown : s.vm.findClass "com/example/colonwise/colonwise/model/BencodeString" = some m.cls := findClass_of_methodNamed Bd.named
  have hnm := (name_of_methodNamed Bd.named Bd.method).1
  have hlk : meth.locks = false := Bd.notSynchronized
  have X0 : Stand p l e ({ frames := 2, cells := 2, slots := 5, locals := 26 } : Room) s m #[(.ref v0)] below meth c s₁ [] 0 0 := Stand.of_body Bd
  have e0 : s₁.heap = h0 := by rw [← hh, Bd.state]; rfl
  have N0 := Fr.nil n0
  refine Go.enter (Q := Q_of Z v0 xs h0 n0) (C := ({ frames := 2, cells := 2, slots := 5, locals := 26 } : Room).cells) (N := ({ frames := 2, cells := 2, slots := 5, locals := 26 } : Room).slots) (ef_of m v0) ?_
  show Go p e below s _ _ _ s₁ (mkF m 0 #[.val (.ref v0)] [])
  obtain ⟨T8, h8, X8, e8, E8, A8, D8, -, st8⟩ := newO X0 hx hZ hown (hw _ (List.mem_of_getElem? (i := 10) rfl)) (hw _ (List.mem_of_getElem? (i := 11) rfl)) (hw _ (List.mem_of_getElem? (i := 8) rfl)) e0 (g := (mkF m 0 #[.val (.ref v0)] [])) rfl (hb hby d_of_0) (by decide) (by decide)
  obtain ⟨b8, q8⟩ : ∃ z, z = h0.size := ⟨_, rfl⟩
  rw [← q8] at A8 D8 st8
  refine Go.st st8 ?_
  have ne_v0_b8 : v0 ≠ b8 := Nat.ne_of_lt (Nat.lt_of_lt_of_le f0_E_v0.lt (Nat.le_of_eq q8.symm))
  have g_b8 : n0 ≤ b8 := Nat.le_trans Z0 (Nat.le_of_eq q8.symm)
  have sz_b8 : h0.size ≤ b8 := Nat.le_trans (Nat.le_refl _) (Nat.le_of_eq q8.symm)
  have E_v0_8 := f0_E_v0.ext E8
  have A_v0_8 := f1_A_v0.ext E8
  have F_b8_bytes : Fld Z h8 b8 "com/example/colonwise/colonwise/model/BencodeString" "bytes" "[B" .null := D8 (Or.inr (hw _ (List.mem_of_getElem? (i := 28) rfl))) (ty := (.array .byte)) (by decide)
  have K_8 : Keep h0 h8 [] := (Keep.refl h0 []).ext E8
  have Z_8 : n0 ≤ h8.size := Nat.le_trans Z0 K_8.1
  show Go p e below s _ _ _ T8 (mkF m 3 #[.val (.ref v0)] [(.ref b8)])
  refine G_dup X8 hx (pc' := 4) rfl (hb hby d_of_3) rfl ?_
  refine G_aloadN X8 hx (pc' := 5) rfl (hb hby d_of_4) rfl rfl ?_
  obtain ⟨T9, h9, X9, e9, E9, B9, A9, st9⟩ := cloneAI X8 hx hZ hown (hw _ (List.mem_of_getElem? (i := 12) rfl)) (hw _ (List.mem_of_getElem? (i := 13) rfl)) (hw _ (List.mem_of_getElem? (i := 17) rfl)) (hw _ (List.mem_of_getElem? (i := 15) rfl)) (hw _ (List.mem_of_getElem? (i := 16) rfl)) (hw _ (List.mem_of_getElem? (i := 18) rfl)) e8 A_v0_8 E_v0_8 (g := (mkF m 5 #[.val (.ref v0)] [(.ref v0), (.ref b8), (.ref b8)])) rfl (by rw [hml]; rfl) rfl (hb hby d_of_5) (by decide) (W := 2) (cap := 4) (by show 2 * 0 + _ ≤ _; exact Nat.le_of_eq rfl) (by decide) hcap (by decide) (by decide)
  obtain ⟨b9, q9⟩ : ∃ z, z = h8.size := ⟨_, rfl⟩
  rw [← q9] at A9 B9 st9
  refine Go.st st9 ?_
  have ne_b8_b9 : b8 ≠ b9 := Nat.ne_of_lt (Nat.lt_of_lt_of_le A8.lt (Nat.le_of_eq q9.symm))
  have ne_v0_b9 : v0 ≠ b9 := Nat.ne_of_lt (Nat.lt_of_lt_of_le E_v0_8.lt (Nat.le_of_eq q9.symm))
  have g_b9 : n0 ≤ b9 := Nat.le_trans Z_8 (Nat.le_of_eq q9.symm)
  have sz_b9 : h0.size ≤ b9 := Nat.le_trans K_8.1 (Nat.le_of_eq q9.symm)
  have E_v0_9 := E_v0_8.ext E9
  have A_v0_9 := A_v0_8.ext E9
  have E_b8_9 := A8.ext E9
  have F_b8_bytes_9 := F_b8_bytes.ext E9
  have K_9 : Keep h0 h9 [] := K_8.ext E9
  have Z_9 : n0 ≤ h9.size := Nat.le_trans Z0 K_9.1
  show Go p e below s _ _ _ T9 (mkF m 8 #[.val (.ref v0)] [(.ref b9), (.ref b8), (.ref b8)])
  obtain ⟨T10, X10, e10, st10⟩ := castY X9 hx hZ hown (hw _ (List.mem_of_getElem? (i := 19) rfl)) e9 (Ins.self B9) (g := (mkF m 8 #[.val (.ref v0)] [(.ref b9), (.ref b8), (.ref b8)])) rfl rfl (hb hby d_of_8)
  refine Go.st st10 ?_
  show Go p e below s _ _ _ T10 (mkF m 11 #[.val (.ref v0)] [(.ref b9), (.ref b8), (.ref b8)])
  obtain ⟨_, _, ⟨T11, L11, k11, n11⟩, -, X11, ⟨Lc11, hQ11, l11, y11, z11⟩, st11⟩ := X10.specialBack hx (y := (⟨"com/example/colonwise/colonwise/model/BencodeString", "<init>", "([B)V"⟩ : MethodName)) rfl hown (mvT hZ (hw _ (List.mem_of_getElem? (i := 21) rfl))) (mvT hZ (hw _ (List.mem_of_getElem? (i := 22) rfl))) (mvT hZ (hw _ (List.mem_of_getElem? (i := 23) rfl))) (by decide) (backOf (W := 1) (rm_binit l Z a0 hw [] b8 b9 h9 n0 Z_9 E_b8_9 F_b8_bytes_9 g_b8) hZ (hw _ (List.mem_of_getElem? (i := 23) rfl)) (hw _ (List.mem_of_getElem? (i := 8) rfl)) (by decide) (by decide)) (g := (mkF m 11 #[.val (.ref v0)] [(.ref b9), (.ref b8), (.ref b8)])) rfl (by rw [hml]; rfl) (Steps.refl _) (a := b8) (argsL := [(.ref b9)]) (rest := [(.ref b8)]) (lenOf pd_0 rfl) rfl (by show 2 * 0 + _ ≤ _; exact Nat.le_of_eq rfl) (hb hby d_of_11) (fun _ _ => ⟨rfl, e10, (by decide : 2 + 0 ≤ _), (by decide : 5 + 0 ≤ _)⟩)
  dsimp only [Pt.U, Pt.locs, Pt.cells, Pt.slots] at X11 l11 y11 z11 st11 hQ11
  subst l11 y11 z11
  obtain ⟨rfl, N11q, K11, p11_0, p11_1⟩ := hQ11
  have N11 := Fr.app N0 N11q
  refine Go.st (fun _ k => st11.trans k) ?_
  have E_v0_11 := E_v0_9.keep K11
  have A_v0_11 := A_v0_9.keep K11 (ninS ne_v0_b8 nin0)
  have E_b9_11 := B9.keep K11
  have A_b9_11 := A9.keep K11 (ninS (Ne.symm ne_b8_b9) nin0)
  have K_11 : Keep h0 T11.heap [] := K_9.trans K11 (allS (Or.inr sz_b8) all0)
  have Z_11 : n0 ≤ T11.heap.size := Nat.le_trans Z0 K_11.1
  show Go p e below s _ _ _ T11 (mkF m 14 #[.val (.ref v0)] [(.ref b8)])
  refine Go.fin X11 hlk (v := some (.ref b8)) (fun h => by rw [Bd.returns] at h; cases h) (by decide) (by decide) ?_ (fun fs hr => retOut X11 hx Bd.returns rfl (Or.inr (Or.inr (Or.inr (Or.inr ⟨rfl, rfl, rfl⟩)))) (hb hby d_of_14) hr)
  show Q_of Z v0 xs h0 n0 _ T11.heap _
  exact ⟨b8, b9, rfl, N11, K_11, sz_b8, sz_b9, p11_0, p11_1, E_b9_11, A_b9_11, ne_b8_b9⟩
theorem d_bytes_0 : decode prog_31_method_5_code 0 = .ok (.aload_n 0, 1) := by decide +kernel
theorem d_bytes_1 : decode prog_31_method_5_code 1 = .ok (.getfield 7, 3) := by decide +kernel
theorem d_bytes_4 : decode prog_31_method_5_code 4 = .ok (.invokevirtual 13, 3) := by decide +kernel
theorem d_bytes_7 : decode prog_31_method_5_code 7 = .ok (.checkcast 14, 3) := by decide +kernel
theorem d_bytes_10 : decode prog_31_method_5_code 10 = .ok (.areturn, 1) := by decide +kernel
theorem ef_bytes (m : MethodId) (v0 : Addr) : entryFrame m #[(.ref v0)] 1 = mkF m 0 #[.val (.ref v0)] [] := by first | (simp [entryFrame, mkF, argsToLocals, Value.category]; done) | rfl
def Q_bytes (Z : State) (v0 : Addr) (dd : Addr) (xs : List Int32) (h0 : Heap) (n0 : Nat) (v : Option Value) (h : Heap) (L : List Loc) : Prop := ∃ b0 : Addr, v = some (.ref b0) ∧ Fr n0 L ∧ Keep h0 h [] ∧ h0.size ≤ b0 ∧ Exa Z h b0 "[B" ∧ AI Z h b0 .byte xs
set_option maxRecDepth 65536 in
set_option maxHeartbeats 40000000 in
theorem rm_bytes (l : Launch) (Z : State) (a0 : Array Value) (hw : ∀ d ∈ tables_1, d.before a0 Z = true) (ws : List Jvm.Cond) (v0 : Addr) (dd : Addr) (xs : List Int32) (h0 : Heap) (n0 : Nat) (Z0 : n0 ≤ h0.size) (f0_E_v0 : Exa Z h0 v0 "com/example/colonwise/colonwise/model/BencodeString") (f1_F_v0 : Fld Z h0 v0 "com/example/colonwise/colonwise/model/BencodeString" "bytes" "[B" (.ref dd)) (f2_E_dd : Exa Z h0 dd "[B") (f3_A_dd : AI Z h0 dd .byte xs) (hcap : xs.length ≤ 4) :
    MetFree l (⟨"com/example/colonwise/colonwise/model/BencodeString", "bytes", "()[B"⟩ : MethodName) (head1 (Jvm.Cond.code (⟨"com/example/colonwise/colonwise/model/BencodeString", "bytes", "()[B"⟩ : MethodName) prog_31_method_5_code 1 (some (.array .byte)) :: ws) ({ frames := 1, cells := 1, slots := 4, locals := 14 } : Room)) (fun a U => a = #[(.ref v0)] ∧ Z.Warmed39 U.vm ∧ U.heap = h0) (fun _ _ _ _ _ => True) (fun _ U o U' => ∃ v L, o = .returned v ∧ Q_bytes Z v0 dd xs h0 n0 v U'.heap L ∧ FrameEnd U o U' L ({ frames := 1, cells := 1, slots := 4, locals := 14 } : Room).cells ({ frames := 1, cells := 1, slots := 4, locals := 14 } : Room).slots) := by
  refine MetFree.of_bodySF (plainFor_of_name (by first | (simp [plainName, overriddenIn]; done) | decide +kernel)) hisR ?_
  intro p e s m args below meth c s₁ Bd hml0 hP hK
  obtain ⟨rfl, hZ, hh⟩ := hP
  have hx := Bd.exec
  have hby := Bd.bytes
  have hml : c.maxLocals = 1 := hml0
  have hown : s.vm.findClass "com/example/colonwise/colonwise/model/BencodeString" = some m.cls := findClass_of_methodNamed Bd.named
  have hnm := (name_of_methodNamed Bd.named Bd.method).1
  have hlk : meth.locks = false := Bd.notSynchronized
  have X0 : Stand p l e ({ frames := 1, cells := 1, slots := 4, locals := 14 } : Room) s m #[(.ref v0)] below meth c s₁ [] 0 0 := Stand.of_body Bd
  have e0 : s₁.heap = h0 := by rw [← hh, Bd.state]; rfl
  have N0 := Fr.nil n0
  refine Go.enter (Q := Q_bytes Z v0 dd xs h0 n0) (C := ({ frames := 1, cells := 1, slots := 4, locals := 14 } : Room).cells) (N := ({ frames := 1, cells := 1, slots := 4, locals := 14 } : Room).slots) (ef_bytes m v0) ?_
  show Go p e below s _ _ _ s₁ (mkF m 0 #[.val (.ref v0)] [])
  refine G_aloadN X0 hx (pc' := 1) rfl (hb hby d_bytes_0) rfl rfl ?_
  obtain ⟨T12, X12, e12, st12⟩ := getF X0 hx hZ hown (host := "") (Or.inl (hw _ (List.mem_of_getElem? (i := 27) rfl))) Via.refl e0 f1_F_v0 (g := (mkF m 1 #[.val (.ref v0)] [(.ref v0)])) rfl rfl (hb hby d_bytes_1)
  refine Go.st st12 ?_
  show Go p e below s _ _ _ T12 (mkF m 4 #[.val (.ref v0)] [(.ref dd)])
  obtain ⟨T13, h13, X13, e13, E13, B13, A13, st13⟩ := cloneAI X12 hx hZ hown (hw _ (List.mem_of_getElem? (i := 12) rfl)) (hw _ (List.mem_of_getElem? (i := 13) rfl)) (hw _ (List.mem_of_getElem? (i := 17) rfl)) (hw _ (List.mem_of_getElem? (i := 15) rfl)) (hw _ (List.mem_of_getElem? (i := 16) rfl)) (hw _ (List.mem_of_getElem? (i := 18) rfl)) e12 f3_A_dd f2_E_dd (g := (mkF m 4 #[.val (.ref v0)] [(.ref dd)])) rfl (by rw [hml]; rfl) rfl (hb hby d_bytes_4) (by decide) (W := 0) (cap := 4) (by show 2 * 0 + _ ≤ _; exact Nat.le_of_eq rfl) (by decide) hcap (by decide) (by decide)
  obtain ⟨b13, q13⟩ : ∃ z, z = h0.size := ⟨_, rfl⟩
  rw [← q13] at A13 B13 st13
  refine Go.st st13 ?_
  have ne_dd_b13 : dd ≠ b13 := Nat.ne_of_lt (Nat.lt_of_lt_of_le f2_E_dd.lt (Nat.le_of_eq q13.symm))
  have ne_v0_b13 : v0 ≠ b13 := Nat.ne_of_lt (Nat.lt_of_lt_of_le f0_E_v0.lt (Nat.le_of_eq q13.symm))
  have g_b13 : n0 ≤ b13 := Nat.le_trans Z0 (Nat.le_of_eq q13.symm)
  have sz_b13 : h0.size ≤ b13 := Nat.le_trans (Nat.le_refl _) (Nat.le_of_eq q13.symm)
  have E_v0_13 := f0_E_v0.ext E13
  have F_v0_bytes_13 := f1_F_v0.ext E13
  have E_dd_13 := f2_E_dd.ext E13
  have A_dd_13 := f3_A_dd.ext E13
  have K_13 : Keep h0 h13 [] := (Keep.refl h0 []).ext E13
  have Z_13 : n0 ≤ h13.size := Nat.le_trans Z0 K_13.1
  show Go p e below s _ _ _ T13 (mkF m 7 #[.val (.ref v0)] [(.ref b13)])
  obtain ⟨T14, X14, e14, st14⟩ := castY X13 hx hZ hown (hw _ (List.mem_of_getElem? (i := 19) rfl)) e13 (Ins.self B13) (g := (mkF m 7 #[.val (.ref v0)] [(.ref b13)])) rfl rfl (hb hby d_bytes_7)
  refine Go.st st14 ?_
  show Go p e below s _ _ _ T14 (mkF m 10 #[.val (.ref v0)] [(.ref b13)])
  refine Go.fin X14 hlk (v := some (.ref b13)) (fun h => by rw [Bd.returns] at h; cases h) (by decide) (by decide) ?_ (fun fs hr => retOut X14 hx Bd.returns rfl (Or.inr (Or.inr (Or.inr (Or.inr ⟨rfl, rfl, rfl⟩)))) (hb hby d_bytes_10) hr)
  show Q_bytes Z v0 dd xs h0 n0 _ T14.heap _
  rw [e14]
  exact ⟨b13, rfl, N0, K_13, sz_b13, B13, A13⟩
theorem d_length_0 : decode prog_31_method_8_code 0 = .ok (.aload_n 0, 1) := by decide +kernel
theorem d_length_1 : decode prog_31_method_8_code 1 = .ok (.getfield 7, 3) := by decide +kernel
theorem d_length_4 : decode prog_31_method_8_code 4 = .ok (.arraylength, 1) := by decide +kernel
theorem d_length_5 : decode prog_31_method_8_code 5 = .ok (.ireturn, 1) := by decide +kernel
theorem ef_length (m : MethodId) (v0 : Addr) : entryFrame m #[(.ref v0)] 1 = mkF m 0 #[.val (.ref v0)] [] := by first | (simp [entryFrame, mkF, argsToLocals, Value.category]; done) | rfl
def Q_length (Z : State) (v0 : Addr) (dd : Addr) (xs : List Int32) (h0 : Heap) (n0 : Nat) (v : Option Value) (h : Heap) (L : List Loc) : Prop := v = some (.int (Int32.ofNat (xs).length)) ∧ Fr n0 L ∧ h = h0
set_option maxRecDepth 65536 in
set_option maxHeartbeats 40000000 in
theorem rm_length (l : Launch) (Z : State) (a0 : Array Value) (hw : ∀ d ∈ tables_1, d.before a0 Z = true) (ws : List Jvm.Cond) (v0 : Addr) (dd : Addr) (xs : List Int32) (h0 : Heap) (n0 : Nat) (Z0 : n0 ≤ h0.size) (f0_E_v0 : Exa Z h0 v0 "com/example/colonwise/colonwise/model/BencodeString") (f1_F_v0 : Fld Z h0 v0 "com/example/colonwise/colonwise/model/BencodeString" "bytes" "[B" (.ref dd)) (f2_A_dd : AI Z h0 dd .byte xs) :
    MetFree l (⟨"com/example/colonwise/colonwise/model/BencodeString", "length", "()I"⟩ : MethodName) (head1 (Jvm.Cond.code (⟨"com/example/colonwise/colonwise/model/BencodeString", "length", "()I"⟩ : MethodName) prog_31_method_8_code 1 (some .int) :: ws) ({ frames := 0, cells := 0, slots := 0, locals := 0 } : Room)) (fun a U => a = #[(.ref v0)] ∧ Z.Warmed39 U.vm ∧ U.heap = h0) (fun _ _ _ _ _ => True) (fun _ U o U' => ∃ v L, o = .returned v ∧ Q_length Z v0 dd xs h0 n0 v U'.heap L ∧ FrameEnd U o U' L ({ frames := 0, cells := 0, slots := 0, locals := 0 } : Room).cells ({ frames := 0, cells := 0, slots := 0, locals := 0 } : Room).slots) := by
  refine MetFree.of_bodySF (plainFor_of_name (by first | (simp [plainName, overriddenIn]; done) | decide +kernel)) hisR ?_
  intro p e s m args below meth c s₁ Bd hml0 hP hK
  obtain ⟨rfl, hZ, hh⟩ := hP
  have hx := Bd.exec
  have hby := Bd.bytes
  have hml : c.maxLocals = 1 := hml0
  have hown : s.vm.findClass "com/example/colonwise/colonwise/model/BencodeString" = some m.cls := findClass_of_methodNamed Bd.named
  have hnm := (name_of_methodNamed Bd.named Bd.method).1
  have hlk : meth.locks = false := Bd.notSynchronized
  have X0 : Stand p l e ({ frames := 0, cells := 0, slots := 0, locals := 0 } : Room) s m #[(.ref v0)] below meth c s₁ [] 0 0 := Stand.of_body Bd
  have e0 : s₁.heap = h0 := by rw [← hh, Bd.state]; rfl
  have N0 := Fr.nil n0
  refine Go.enter (Q := Q_length Z v0 dd xs h0 n0) (C := ({ frames := 0, cells := 0, slots := 0, locals := 0 } : Room).cells) (N := ({ frames := 0, cells := 0, slots := 0, locals := 0 } : Room).slots) (ef_length m v0) ?_
  show Go p e below s _ _ _ s₁ (mkF m 0 #[.val (.ref v0)] [])
  refine G_aloadN X0 hx (pc' := 1) rfl (hb hby d_length_0) rfl rfl ?_
  obtain ⟨T15, X15, e15, st15⟩ := getF X0 hx hZ hown (host := "") (Or.inl (hw _ (List.mem_of_getElem? (i := 27) rfl))) Via.refl e0 f1_F_v0 (g := (mkF m 1 #[.val (.ref v0)] [(.ref v0)])) rfl rfl (hb hby d_length_1)
  refine Go.st st15 ?_
  show Go p e below s _ _ _ T15 (mkF m 4 #[.val (.ref v0)] [(.ref dd)])
  refine Go.st (lenAI X15 hx hZ e15 f2_A_dd (g := (mkF m 4 #[.val (.ref v0)] [(.ref dd)])) rfl rfl (hb hby d_length_4)) ?_
  show Go p e below s _ _ _ T15 (mkF m 5 #[.val (.ref v0)] [(.int (Int32.ofNat (xs).length))])
  refine Go.fin X15 hlk (v := some (.int (Int32.ofNat (xs).length))) (fun h => by rw [Bd.returns] at h; cases h) (by decide) (by decide) ?_ (fun fs hr => retOut X15 hx Bd.returns rfl (Or.inl ⟨rfl, Or.inl rfl, _, rfl⟩) (hb hby d_length_5) hr)
  show Q_length Z v0 dd xs h0 n0 _ T15.heap _
  rw [e15]
  exact ⟨rfl, N0, rfl⟩
theorem own_five (x : Int32) : 0 ≤ ((x &&& (2147483647 : Int32)) % (5 : Int32)).toInt ∧ ((x &&& (2147483647 : Int32)) % (5 : Int32)).toInt < 5 := by
  have h1 := c_mask x 2147483647 31 (by decide) (by decide)
  have h2 := (c_irem (x &&& (2147483647 : Int32)) 5 5 (by decide)).1
  have h3 : 0 ≤ (x &&& (2147483647 : Int32)).toInt := by rw [h1]; omega
  have h4 := h2 h3
  omega
theorem own_last {n : Int32} (hA : 0 ≤ n.toInt) (hB : n.toInt < 5) (n0 : ¬ n = 0) (n1 : ¬ n = 1) (n2 : ¬ n = 2) (n3 : ¬ n = 3) : n = 4 := by
  have l0 : (0 : Int32).toInt = 0 := by decide
  have l1 : (1 : Int32).toInt = 1 := by decide
  have l2 : (2 : Int32).toInt = 2 := by decide
  have l3 : (3 : Int32).toInt = 3 := by decide
  have l4 : (4 : Int32).toInt = 4 := by decide
  rw [← Int32.toInt_inj] at n0 n1 n2 n3
  exact Int32.toInt_inj.mp (by omega)

theorem pd_1 : parseMethodDescriptor "(I)[B" = some ⟨[.int], some (.array .byte)⟩ := by decide +kernel
theorem pd_2 : parseMethodDescriptor "([B)Lcom/example/colonwise/colonwise/model/BencodeString;" = some ⟨[(.array .byte)], some (.object "com/example/colonwise/colonwise/model/BencodeString")⟩ := by decide +kernel
theorem pd_3 : parseMethodDescriptor "()[B" = some ⟨[], some (.array .byte)⟩ := by decide +kernel
theorem pd_4 : parseMethodDescriptor "()I" = some ⟨[], some .int⟩ := by decide +kernel
def f_law (v0 : Int32) (v1 : Int32) (v2 : Int32) (v3 : Int32) (v4 : Int32) : Int32 := (if ((v0 &&& (2147483647 : Int32)) % (5 : Int32)) = (0 : Int32) then (1 : Int32) else (if ((v0 &&& (2147483647 : Int32)) % (5 : Int32)) = (1 : Int32) then (1 : Int32) else (if ((v0 &&& (2147483647 : Int32)) % (5 : Int32)) = (2 : Int32) then (1 : Int32) else (if ((v0 &&& (2147483647 : Int32)) % (5 : Int32)) = (3 : Int32) then (1 : Int32) else (1 : Int32)))))
theorem ef_law (m : MethodId) (v0 : Int32) (v1 : Int32) (v2 : Int32) (v3 : Int32) (v4 : Int32) : entryFrame m #[(.int v0), (.int v1), (.int v2), (.int v3), (.int v4)] maxLocals = mkF m 0 #[.val (.int v0), .val (.int v1), .val (.int v2), .val (.int v3), .val (.int v4), .unset, .unset, .unset, .unset] [] := by first | (simp [entryFrame, mkF, argsToLocals, Value.category, maxLocals]; done) | rfl
def Q_law (Z : State) (v0 : Int32) (v1 : Int32) (v2 : Int32) (v3 : Int32) (v4 : Int32) (h0 : Heap) (n0 : Nat) (v : Option Value) (h : Heap) (L : List Loc) : Prop := v = some (.int (f_law v0 v1 v2 v3 v4)) ∧ Fr n0 L
set_option maxRecDepth 65536 in
set_option maxHeartbeats 40000000 in
theorem rm_law (l : Launch) (Z : State) (a0 : Array Value) (hw : ∀ d ∈ tables_1, d.before a0 Z = true) (ws : List Jvm.Cond) (v0 : Int32) (v1 : Int32) (v2 : Int32) (v3 : Int32) (v4 : Int32) (h0 : Heap) (n0 : Nat) (Z0 : n0 ≤ h0.size) :
    MetFree l x (head1 (Jvm.Cond.code x code maxLocals ret :: ws) room_1) (fun a U => a = #[(.int v0), (.int v1), (.int v2), (.int v3), (.int v4)] ∧ Z.Warmed39 U.vm ∧ U.heap = h0) (fun _ _ _ _ _ => True) (fun _ U o U' => ∃ v L, o = .returned v ∧ Q_law Z v0 v1 v2 v3 v4 h0 n0 v U'.heap L ∧ FrameEnd U o U' L room_1.cells room_1.slots) := by
  refine MetFree.of_bodySF (plainFor_of_name (by first | (simp [plainName, overriddenIn]; done) | decide +kernel)) hisR ?_
  intro p e s m args below meth c s₁ Bd hml0 hP hK
  obtain ⟨rfl, hZ, hh⟩ := hP
  have hx := Bd.exec
  have hby := Bd.bytes
  have hml : c.maxLocals = 9 := hml0
  have hown : s.vm.findClass "com/example/colonwise/colonwise/model/BencodeStringOfPinLaw" = some m.cls := findClass_of_methodNamed Bd.named
  have hnm := (name_of_methodNamed Bd.named Bd.method).1
  have hlk : meth.locks = false := Bd.notSynchronized
  have X0 : Stand p l e room_1 s m #[(.int v0), (.int v1), (.int v2), (.int v3), (.int v4)] below meth c s₁ [] 0 0 := Stand.of_body Bd
  have e0 : s₁.heap = h0 := by rw [← hh, Bd.state]; rfl
  have N0 := Fr.nil n0
  refine Go.enter (Q := Q_law Z v0 v1 v2 v3 v4 h0 n0) (C := room_1.cells) (N := room_1.slots) (ef_law m v0 v1 v2 v3 v4) ?_
  show Go p e below s _ _ _ s₁ (mkF m 0 #[.val (.int v0), .val (.int v1), .val (.int v2), .val (.int v3), .val (.int v4), .unset, .unset, .unset, .unset] [])
  refine G_iloadN X0 hx (pc' := 1) rfl (hb hby at_0) rfl ?_
  refine G_ldc X0 hx (pc' := 3) rfl hown (mvT hZ (hw _ (List.mem_of_getElem? (i := 0) rfl))) (hb hby at_1) ?_
  refine G_iand X0 hx (pc' := 4) rfl (hb hby at_3)  ?_
  refine G_iconst X0 hx (pc' := 5) rfl (hb hby at_4) (z := (5 : Int32)) rfl ?_
  refine G_irem X0 hx (pc' := 6) rfl (hb hby at_5) (by decide) ?_
  refine G_istore X0 hx (pc' := 8) rfl (hb hby at_6) (L' := #[.val (.int v0), .val (.int v1), .val (.int v2), .val (.int v3), .val (.int v4), .val (.int ((v0 &&& (2147483647 : Int32)) % (5 : Int32))), .unset, .unset, .unset]) rfl ?_
  obtain ⟨n, h_n, hA, hB⟩ : ∃ n : Int32, ((v0 &&& (2147483647 : Int32)) % (5 : Int32)) = n ∧ 0 ≤ n.toInt ∧ n.toInt < 5 := ⟨_, rfl, (own_five _).1, (own_five _).2⟩
  rw [h_n]
  by_cases hk0_1 : n = (0 : Int32)
  · rw [hk0_1]
    refine G_iload X0 hx (pc' := 10) rfl (hb hby at_8) rfl ?_
    obtain ⟨_, _, ⟨T16, L16, k16, n16⟩, -, X16, ⟨Lc16, hQ16, l16, y16, z16⟩, st16⟩ := Jvm.LawKit.callS X0 hx (y := (⟨"com/example/colonwise/colonwise/model/BencodeStringOfPinLaw", "make", "(I)[B"⟩ : MethodName)) hown (mvT hZ (hw _ (List.mem_of_getElem? (i := 1) rfl))) (mvT hZ (hw _ (List.mem_of_getElem? (i := 2) rfl))) (mvT hZ (hw _ (List.mem_of_getElem? (i := 3) rfl))) (mvT hZ (hw _ (List.mem_of_getElem? (i := 4) rfl))) (by decide) (backOf (W := 0) (rm_make0 l Z a0 hw []  h0 n0 Z0 ) hZ (hw _ (List.mem_of_getElem? (i := 4) rfl)) (hw _ (List.mem_of_getElem? (i := 3) rfl)) (by decide) (by decide)) (g := (mkF m 10 #[.val (.int v0), .val (.int v1), .val (.int v2), .val (.int v3), .val (.int v4), .val (.int (0 : Int32)), .unset, .unset, .unset] [(.int (0 : Int32))])) rfl (by rw [hml]; rfl) (argsL := [(.int (0 : Int32))]) (rest := []) (lenOf pd_1 rfl) rfl (by show 2 * 0 + _ ≤ _; exact Nat.le_of_eq rfl) (hb hby at_10) (fun _ _ => ⟨rfl, e0, (by decide : 0 + 1 ≤ _), (by decide : 0 + 0 ≤ _)⟩)
    dsimp only [Pt.U, Pt.locs, Pt.cells, Pt.slots] at X16 l16 y16 z16 st16 hQ16
    subst l16 y16 z16
    obtain ⟨b0_16, rfl, N16q, K16, le_b0_16, p16_0, p16_1⟩ := hQ16
    have N16 := Fr.app N0 N16q
    refine Go.st st16 ?_
    have g_b0_16 : n0 ≤ b0_16 := Nat.le_trans Z0 le_b0_16
    have sz_b0_16 : h0.size ≤ b0_16 := Nat.le_trans (Nat.le_refl _) le_b0_16
    have K_16 : Keep h0 T16.heap [] := (Keep.refl h0 []).trans K16 all0
    have Z_16 : n0 ≤ T16.heap.size := Nat.le_trans Z0 K_16.1
    show Go p e below s _ _ _ T16 (mkF m 13 #[.val (.int v0), .val (.int v1), .val (.int v2), .val (.int v3), .val (.int v4), .val (.int (0 : Int32)), .unset, .unset, .unset] [(.ref b0_16)])
    refine G_astore X16 hx (pc' := 15) rfl (hb hby at_13) rfl (L' := #[.val (.int v0), .val (.int v1), .val (.int v2), .val (.int v3), .val (.int v4), .val (.int (0 : Int32)), .val (.ref b0_16), .unset, .unset]) rfl ?_
    refine G_iload X16 hx (pc' := 17) rfl (hb hby at_15) rfl ?_
    refine G_ifYes X16 hx (pc' := 26) (hb hby at_17) ((if0 _ _).trans (flt (by decide : ¬ ((0 : Int32) < (0 : Int32)))).2.2.2) (by decide) (by decide) ?_
    refine G_iload X16 hx (pc' := 28) rfl (hb hby at_26) rfl ?_
    refine G_iconst X16 hx (pc' := 29) rfl (hb hby at_28) (z := (1 : Int32)) rfl ?_
    refine G_icmpYes X16 hx (pc' := 38) (hb hby at_29) (flt (by decide : ¬ ((1 : Int32) < (0 : Int32)))).2.2.2 (by decide) (by decide) ?_
    refine G_iload X16 hx (pc' := 40) rfl (hb hby at_38) rfl ?_
    refine G_iconst X16 hx (pc' := 41) rfl (hb hby at_40) (z := (2 : Int32)) rfl ?_
    refine G_icmpYes X16 hx (pc' := 50) (hb hby at_41) (flt (by decide : ¬ ((2 : Int32) < (0 : Int32)))).2.2.2 (by decide) (by decide) ?_
    refine G_iload X16 hx (pc' := 52) rfl (hb hby at_50) rfl ?_
    refine G_iconst X16 hx (pc' := 53) rfl (hb hby at_52) (z := (3 : Int32)) rfl ?_
    refine G_icmpYes X16 hx (pc' := 63) (hb hby at_53) (flt (by decide : ¬ ((3 : Int32) < (0 : Int32)))).2.2.2 (by decide) (by decide) ?_
    refine G_aload X16 hx (pc' := 65) rfl (hb hby at_63) rfl rfl ?_
    obtain ⟨_, _, ⟨T17, L17, k17, n17⟩, -, X17, ⟨Lc17, hQ17, l17, y17, z17⟩, st17⟩ := Jvm.LawKit.callS X16 hx (y := (⟨"com/example/colonwise/colonwise/model/BencodeString", "of", "([B)Lcom/example/colonwise/colonwise/model/BencodeString;"⟩ : MethodName)) hown (mvT hZ (hw _ (List.mem_of_getElem? (i := 6) rfl))) (mvT hZ (hw _ (List.mem_of_getElem? (i := 7) rfl))) (mvT hZ (hw _ (List.mem_of_getElem? (i := 8) rfl))) (mvT hZ (hw _ (List.mem_of_getElem? (i := 9) rfl))) (by decide) (backOf (W := 0) (rm_of l Z a0 hw [] b0_16 [] T16.heap n0 Z_16 p16_0 p16_1 (by simp)) hZ (hw _ (List.mem_of_getElem? (i := 9) rfl)) (hw _ (List.mem_of_getElem? (i := 8) rfl)) (by decide) (by decide)) (g := (mkF m 65 #[.val (.int v0), .val (.int v1), .val (.int v2), .val (.int v3), .val (.int v4), .val (.int (0 : Int32)), .val (.ref b0_16), .unset, .unset] [(.ref b0_16)])) rfl (by rw [hml]; rfl) (argsL := [(.ref b0_16)]) (rest := []) (lenOf pd_2 rfl) rfl (by show 2 * 0 + _ ≤ _; exact Nat.le_of_eq rfl) (hb hby at_65) (fun _ _ => ⟨rfl, rfl, (by decide : 1 + 2 ≤ _), (by decide : 0 + 5 ≤ _)⟩)
    dsimp only [Pt.U, Pt.locs, Pt.cells, Pt.slots] at X17 l17 y17 z17 st17 hQ17
    subst l17 y17 z17
    obtain ⟨b0_17, b1_17, rfl, N17q, K17, le_b0_17, le_b1_17, p17_0, p17_1, p17_2, p17_3, p17_4⟩ := hQ17
    have N17 := Fr.app N16 N17q
    refine Go.st st17 ?_
    have ne_b0_16_b0_17 : b0_16 ≠ b0_17 := Nat.ne_of_lt (Nat.lt_of_lt_of_le p16_0.lt le_b0_17)
    have g_b0_17 : n0 ≤ b0_17 := Nat.le_trans Z_16 le_b0_17
    have sz_b0_17 : h0.size ≤ b0_17 := Nat.le_trans K_16.1 le_b0_17
    have ne_b0_16_b1_17 : b0_16 ≠ b1_17 := Nat.ne_of_lt (Nat.lt_of_lt_of_le p16_0.lt le_b1_17)
    have g_b1_17 : n0 ≤ b1_17 := Nat.le_trans Z_16 le_b1_17
    have sz_b1_17 : h0.size ≤ b1_17 := Nat.le_trans K_16.1 le_b1_17
    have E_b0_16_17 := p16_0.keep K17
    have A_b0_16_17 := p16_1.keep K17 nin0
    have K_17 : Keep h0 T17.heap [] := K_16.trans K17 all0
    have Z_17 : n0 ≤ T17.heap.size := Nat.le_trans Z0 K_17.1
    show Go p e below s _ _ _ T17 (mkF m 68 #[.val (.int v0), .val (.int v1), .val (.int v2), .val (.int v3), .val (.int v4), .val (.int (0 : Int32)), .val (.ref b0_16), .unset, .unset] [(.ref b0_17)])
    refine G_astore X17 hx (pc' := 70) rfl (hb hby at_68) rfl (L' := #[.val (.int v0), .val (.int v1), .val (.int v2), .val (.int v3), .val (.int v4), .val (.int (0 : Int32)), .val (.ref b0_16), .val (.ref b0_17), .unset]) rfl ?_
    refine G_iload X17 hx (pc' := 72) rfl (hb hby at_70) rfl ?_
    refine G_ifYes X17 hx (pc' := 83) (hb hby at_72) ((if0 _ _).trans (flt (by decide : ¬ ((0 : Int32) < (0 : Int32)))).2.2.2) (by decide) (by decide) ?_
    refine G_iload X17 hx (pc' := 85) rfl (hb hby at_83) rfl ?_
    refine G_iconst X17 hx (pc' := 86) rfl (hb hby at_85) (z := (1 : Int32)) rfl ?_
    refine G_icmpYes X17 hx (pc' := 97) (hb hby at_86) (flt (by decide : ¬ ((1 : Int32) < (0 : Int32)))).2.2.2 (by decide) (by decide) ?_
    refine G_iload X17 hx (pc' := 99) rfl (hb hby at_97) rfl ?_
    refine G_iconst X17 hx (pc' := 100) rfl (hb hby at_99) (z := (2 : Int32)) rfl ?_
    refine G_icmpYes X17 hx (pc' := 111) (hb hby at_100) (flt (by decide : ¬ ((2 : Int32) < (0 : Int32)))).2.2.2 (by decide) (by decide) ?_
    refine G_iload X17 hx (pc' := 113) rfl (hb hby at_111) rfl ?_
    refine G_iconst X17 hx (pc' := 114) rfl (hb hby at_113) (z := (3 : Int32)) rfl ?_
    refine G_icmpYes X17 hx (pc' := 126) (hb hby at_114) (flt (by decide : ¬ ((3 : Int32) < (0 : Int32)))).2.2.2 (by decide) (by decide) ?_
    refine G_aload X17 hx (pc' := 128) rfl (hb hby at_126) rfl rfl ?_
    obtain ⟨cq18, kq18, q18a, q18b, q18c⟩ := isOf hZ rfl p17_0
    obtain ⟨_, _, ⟨T18, L18, k18, n18⟩, -, X18, ⟨Lc18, hQ18, l18, y18, z18⟩, st18⟩ := X17.virtualBack hx (y := (⟨"com/example/colonwise/colonwise/model/BencodeString", "bytes", "()[B"⟩ : MethodName)) (z := (⟨"com/example/colonwise/colonwise/model/BencodeString", "bytes", "()[B"⟩ : MethodName)) hown (mvT hZ (hw _ (List.mem_of_getElem? (i := 29) rfl))) (mvT hZ (hw _ (List.mem_of_getElem? (i := 30) rfl))) (notFace_of_selects (args := #[]) (mvT hZ (hw _ (List.mem_of_getElem? (i := 32) rfl)))) (mvT hZ (hw _ (List.mem_of_getElem? (i := 32) rfl))) (mvT hZ (hw _ (List.mem_of_getElem? (i := 31) rfl))) (by decide) (backOf (W := 0) (rm_bytes l Z a0 hw [] b0_17 b1_17 [] T17.heap n0 Z_17 p17_0 p17_1 p17_2 p17_3 (by simp)) hZ (hw _ (List.mem_of_getElem? (i := 33) rfl)) (hw _ (List.mem_of_getElem? (i := 8) rfl)) (by decide) (by decide)) q18a q18c (g := (mkF m 128 #[.val (.int v0), .val (.int v1), .val (.int v2), .val (.int v3), .val (.int v4), .val (.int (0 : Int32)), .val (.ref b0_16), .val (.ref b0_17), .unset] [(.ref b0_17)])) rfl (by rw [hml]; rfl) (Steps.refl _) (argsL := []) (rest := []) (lenOf pd_3 rfl) rfl (by show 2 * 0 + _ ≤ _; exact Nat.le_of_eq rfl) (hb hby at_128) (fun _ _ => ⟨rfl, rfl, (by decide : 3 + 1 ≤ _), (by decide : 5 + 4 ≤ _)⟩)
    dsimp only [Pt.U, Pt.locs, Pt.cells, Pt.slots] at X18 l18 y18 z18 st18 hQ18
    subst l18 y18 z18
    obtain ⟨b0_18, rfl, N18q, K18, le_b0_18, p18_0, p18_1⟩ := hQ18
    have N18 := Fr.app N17 N18q
    refine Go.st (fun _ k => st18.trans k) ?_
    have ne_b0_16_b0_18 : b0_16 ≠ b0_18 := Nat.ne_of_lt (Nat.lt_of_lt_of_le E_b0_16_17.lt le_b0_18)
    have ne_b0_17_b0_18 : b0_17 ≠ b0_18 := Nat.ne_of_lt (Nat.lt_of_lt_of_le p17_0.lt le_b0_18)
    have ne_b1_17_b0_18 : b1_17 ≠ b0_18 := Nat.ne_of_lt (Nat.lt_of_lt_of_le p17_2.lt le_b0_18)
    have g_b0_18 : n0 ≤ b0_18 := Nat.le_trans Z_17 le_b0_18
    have sz_b0_18 : h0.size ≤ b0_18 := Nat.le_trans K_17.1 le_b0_18
    have E_b0_16_18 := E_b0_16_17.keep K18
    have A_b0_16_18 := A_b0_16_17.keep K18 nin0
    have E_b0_17_18 := p17_0.keep K18
    have F_b0_17_bytes_18 := p17_1.keep K18 nin0
    have E_b1_17_18 := p17_2.keep K18
    have A_b1_17_18 := p17_3.keep K18 nin0
    have K_18 : Keep h0 T18.heap [] := K_17.trans K18 all0
    have Z_18 : n0 ≤ T18.heap.size := Nat.le_trans Z0 K_18.1
    show Go p e below s _ _ _ T18 (mkF m 131 #[.val (.int v0), .val (.int v1), .val (.int v2), .val (.int v3), .val (.int v4), .val (.int (0 : Int32)), .val (.ref b0_16), .val (.ref b0_17), .unset] [(.ref b0_18)])
    refine G_astore X18 hx (pc' := 133) rfl (hb hby at_131) rfl (L' := #[.val (.int v0), .val (.int v1), .val (.int v2), .val (.int v3), .val (.int v4), .val (.int (0 : Int32)), .val (.ref b0_16), .val (.ref b0_17), .val (.ref b0_18)]) rfl ?_
    refine G_aload X18 hx (pc' := 135) rfl (hb hby at_133) rfl rfl ?_
    refine Go.st (lenAI X18 hx hZ rfl p18_1 (g := (mkF m 135 #[.val (.int v0), .val (.int v1), .val (.int v2), .val (.int v3), .val (.int v4), .val (.int (0 : Int32)), .val (.ref b0_16), .val (.ref b0_17), .val (.ref b0_18)] [(.ref b0_18)])) rfl rfl (hb hby at_135)) ?_
    show Go p e below s _ _ _ T18 (mkF m 136 #[.val (.int v0), .val (.int v1), .val (.int v2), .val (.int v3), .val (.int v4), .val (.int (0 : Int32)), .val (.ref b0_16), .val (.ref b0_17), .val (.ref b0_18)] [(.int (0 : Int32))])
    refine G_iload X18 hx (pc' := 138) rfl (hb hby at_136) rfl ?_
    refine G_icmpNo X18 hx (pc' := 141) rfl (hb hby at_138) (teq (by decide : (0 : Int32) = (0 : Int32))).2 ?_
    refine G_aload X18 hx (pc' := 143) rfl (hb hby at_141) rfl rfl ?_
    obtain ⟨cq19, kq19, q19a, q19b, q19c⟩ := isOf hZ rfl E_b0_17_18
    obtain ⟨_, _, ⟨T19, L19, k19, n19⟩, -, X19, ⟨Lc19, hQ19, l19, y19, z19⟩, st19⟩ := X18.virtualBack hx (y := (⟨"com/example/colonwise/colonwise/model/BencodeString", "length", "()I"⟩ : MethodName)) (z := (⟨"com/example/colonwise/colonwise/model/BencodeString", "length", "()I"⟩ : MethodName)) hown (mvT hZ (hw _ (List.mem_of_getElem? (i := 34) rfl))) (mvT hZ (hw _ (List.mem_of_getElem? (i := 35) rfl))) (notFace_of_selects (args := #[]) (mvT hZ (hw _ (List.mem_of_getElem? (i := 37) rfl)))) (mvT hZ (hw _ (List.mem_of_getElem? (i := 37) rfl))) (mvT hZ (hw _ (List.mem_of_getElem? (i := 36) rfl))) (by decide) (backOf (W := 0) (rm_length l Z a0 hw [] b0_17 b1_17 [] T18.heap n0 Z_18 E_b0_17_18 F_b0_17_bytes_18 A_b1_17_18) hZ (hw _ (List.mem_of_getElem? (i := 38) rfl)) (hw _ (List.mem_of_getElem? (i := 8) rfl)) (by decide) (by decide)) q19a q19c (g := (mkF m 143 #[.val (.int v0), .val (.int v1), .val (.int v2), .val (.int v3), .val (.int v4), .val (.int (0 : Int32)), .val (.ref b0_16), .val (.ref b0_17), .val (.ref b0_18)] [(.ref b0_17)])) rfl (by rw [hml]; rfl) (Steps.refl _) (argsL := []) (rest := []) (lenOf pd_4 rfl) rfl (by show 2 * 0 + _ ≤ _; exact Nat.le_of_eq rfl) (hb hby at_143) (fun _ _ => ⟨rfl, rfl, (by decide : 4 + 0 ≤ _), (by decide : 9 + 0 ≤ _)⟩)
    dsimp only [Pt.U, Pt.locs, Pt.cells, Pt.slots] at X19 l19 y19 z19 st19 hQ19
    subst l19 y19 z19
    obtain ⟨rfl, N19q, e19⟩ := hQ19
    have N19 := Fr.app N18 N19q
    refine Go.st (fun _ k => st19.trans k) ?_
    show Go p e below s _ _ _ T19 (mkF m 146 #[.val (.int v0), .val (.int v1), .val (.int v2), .val (.int v3), .val (.int v4), .val (.int (0 : Int32)), .val (.ref b0_16), .val (.ref b0_17), .val (.ref b0_18)] [(.int (Int32.ofNat ([]).length))])
    refine G_iload X19 hx (pc' := 148) rfl (hb hby at_146) rfl ?_
    refine G_icmpYes X19 hx (pc' := 153) (hb hby at_148) (teq (rfl : (Int32.ofNat ([]).length) = (0 : Int32))).1 (by decide) (by decide) ?_
    refine G_iload X19 hx (pc' := 155) rfl (hb hby at_153) rfl ?_
    refine G_ifYes X19 hx (pc' := 169) (hb hby at_155) ((if0 _ _).trans (flt (by decide : ¬ ((0 : Int32) < (0 : Int32)))).2.2.2) (by decide) (by decide) ?_
    refine G_iload X19 hx (pc' := 171) rfl (hb hby at_169) rfl ?_
    refine G_iconst X19 hx (pc' := 172) rfl (hb hby at_171) (z := (1 : Int32)) rfl ?_
    refine G_icmpYes X19 hx (pc' := 186) (hb hby at_172) (flt (by decide : ¬ ((1 : Int32) < (0 : Int32)))).2.2.2 (by decide) (by decide) ?_
    refine G_iload X19 hx (pc' := 188) rfl (hb hby at_186) rfl ?_
    refine G_iconst X19 hx (pc' := 189) rfl (hb hby at_188) (z := (2 : Int32)) rfl ?_
    refine G_icmpYes X19 hx (pc' := 203) (hb hby at_189) (flt (by decide : ¬ ((2 : Int32) < (0 : Int32)))).2.2.2 (by decide) (by decide) ?_
    refine G_iload X19 hx (pc' := 205) rfl (hb hby at_203) rfl ?_
    refine G_iconst X19 hx (pc' := 206) rfl (hb hby at_205) (z := (3 : Int32)) rfl ?_
    refine G_icmpYes X19 hx (pc' := 221) (hb hby at_206) (flt (by decide : ¬ ((3 : Int32) < (0 : Int32)))).2.2.2 (by decide) (by decide) ?_
    refine G_iconst X19 hx (pc' := 222) rfl (hb hby at_221) (z := (1 : Int32)) rfl ?_
    refine Go.fin X19 hlk (v := some (.int (1 : Int32))) (fun h => by rw [Bd.returns] at h; cases h) (by decide) (by decide) ?_ (fun fs hr => retN X19 hx (t := .boolean) Bd.returns (by simp) (hb hby at_222) hr)
    show Q_law Z v0 v1 v2 v3 v4 h0 n0 _ T19.heap _
    rw [e19]
    exact ⟨congrArg (fun z => some (Value.int z)) (by rw [f_law]; try rw [h_n]; rw [if_pos hk0_1]), N19⟩
  · by_cases hk1_2 : n = (1 : Int32)
    · rw [hk1_2]
      refine G_iload X0 hx (pc' := 10) rfl (hb hby at_8) rfl ?_
      obtain ⟨_, _, ⟨T20, L20, k20, n20⟩, -, X20, ⟨Lc20, hQ20, l20, y20, z20⟩, st20⟩ := Jvm.LawKit.callS X0 hx (y := (⟨"com/example/colonwise/colonwise/model/BencodeStringOfPinLaw", "make", "(I)[B"⟩ : MethodName)) hown (mvT hZ (hw _ (List.mem_of_getElem? (i := 1) rfl))) (mvT hZ (hw _ (List.mem_of_getElem? (i := 2) rfl))) (mvT hZ (hw _ (List.mem_of_getElem? (i := 3) rfl))) (mvT hZ (hw _ (List.mem_of_getElem? (i := 4) rfl))) (by decide) (backOf (W := 0) (rm_make1 l Z a0 hw []  h0 n0 Z0 ) hZ (hw _ (List.mem_of_getElem? (i := 4) rfl)) (hw _ (List.mem_of_getElem? (i := 3) rfl)) (by decide) (by decide)) (g := (mkF m 10 #[.val (.int v0), .val (.int v1), .val (.int v2), .val (.int v3), .val (.int v4), .val (.int (1 : Int32)), .unset, .unset, .unset] [(.int (1 : Int32))])) rfl (by rw [hml]; rfl) (argsL := [(.int (1 : Int32))]) (rest := []) (lenOf pd_1 rfl) rfl (by show 2 * 0 + _ ≤ _; exact Nat.le_of_eq rfl) (hb hby at_10) (fun _ _ => ⟨rfl, e0, (by decide : 0 + 1 ≤ _), (by decide : 0 + 1 ≤ _)⟩)
      dsimp only [Pt.U, Pt.locs, Pt.cells, Pt.slots] at X20 l20 y20 z20 st20 hQ20
      subst l20 y20 z20
      obtain ⟨b0_20, rfl, N20q, K20, le_b0_20, p20_0, p20_1⟩ := hQ20
      have N20 := Fr.app N0 N20q
      refine Go.st st20 ?_
      have g_b0_20 : n0 ≤ b0_20 := Nat.le_trans Z0 le_b0_20
      have sz_b0_20 : h0.size ≤ b0_20 := Nat.le_trans (Nat.le_refl _) le_b0_20
      have K_20 : Keep h0 T20.heap [] := (Keep.refl h0 []).trans K20 all0
      have Z_20 : n0 ≤ T20.heap.size := Nat.le_trans Z0 K_20.1
      show Go p e below s _ _ _ T20 (mkF m 13 #[.val (.int v0), .val (.int v1), .val (.int v2), .val (.int v3), .val (.int v4), .val (.int (1 : Int32)), .unset, .unset, .unset] [(.ref b0_20)])
      refine G_astore X20 hx (pc' := 15) rfl (hb hby at_13) rfl (L' := #[.val (.int v0), .val (.int v1), .val (.int v2), .val (.int v3), .val (.int v4), .val (.int (1 : Int32)), .val (.ref b0_20), .unset, .unset]) rfl ?_
      refine G_iload X20 hx (pc' := 17) rfl (hb hby at_15) rfl ?_
      refine G_ifNo X20 hx (pc' := 20) rfl (hb hby at_17) ((if0 _ _).trans (tlt (by decide : (0 : Int32) < (1 : Int32))).2.2.2) ?_
      refine G_aload X20 hx (pc' := 22) rfl (hb hby at_20) rfl rfl ?_
      refine G_iconst X20 hx (pc' := 23) rfl (hb hby at_22) (z := (0 : Int32)) rfl ?_
      refine G_iloadN X20 hx (pc' := 24) rfl (hb hby at_23) rfl ?_
      refine G_i2b X20 hx (pc' := 25) rfl (hb hby at_24)  ?_
      obtain ⟨T21, h21, X21, e21, W21, A21, st21⟩ := stABn X20 hx hZ rfl p20_1 (j := (0 : Int32)) (by decide) (show Int32.toNatClampNeg 0 < 1 from by decide) (g := (mkF m 25 #[.val (.int v0), .val (.int v1), .val (.int v2), .val (.int v3), .val (.int v4), .val (.int (1 : Int32)), .val (.ref b0_20), .unset, .unset] [(.int (v1.toInt8.toInt32)), (.int (0 : Int32)), (.ref b0_20)])) rfl rfl (hb hby at_25)
      refine Go.st st21 ?_
      have E_b0_20_21 := p20_0.wr W21
      have A_b0_20_21 : AI Z h21 b0_20 .byte [(v1.toInt8.toInt32)] := A21
      have K_21 : Keep h0 h21 [] := K_20.wr W21 (Or.inr sz_b0_20)
      have Z_21 : n0 ≤ h21.size := Nat.le_trans Z0 K_21.1
      have N21 := Fr.snoc X21 N20 g_b0_20
      show Go p e below s _ _ _ T21 (mkF m 26 #[.val (.int v0), .val (.int v1), .val (.int v2), .val (.int v3), .val (.int v4), .val (.int (1 : Int32)), .val (.ref b0_20), .unset, .unset] [])
      refine G_iload X21 hx (pc' := 28) rfl (hb hby at_26) rfl ?_
      refine G_iconst X21 hx (pc' := 29) rfl (hb hby at_28) (z := (1 : Int32)) rfl ?_
      refine G_icmpYes X21 hx (pc' := 38) (hb hby at_29) (flt (by decide : ¬ ((1 : Int32) < (1 : Int32)))).2.2.2 (by decide) (by decide) ?_
      refine G_iload X21 hx (pc' := 40) rfl (hb hby at_38) rfl ?_
      refine G_iconst X21 hx (pc' := 41) rfl (hb hby at_40) (z := (2 : Int32)) rfl ?_
      refine G_icmpYes X21 hx (pc' := 50) (hb hby at_41) (flt (by decide : ¬ ((2 : Int32) < (1 : Int32)))).2.2.2 (by decide) (by decide) ?_
      refine G_iload X21 hx (pc' := 52) rfl (hb hby at_50) rfl ?_
      refine G_iconst X21 hx (pc' := 53) rfl (hb hby at_52) (z := (3 : Int32)) rfl ?_
      refine G_icmpYes X21 hx (pc' := 63) (hb hby at_53) (flt (by decide : ¬ ((3 : Int32) < (1 : Int32)))).2.2.2 (by decide) (by decide) ?_
      refine G_aload X21 hx (pc' := 65) rfl (hb hby at_63) rfl rfl ?_
      obtain ⟨_, _, ⟨T22, L22, k22, n22⟩, -, X22, ⟨Lc22, hQ22, l22, y22, z22⟩, st22⟩ := Jvm.LawKit.callS X21 hx (y := (⟨"com/example/colonwise/colonwise/model/BencodeString", "of", "([B)Lcom/example/colonwise/colonwise/model/BencodeString;"⟩ : MethodName)) hown (mvT hZ (hw _ (List.mem_of_getElem? (i := 6) rfl))) (mvT hZ (hw _ (List.mem_of_getElem? (i := 7) rfl))) (mvT hZ (hw _ (List.mem_of_getElem? (i := 8) rfl))) (mvT hZ (hw _ (List.mem_of_getElem? (i := 9) rfl))) (by decide) (backOf (W := 0) (rm_of l Z a0 hw [] b0_20 [(v1.toInt8.toInt32)] h21 n0 Z_21 E_b0_20_21 A_b0_20_21 (by simp)) hZ (hw _ (List.mem_of_getElem? (i := 9) rfl)) (hw _ (List.mem_of_getElem? (i := 8) rfl)) (by decide) (by decide)) (g := (mkF m 65 #[.val (.int v0), .val (.int v1), .val (.int v2), .val (.int v3), .val (.int v4), .val (.int (1 : Int32)), .val (.ref b0_20), .unset, .unset] [(.ref b0_20)])) rfl (by rw [hml]; rfl) (argsL := [(.ref b0_20)]) (rest := []) (lenOf pd_2 rfl) rfl (by show 2 * 0 + _ ≤ _; exact Nat.le_of_eq rfl) (hb hby at_65) (fun _ _ => ⟨rfl, e21, (by decide : 1 + 2 ≤ _), (by decide : 1 + 5 ≤ _)⟩)
      dsimp only [Pt.U, Pt.locs, Pt.cells, Pt.slots] at X22 l22 y22 z22 st22 hQ22
      subst l22 y22 z22
      obtain ⟨b0_22, b1_22, rfl, N22q, K22, le_b0_22, le_b1_22, p22_0, p22_1, p22_2, p22_3, p22_4⟩ := hQ22
      have N22 := Fr.app N21 N22q
      refine Go.st st22 ?_
      have ne_b0_20_b0_22 : b0_20 ≠ b0_22 := Nat.ne_of_lt (Nat.lt_of_lt_of_le E_b0_20_21.lt le_b0_22)
      have g_b0_22 : n0 ≤ b0_22 := Nat.le_trans Z_21 le_b0_22
      have sz_b0_22 : h0.size ≤ b0_22 := Nat.le_trans K_21.1 le_b0_22
      have ne_b0_20_b1_22 : b0_20 ≠ b1_22 := Nat.ne_of_lt (Nat.lt_of_lt_of_le E_b0_20_21.lt le_b1_22)
      have g_b1_22 : n0 ≤ b1_22 := Nat.le_trans Z_21 le_b1_22
      have sz_b1_22 : h0.size ≤ b1_22 := Nat.le_trans K_21.1 le_b1_22
      have E_b0_20_22 := E_b0_20_21.keep K22
      have A_b0_20_22 := A_b0_20_21.keep K22 nin0
      have K_22 : Keep h0 T22.heap [] := K_21.trans K22 all0
      have Z_22 : n0 ≤ T22.heap.size := Nat.le_trans Z0 K_22.1
      show Go p e below s _ _ _ T22 (mkF m 68 #[.val (.int v0), .val (.int v1), .val (.int v2), .val (.int v3), .val (.int v4), .val (.int (1 : Int32)), .val (.ref b0_20), .unset, .unset] [(.ref b0_22)])
      refine G_astore X22 hx (pc' := 70) rfl (hb hby at_68) rfl (L' := #[.val (.int v0), .val (.int v1), .val (.int v2), .val (.int v3), .val (.int v4), .val (.int (1 : Int32)), .val (.ref b0_20), .val (.ref b0_22), .unset]) rfl ?_
      refine G_iload X22 hx (pc' := 72) rfl (hb hby at_70) rfl ?_
      refine G_ifNo X22 hx (pc' := 75) rfl (hb hby at_72) ((if0 _ _).trans (tlt (by decide : (0 : Int32) < (1 : Int32))).2.2.2) ?_
      refine G_aload X22 hx (pc' := 77) rfl (hb hby at_75) rfl rfl ?_
      refine G_iconst X22 hx (pc' := 78) rfl (hb hby at_77) (z := (0 : Int32)) rfl ?_
      refine G_iloadN X22 hx (pc' := 79) rfl (hb hby at_78) rfl ?_
      refine G_iconst X22 hx (pc' := 80) rfl (hb hby at_79) (z := (-1 : Int32)) rfl ?_
      refine G_ixor X22 hx (pc' := 81) rfl (hb hby at_80)  ?_
      refine G_i2b X22 hx (pc' := 82) rfl (hb hby at_81)  ?_
      obtain ⟨T23, h23, X23, e23, W23, A23, st23⟩ := stABn X22 hx hZ rfl A_b0_20_22 (j := (0 : Int32)) (by decide) (show Int32.toNatClampNeg 0 < 1 from by decide) (g := (mkF m 82 #[.val (.int v0), .val (.int v1), .val (.int v2), .val (.int v3), .val (.int v4), .val (.int (1 : Int32)), .val (.ref b0_20), .val (.ref b0_22), .unset] [(.int ((v1 ^^^ (-1 : Int32)).toInt8.toInt32)), (.int (0 : Int32)), (.ref b0_20)])) rfl rfl (hb hby at_82)
      refine Go.st st23 ?_
      have E_b0_20_23 := E_b0_20_22.wr W23
      have E_b0_22_23 := p22_0.wr W23
      have F_b0_22_bytes_23 := p22_1.other W23 (Or.inl (Ne.symm ne_b0_20_b0_22))
      have E_b1_22_23 := p22_2.wr W23
      have A_b1_22_23 := p22_3.other W23 (Ne.symm ne_b0_20_b1_22)
      have A_b0_20_23 : AI Z h23 b0_20 .byte [((v1 ^^^ (-1 : Int32)).toInt8.toInt32)] := A23
      have K_23 : Keep h0 h23 [] := K_22.wr W23 (Or.inr sz_b0_20)
      have Z_23 : n0 ≤ h23.size := Nat.le_trans Z0 K_23.1
      have N23 := Fr.snoc X23 N22 g_b0_20
      show Go p e below s _ _ _ T23 (mkF m 83 #[.val (.int v0), .val (.int v1), .val (.int v2), .val (.int v3), .val (.int v4), .val (.int (1 : Int32)), .val (.ref b0_20), .val (.ref b0_22), .unset] [])
      refine G_iload X23 hx (pc' := 85) rfl (hb hby at_83) rfl ?_
      refine G_iconst X23 hx (pc' := 86) rfl (hb hby at_85) (z := (1 : Int32)) rfl ?_
      refine G_icmpYes X23 hx (pc' := 97) (hb hby at_86) (flt (by decide : ¬ ((1 : Int32) < (1 : Int32)))).2.2.2 (by decide) (by decide) ?_
      refine G_iload X23 hx (pc' := 99) rfl (hb hby at_97) rfl ?_
      refine G_iconst X23 hx (pc' := 100) rfl (hb hby at_99) (z := (2 : Int32)) rfl ?_
      refine G_icmpYes X23 hx (pc' := 111) (hb hby at_100) (flt (by decide : ¬ ((2 : Int32) < (1 : Int32)))).2.2.2 (by decide) (by decide) ?_
      refine G_iload X23 hx (pc' := 113) rfl (hb hby at_111) rfl ?_
      refine G_iconst X23 hx (pc' := 114) rfl (hb hby at_113) (z := (3 : Int32)) rfl ?_
      refine G_icmpYes X23 hx (pc' := 126) (hb hby at_114) (flt (by decide : ¬ ((3 : Int32) < (1 : Int32)))).2.2.2 (by decide) (by decide) ?_
      refine G_aload X23 hx (pc' := 128) rfl (hb hby at_126) rfl rfl ?_
      obtain ⟨cq24, kq24, q24a, q24b, q24c⟩ := isOf hZ e23 E_b0_22_23
      obtain ⟨_, _, ⟨T24, L24, k24, n24⟩, -, X24, ⟨Lc24, hQ24, l24, y24, z24⟩, st24⟩ := X23.virtualBack hx (y := (⟨"com/example/colonwise/colonwise/model/BencodeString", "bytes", "()[B"⟩ : MethodName)) (z := (⟨"com/example/colonwise/colonwise/model/BencodeString", "bytes", "()[B"⟩ : MethodName)) hown (mvT hZ (hw _ (List.mem_of_getElem? (i := 29) rfl))) (mvT hZ (hw _ (List.mem_of_getElem? (i := 30) rfl))) (notFace_of_selects (args := #[]) (mvT hZ (hw _ (List.mem_of_getElem? (i := 32) rfl)))) (mvT hZ (hw _ (List.mem_of_getElem? (i := 32) rfl))) (mvT hZ (hw _ (List.mem_of_getElem? (i := 31) rfl))) (by decide) (backOf (W := 0) (rm_bytes l Z a0 hw [] b0_22 b1_22 [(v1.toInt8.toInt32)] h23 n0 Z_23 E_b0_22_23 F_b0_22_bytes_23 E_b1_22_23 A_b1_22_23 (by simp)) hZ (hw _ (List.mem_of_getElem? (i := 33) rfl)) (hw _ (List.mem_of_getElem? (i := 8) rfl)) (by decide) (by decide)) q24a q24c (g := (mkF m 128 #[.val (.int v0), .val (.int v1), .val (.int v2), .val (.int v3), .val (.int v4), .val (.int (1 : Int32)), .val (.ref b0_20), .val (.ref b0_22), .unset] [(.ref b0_22)])) rfl (by rw [hml]; rfl) (Steps.refl _) (argsL := []) (rest := []) (lenOf pd_3 rfl) rfl (by show 2 * 0 + _ ≤ _; exact Nat.le_of_eq rfl) (hb hby at_128) (fun _ _ => ⟨rfl, e23, (by decide : 3 + 1 ≤ _), (by decide : 6 + 4 ≤ _)⟩)
      dsimp only [Pt.U, Pt.locs, Pt.cells, Pt.slots] at X24 l24 y24 z24 st24 hQ24
      subst l24 y24 z24
      obtain ⟨b0_24, rfl, N24q, K24, le_b0_24, p24_0, p24_1⟩ := hQ24
      have N24 := Fr.app N23 N24q
      refine Go.st (fun _ k => st24.trans k) ?_
      have ne_b0_20_b0_24 : b0_20 ≠ b0_24 := Nat.ne_of_lt (Nat.lt_of_lt_of_le E_b0_20_23.lt le_b0_24)
      have ne_b0_22_b0_24 : b0_22 ≠ b0_24 := Nat.ne_of_lt (Nat.lt_of_lt_of_le E_b0_22_23.lt le_b0_24)
      have ne_b1_22_b0_24 : b1_22 ≠ b0_24 := Nat.ne_of_lt (Nat.lt_of_lt_of_le E_b1_22_23.lt le_b0_24)
      have g_b0_24 : n0 ≤ b0_24 := Nat.le_trans Z_23 le_b0_24
      have sz_b0_24 : h0.size ≤ b0_24 := Nat.le_trans K_23.1 le_b0_24
      have E_b0_20_24 := E_b0_20_23.keep K24
      have E_b0_22_24 := E_b0_22_23.keep K24
      have F_b0_22_bytes_24 := F_b0_22_bytes_23.keep K24 nin0
      have E_b1_22_24 := E_b1_22_23.keep K24
      have A_b1_22_24 := A_b1_22_23.keep K24 nin0
      have A_b0_20_24 := A_b0_20_23.keep K24 nin0
      have K_24 : Keep h0 T24.heap [] := K_23.trans K24 all0
      have Z_24 : n0 ≤ T24.heap.size := Nat.le_trans Z0 K_24.1
      show Go p e below s _ _ _ T24 (mkF m 131 #[.val (.int v0), .val (.int v1), .val (.int v2), .val (.int v3), .val (.int v4), .val (.int (1 : Int32)), .val (.ref b0_20), .val (.ref b0_22), .unset] [(.ref b0_24)])
      refine G_astore X24 hx (pc' := 133) rfl (hb hby at_131) rfl (L' := #[.val (.int v0), .val (.int v1), .val (.int v2), .val (.int v3), .val (.int v4), .val (.int (1 : Int32)), .val (.ref b0_20), .val (.ref b0_22), .val (.ref b0_24)]) rfl ?_
      refine G_aload X24 hx (pc' := 135) rfl (hb hby at_133) rfl rfl ?_
      refine Go.st (lenAI X24 hx hZ rfl p24_1 (g := (mkF m 135 #[.val (.int v0), .val (.int v1), .val (.int v2), .val (.int v3), .val (.int v4), .val (.int (1 : Int32)), .val (.ref b0_20), .val (.ref b0_22), .val (.ref b0_24)] [(.ref b0_24)])) rfl rfl (hb hby at_135)) ?_
      show Go p e below s _ _ _ T24 (mkF m 136 #[.val (.int v0), .val (.int v1), .val (.int v2), .val (.int v3), .val (.int v4), .val (.int (1 : Int32)), .val (.ref b0_20), .val (.ref b0_22), .val (.ref b0_24)] [(.int (1 : Int32))])
      refine G_iload X24 hx (pc' := 138) rfl (hb hby at_136) rfl ?_
      refine G_icmpNo X24 hx (pc' := 141) rfl (hb hby at_138) (teq (by decide : (1 : Int32) = (1 : Int32))).2 ?_
      refine G_aload X24 hx (pc' := 143) rfl (hb hby at_141) rfl rfl ?_
      obtain ⟨cq25, kq25, q25a, q25b, q25c⟩ := isOf hZ rfl E_b0_22_24
      obtain ⟨_, _, ⟨T25, L25, k25, n25⟩, -, X25, ⟨Lc25, hQ25, l25, y25, z25⟩, st25⟩ := X24.virtualBack hx (y := (⟨"com/example/colonwise/colonwise/model/BencodeString", "length", "()I"⟩ : MethodName)) (z := (⟨"com/example/colonwise/colonwise/model/BencodeString", "length", "()I"⟩ : MethodName)) hown (mvT hZ (hw _ (List.mem_of_getElem? (i := 34) rfl))) (mvT hZ (hw _ (List.mem_of_getElem? (i := 35) rfl))) (notFace_of_selects (args := #[]) (mvT hZ (hw _ (List.mem_of_getElem? (i := 37) rfl)))) (mvT hZ (hw _ (List.mem_of_getElem? (i := 37) rfl))) (mvT hZ (hw _ (List.mem_of_getElem? (i := 36) rfl))) (by decide) (backOf (W := 0) (rm_length l Z a0 hw [] b0_22 b1_22 [(v1.toInt8.toInt32)] T24.heap n0 Z_24 E_b0_22_24 F_b0_22_bytes_24 A_b1_22_24) hZ (hw _ (List.mem_of_getElem? (i := 38) rfl)) (hw _ (List.mem_of_getElem? (i := 8) rfl)) (by decide) (by decide)) q25a q25c (g := (mkF m 143 #[.val (.int v0), .val (.int v1), .val (.int v2), .val (.int v3), .val (.int v4), .val (.int (1 : Int32)), .val (.ref b0_20), .val (.ref b0_22), .val (.ref b0_24)] [(.ref b0_22)])) rfl (by rw [hml]; rfl) (Steps.refl _) (argsL := []) (rest := []) (lenOf pd_4 rfl) rfl (by show 2 * 0 + _ ≤ _; exact Nat.le_of_eq rfl) (hb hby at_143) (fun _ _ => ⟨rfl, rfl, (by decide : 4 + 0 ≤ _), (by decide : 10 + 0 ≤ _)⟩)
      dsimp only [Pt.U, Pt.locs, Pt.cells, Pt.slots] at X25 l25 y25 z25 st25 hQ25
      subst l25 y25 z25
      obtain ⟨rfl, N25q, e25⟩ := hQ25
      have N25 := Fr.app N24 N25q
      refine Go.st (fun _ k => st25.trans k) ?_
      show Go p e below s _ _ _ T25 (mkF m 146 #[.val (.int v0), .val (.int v1), .val (.int v2), .val (.int v3), .val (.int v4), .val (.int (1 : Int32)), .val (.ref b0_20), .val (.ref b0_22), .val (.ref b0_24)] [(.int (Int32.ofNat ([(v1.toInt8.toInt32)]).length))])
      refine G_iload X25 hx (pc' := 148) rfl (hb hby at_146) rfl ?_
      refine G_icmpYes X25 hx (pc' := 153) (hb hby at_148) (teq (rfl : (Int32.ofNat ([(v1.toInt8.toInt32)]).length) = (1 : Int32))).1 (by decide) (by decide) ?_
      refine G_iload X25 hx (pc' := 155) rfl (hb hby at_153) rfl ?_
      refine G_ifNo X25 hx (pc' := 158) rfl (hb hby at_155) ((if0 _ _).trans (tlt (by decide : (0 : Int32) < (1 : Int32))).2.2.2) ?_
      refine G_aload X25 hx (pc' := 160) rfl (hb hby at_158) rfl rfl ?_
      refine G_iconst X25 hx (pc' := 161) rfl (hb hby at_160) (z := (0 : Int32)) rfl ?_
      refine Go.st (ldAB X25 hx hZ e25 p24_1 (j := (0 : Int32)) (by decide) (show Int32.toNatClampNeg 0 < 1 from by decide) (g := (mkF m 161 #[.val (.int v0), .val (.int v1), .val (.int v2), .val (.int v3), .val (.int v4), .val (.int (1 : Int32)), .val (.ref b0_20), .val (.ref b0_22), .val (.ref b0_24)] [(.int (0 : Int32)), (.ref b0_24)])) rfl rfl (hb hby at_161)) ?_
      show Go p e below s _ _ _ T25 (mkF m 162 #[.val (.int v0), .val (.int v1), .val (.int v2), .val (.int v3), .val (.int v4), .val (.int (1 : Int32)), .val (.ref b0_20), .val (.ref b0_22), .val (.ref b0_24)] [(.int (v1.toInt8.toInt32))])
      refine G_iloadN X25 hx (pc' := 163) rfl (hb hby at_162) rfl ?_
      refine G_i2b X25 hx (pc' := 164) rfl (hb hby at_163)  ?_
      refine G_icmpYes X25 hx (pc' := 169) (hb hby at_164) (teq (rfl : (v1.toInt8.toInt32) = (v1.toInt8.toInt32))).1 (by decide) (by decide) ?_
      refine G_iload X25 hx (pc' := 171) rfl (hb hby at_169) rfl ?_
      refine G_iconst X25 hx (pc' := 172) rfl (hb hby at_171) (z := (1 : Int32)) rfl ?_
      refine G_icmpYes X25 hx (pc' := 186) (hb hby at_172) (flt (by decide : ¬ ((1 : Int32) < (1 : Int32)))).2.2.2 (by decide) (by decide) ?_
      refine G_iload X25 hx (pc' := 188) rfl (hb hby at_186) rfl ?_
      refine G_iconst X25 hx (pc' := 189) rfl (hb hby at_188) (z := (2 : Int32)) rfl ?_
      refine G_icmpYes X25 hx (pc' := 203) (hb hby at_189) (flt (by decide : ¬ ((2 : Int32) < (1 : Int32)))).2.2.2 (by decide) (by decide) ?_
      refine G_iload X25 hx (pc' := 205) rfl (hb hby at_203) rfl ?_
      refine G_iconst X25 hx (pc' := 206) rfl (hb hby at_205) (z := (3 : Int32)) rfl ?_
      refine G_icmpYes X25 hx (pc' := 221) (hb hby at_206) (flt (by decide : ¬ ((3 : Int32) < (1 : Int32)))).2.2.2 (by decide) (by decide) ?_
      refine G_iconst X25 hx (pc' := 222) rfl (hb hby at_221) (z := (1 : Int32)) rfl ?_
      refine Go.fin X25 hlk (v := some (.int (1 : Int32))) (fun h => by rw [Bd.returns] at h; cases h) (by decide) (by decide) ?_ (fun fs hr => retN X25 hx (t := .boolean) Bd.returns (by simp) (hb hby at_222) hr)
      show Q_law Z v0 v1 v2 v3 v4 h0 n0 _ T25.heap _
      rw [e25]
      exact ⟨congrArg (fun z => some (Value.int z)) (by rw [f_law]; try rw [h_n]; rw [if_neg hk0_1, if_pos hk1_2]), N25⟩
    · by_cases hk2_3 : n = (2 : Int32)
      · rw [hk2_3]
        refine G_iload X0 hx (pc' := 10) rfl (hb hby at_8) rfl ?_
        obtain ⟨_, _, ⟨T26, L26, k26, n26⟩, -, X26, ⟨Lc26, hQ26, l26, y26, z26⟩, st26⟩ := Jvm.LawKit.callS X0 hx (y := (⟨"com/example/colonwise/colonwise/model/BencodeStringOfPinLaw", "make", "(I)[B"⟩ : MethodName)) hown (mvT hZ (hw _ (List.mem_of_getElem? (i := 1) rfl))) (mvT hZ (hw _ (List.mem_of_getElem? (i := 2) rfl))) (mvT hZ (hw _ (List.mem_of_getElem? (i := 3) rfl))) (mvT hZ (hw _ (List.mem_of_getElem? (i := 4) rfl))) (by decide) (backOf (W := 0) (rm_make2 l Z a0 hw []  h0 n0 Z0 ) hZ (hw _ (List.mem_of_getElem? (i := 4) rfl)) (hw _ (List.mem_of_getElem? (i := 3) rfl)) (by decide) (by decide)) (g := (mkF m 10 #[.val (.int v0), .val (.int v1), .val (.int v2), .val (.int v3), .val (.int v4), .val (.int (2 : Int32)), .unset, .unset, .unset] [(.int (2 : Int32))])) rfl (by rw [hml]; rfl) (argsL := [(.int (2 : Int32))]) (rest := []) (lenOf pd_1 rfl) rfl (by show 2 * 0 + _ ≤ _; exact Nat.le_of_eq rfl) (hb hby at_10) (fun _ _ => ⟨rfl, e0, (by decide : 0 + 1 ≤ _), (by decide : 0 + 2 ≤ _)⟩)
        dsimp only [Pt.U, Pt.locs, Pt.cells, Pt.slots] at X26 l26 y26 z26 st26 hQ26
        subst l26 y26 z26
        obtain ⟨b0_26, rfl, N26q, K26, le_b0_26, p26_0, p26_1⟩ := hQ26
        have N26 := Fr.app N0 N26q
        refine Go.st st26 ?_
        have g_b0_26 : n0 ≤ b0_26 := Nat.le_trans Z0 le_b0_26
        have sz_b0_26 : h0.size ≤ b0_26 := Nat.le_trans (Nat.le_refl _) le_b0_26
        have K_26 : Keep h0 T26.heap [] := (Keep.refl h0 []).trans K26 all0
        have Z_26 : n0 ≤ T26.heap.size := Nat.le_trans Z0 K_26.1
        show Go p e below s _ _ _ T26 (mkF m 13 #[.val (.int v0), .val (.int v1), .val (.int v2), .val (.int v3), .val (.int v4), .val (.int (2 : Int32)), .unset, .unset, .unset] [(.ref b0_26)])
        refine G_astore X26 hx (pc' := 15) rfl (hb hby at_13) rfl (L' := #[.val (.int v0), .val (.int v1), .val (.int v2), .val (.int v3), .val (.int v4), .val (.int (2 : Int32)), .val (.ref b0_26), .unset, .unset]) rfl ?_
        refine G_iload X26 hx (pc' := 17) rfl (hb hby at_15) rfl ?_
        refine G_ifNo X26 hx (pc' := 20) rfl (hb hby at_17) ((if0 _ _).trans (tlt (by decide : (0 : Int32) < (2 : Int32))).2.2.2) ?_
        refine G_aload X26 hx (pc' := 22) rfl (hb hby at_20) rfl rfl ?_
        refine G_iconst X26 hx (pc' := 23) rfl (hb hby at_22) (z := (0 : Int32)) rfl ?_
        refine G_iloadN X26 hx (pc' := 24) rfl (hb hby at_23) rfl ?_
        refine G_i2b X26 hx (pc' := 25) rfl (hb hby at_24)  ?_
        obtain ⟨T27, h27, X27, e27, W27, A27, st27⟩ := stABn X26 hx hZ rfl p26_1 (j := (0 : Int32)) (by decide) (show Int32.toNatClampNeg 0 < 2 from by decide) (g := (mkF m 25 #[.val (.int v0), .val (.int v1), .val (.int v2), .val (.int v3), .val (.int v4), .val (.int (2 : Int32)), .val (.ref b0_26), .unset, .unset] [(.int (v1.toInt8.toInt32)), (.int (0 : Int32)), (.ref b0_26)])) rfl rfl (hb hby at_25)
        refine Go.st st27 ?_
        have E_b0_26_27 := p26_0.wr W27
        have A_b0_26_27 : AI Z h27 b0_26 .byte [(v1.toInt8.toInt32), (0 : Int32)] := A27
        have K_27 : Keep h0 h27 [] := K_26.wr W27 (Or.inr sz_b0_26)
        have Z_27 : n0 ≤ h27.size := Nat.le_trans Z0 K_27.1
        have N27 := Fr.snoc X27 N26 g_b0_26
        show Go p e below s _ _ _ T27 (mkF m 26 #[.val (.int v0), .val (.int v1), .val (.int v2), .val (.int v3), .val (.int v4), .val (.int (2 : Int32)), .val (.ref b0_26), .unset, .unset] [])
        refine G_iload X27 hx (pc' := 28) rfl (hb hby at_26) rfl ?_
        refine G_iconst X27 hx (pc' := 29) rfl (hb hby at_28) (z := (1 : Int32)) rfl ?_
        refine G_icmpNo X27 hx (pc' := 32) rfl (hb hby at_29) (tlt (by decide : (1 : Int32) < (2 : Int32))).2.2.2 ?_
        refine G_aload X27 hx (pc' := 34) rfl (hb hby at_32) rfl rfl ?_
        refine G_iconst X27 hx (pc' := 35) rfl (hb hby at_34) (z := (1 : Int32)) rfl ?_
        refine G_iloadN X27 hx (pc' := 36) rfl (hb hby at_35) rfl ?_
        refine G_i2b X27 hx (pc' := 37) rfl (hb hby at_36)  ?_
        obtain ⟨T28, h28, X28, e28, W28, A28, st28⟩ := stABn X27 hx hZ e27 A_b0_26_27 (j := (1 : Int32)) (by decide) (show Int32.toNatClampNeg 1 < 2 from by decide) (g := (mkF m 37 #[.val (.int v0), .val (.int v1), .val (.int v2), .val (.int v3), .val (.int v4), .val (.int (2 : Int32)), .val (.ref b0_26), .unset, .unset] [(.int (v2.toInt8.toInt32)), (.int (1 : Int32)), (.ref b0_26)])) rfl rfl (hb hby at_37)
        refine Go.st st28 ?_
        have E_b0_26_28 := E_b0_26_27.wr W28
        have A_b0_26_28 : AI Z h28 b0_26 .byte [(v1.toInt8.toInt32), (v2.toInt8.toInt32)] := A28
        have K_28 : Keep h0 h28 [] := K_27.wr W28 (Or.inr sz_b0_26)
        have Z_28 : n0 ≤ h28.size := Nat.le_trans Z0 K_28.1
        have N28 := Fr.snoc X28 N27 g_b0_26
        show Go p e below s _ _ _ T28 (mkF m 38 #[.val (.int v0), .val (.int v1), .val (.int v2), .val (.int v3), .val (.int v4), .val (.int (2 : Int32)), .val (.ref b0_26), .unset, .unset] [])
        refine G_iload X28 hx (pc' := 40) rfl (hb hby at_38) rfl ?_
        refine G_iconst X28 hx (pc' := 41) rfl (hb hby at_40) (z := (2 : Int32)) rfl ?_
        refine G_icmpYes X28 hx (pc' := 50) (hb hby at_41) (flt (by decide : ¬ ((2 : Int32) < (2 : Int32)))).2.2.2 (by decide) (by decide) ?_
        refine G_iload X28 hx (pc' := 52) rfl (hb hby at_50) rfl ?_
        refine G_iconst X28 hx (pc' := 53) rfl (hb hby at_52) (z := (3 : Int32)) rfl ?_
        refine G_icmpYes X28 hx (pc' := 63) (hb hby at_53) (flt (by decide : ¬ ((3 : Int32) < (2 : Int32)))).2.2.2 (by decide) (by decide) ?_
        refine G_aload X28 hx (pc' := 65) rfl (hb hby at_63) rfl rfl ?_
        obtain ⟨_, _, ⟨T29, L29, k29, n29⟩, -, X29, ⟨Lc29, hQ29, l29, y29, z29⟩, st29⟩ := Jvm.LawKit.callS X28 hx (y := (⟨"com/example/colonwise/colonwise/model/BencodeString", "of", "([B)Lcom/example/colonwise/colonwise/model/BencodeString;"⟩ : MethodName)) hown (mvT hZ (hw _ (List.mem_of_getElem? (i := 6) rfl))) (mvT hZ (hw _ (List.mem_of_getElem? (i := 7) rfl))) (mvT hZ (hw _ (List.mem_of_getElem? (i := 8) rfl))) (mvT hZ (hw _ (List.mem_of_getElem? (i := 9) rfl))) (by decide) (backOf (W := 0) (rm_of l Z a0 hw [] b0_26 [(v1.toInt8.toInt32), (v2.toInt8.toInt32)] h28 n0 Z_28 E_b0_26_28 A_b0_26_28 (by simp)) hZ (hw _ (List.mem_of_getElem? (i := 9) rfl)) (hw _ (List.mem_of_getElem? (i := 8) rfl)) (by decide) (by decide)) (g := (mkF m 65 #[.val (.int v0), .val (.int v1), .val (.int v2), .val (.int v3), .val (.int v4), .val (.int (2 : Int32)), .val (.ref b0_26), .unset, .unset] [(.ref b0_26)])) rfl (by rw [hml]; rfl) (argsL := [(.ref b0_26)]) (rest := []) (lenOf pd_2 rfl) rfl (by show 2 * 0 + _ ≤ _; exact Nat.le_of_eq rfl) (hb hby at_65) (fun _ _ => ⟨rfl, e28, (by decide : 1 + 2 ≤ _), (by decide : 2 + 5 ≤ _)⟩)
        dsimp only [Pt.U, Pt.locs, Pt.cells, Pt.slots] at X29 l29 y29 z29 st29 hQ29
        subst l29 y29 z29
        obtain ⟨b0_29, b1_29, rfl, N29q, K29, le_b0_29, le_b1_29, p29_0, p29_1, p29_2, p29_3, p29_4⟩ := hQ29
        have N29 := Fr.app N28 N29q
        refine Go.st st29 ?_
        have ne_b0_26_b0_29 : b0_26 ≠ b0_29 := Nat.ne_of_lt (Nat.lt_of_lt_of_le E_b0_26_28.lt le_b0_29)
        have g_b0_29 : n0 ≤ b0_29 := Nat.le_trans Z_28 le_b0_29
        have sz_b0_29 : h0.size ≤ b0_29 := Nat.le_trans K_28.1 le_b0_29
        have ne_b0_26_b1_29 : b0_26 ≠ b1_29 := Nat.ne_of_lt (Nat.lt_of_lt_of_le E_b0_26_28.lt le_b1_29)
        have g_b1_29 : n0 ≤ b1_29 := Nat.le_trans Z_28 le_b1_29
        have sz_b1_29 : h0.size ≤ b1_29 := Nat.le_trans K_28.1 le_b1_29
        have E_b0_26_29 := E_b0_26_28.keep K29
        have A_b0_26_29 := A_b0_26_28.keep K29 nin0
        have K_29 : Keep h0 T29.heap [] := K_28.trans K29 all0
        have Z_29 : n0 ≤ T29.heap.size := Nat.le_trans Z0 K_29.1
        show Go p e below s _ _ _ T29 (mkF m 68 #[.val (.int v0), .val (.int v1), .val (.int v2), .val (.int v3), .val (.int v4), .val (.int (2 : Int32)), .val (.ref b0_26), .unset, .unset] [(.ref b0_29)])
        refine G_astore X29 hx (pc' := 70) rfl (hb hby at_68) rfl (L' := #[.val (.int v0), .val (.int v1), .val (.int v2), .val (.int v3), .val (.int v4), .val (.int (2 : Int32)), .val (.ref b0_26), .val (.ref b0_29), .unset]) rfl ?_
        refine G_iload X29 hx (pc' := 72) rfl (hb hby at_70) rfl ?_
        refine G_ifNo X29 hx (pc' := 75) rfl (hb hby at_72) ((if0 _ _).trans (tlt (by decide : (0 : Int32) < (2 : Int32))).2.2.2) ?_
        refine G_aload X29 hx (pc' := 77) rfl (hb hby at_75) rfl rfl ?_
        refine G_iconst X29 hx (pc' := 78) rfl (hb hby at_77) (z := (0 : Int32)) rfl ?_
        refine G_iloadN X29 hx (pc' := 79) rfl (hb hby at_78) rfl ?_
        refine G_iconst X29 hx (pc' := 80) rfl (hb hby at_79) (z := (-1 : Int32)) rfl ?_
        refine G_ixor X29 hx (pc' := 81) rfl (hb hby at_80)  ?_
        refine G_i2b X29 hx (pc' := 82) rfl (hb hby at_81)  ?_
        obtain ⟨T30, h30, X30, e30, W30, A30, st30⟩ := stABn X29 hx hZ rfl A_b0_26_29 (j := (0 : Int32)) (by decide) (show Int32.toNatClampNeg 0 < 2 from by decide) (g := (mkF m 82 #[.val (.int v0), .val (.int v1), .val (.int v2), .val (.int v3), .val (.int v4), .val (.int (2 : Int32)), .val (.ref b0_26), .val (.ref b0_29), .unset] [(.int ((v1 ^^^ (-1 : Int32)).toInt8.toInt32)), (.int (0 : Int32)), (.ref b0_26)])) rfl rfl (hb hby at_82)
        refine Go.st st30 ?_
        have E_b0_26_30 := E_b0_26_29.wr W30
        have E_b0_29_30 := p29_0.wr W30
        have F_b0_29_bytes_30 := p29_1.other W30 (Or.inl (Ne.symm ne_b0_26_b0_29))
        have E_b1_29_30 := p29_2.wr W30
        have A_b1_29_30 := p29_3.other W30 (Ne.symm ne_b0_26_b1_29)
        have A_b0_26_30 : AI Z h30 b0_26 .byte [((v1 ^^^ (-1 : Int32)).toInt8.toInt32), (v2.toInt8.toInt32)] := A30
        have K_30 : Keep h0 h30 [] := K_29.wr W30 (Or.inr sz_b0_26)
        have Z_30 : n0 ≤ h30.size := Nat.le_trans Z0 K_30.1
        have N30 := Fr.snoc X30 N29 g_b0_26
        show Go p e below s _ _ _ T30 (mkF m 83 #[.val (.int v0), .val (.int v1), .val (.int v2), .val (.int v3), .val (.int v4), .val (.int (2 : Int32)), .val (.ref b0_26), .val (.ref b0_29), .unset] [])
        refine G_iload X30 hx (pc' := 85) rfl (hb hby at_83) rfl ?_
        refine G_iconst X30 hx (pc' := 86) rfl (hb hby at_85) (z := (1 : Int32)) rfl ?_
        refine G_icmpNo X30 hx (pc' := 89) rfl (hb hby at_86) (tlt (by decide : (1 : Int32) < (2 : Int32))).2.2.2 ?_
        refine G_aload X30 hx (pc' := 91) rfl (hb hby at_89) rfl rfl ?_
        refine G_iconst X30 hx (pc' := 92) rfl (hb hby at_91) (z := (1 : Int32)) rfl ?_
        refine G_iloadN X30 hx (pc' := 93) rfl (hb hby at_92) rfl ?_
        refine G_iconst X30 hx (pc' := 94) rfl (hb hby at_93) (z := (-1 : Int32)) rfl ?_
        refine G_ixor X30 hx (pc' := 95) rfl (hb hby at_94)  ?_
        refine G_i2b X30 hx (pc' := 96) rfl (hb hby at_95)  ?_
        obtain ⟨T31, h31, X31, e31, W31, A31, st31⟩ := stABn X30 hx hZ e30 A_b0_26_30 (j := (1 : Int32)) (by decide) (show Int32.toNatClampNeg 1 < 2 from by decide) (g := (mkF m 96 #[.val (.int v0), .val (.int v1), .val (.int v2), .val (.int v3), .val (.int v4), .val (.int (2 : Int32)), .val (.ref b0_26), .val (.ref b0_29), .unset] [(.int ((v2 ^^^ (-1 : Int32)).toInt8.toInt32)), (.int (1 : Int32)), (.ref b0_26)])) rfl rfl (hb hby at_96)
        refine Go.st st31 ?_
        have E_b0_26_31 := E_b0_26_30.wr W31
        have E_b0_29_31 := E_b0_29_30.wr W31
        have F_b0_29_bytes_31 := F_b0_29_bytes_30.other W31 (Or.inl (Ne.symm ne_b0_26_b0_29))
        have E_b1_29_31 := E_b1_29_30.wr W31
        have A_b1_29_31 := A_b1_29_30.other W31 (Ne.symm ne_b0_26_b1_29)
        have A_b0_26_31 : AI Z h31 b0_26 .byte [((v1 ^^^ (-1 : Int32)).toInt8.toInt32), ((v2 ^^^ (-1 : Int32)).toInt8.toInt32)] := A31
        have K_31 : Keep h0 h31 [] := K_30.wr W31 (Or.inr sz_b0_26)
        have Z_31 : n0 ≤ h31.size := Nat.le_trans Z0 K_31.1
        have N31 := Fr.snoc X31 N30 g_b0_26
        show Go p e below s _ _ _ T31 (mkF m 97 #[.val (.int v0), .val (.int v1), .val (.int v2), .val (.int v3), .val (.int v4), .val (.int (2 : Int32)), .val (.ref b0_26), .val (.ref b0_29), .unset] [])
        refine G_iload X31 hx (pc' := 99) rfl (hb hby at_97) rfl ?_
        refine G_iconst X31 hx (pc' := 100) rfl (hb hby at_99) (z := (2 : Int32)) rfl ?_
        refine G_icmpYes X31 hx (pc' := 111) (hb hby at_100) (flt (by decide : ¬ ((2 : Int32) < (2 : Int32)))).2.2.2 (by decide) (by decide) ?_
        refine G_iload X31 hx (pc' := 113) rfl (hb hby at_111) rfl ?_
        refine G_iconst X31 hx (pc' := 114) rfl (hb hby at_113) (z := (3 : Int32)) rfl ?_
        refine G_icmpYes X31 hx (pc' := 126) (hb hby at_114) (flt (by decide : ¬ ((3 : Int32) < (2 : Int32)))).2.2.2 (by decide) (by decide) ?_
        refine G_aload X31 hx (pc' := 128) rfl (hb hby at_126) rfl rfl ?_
        obtain ⟨cq32, kq32, q32a, q32b, q32c⟩ := isOf hZ e31 E_b0_29_31
        obtain ⟨_, _, ⟨T32, L32, k32, n32⟩, -, X32, ⟨Lc32, hQ32, l32, y32, z32⟩, st32⟩ := X31.virtualBack hx (y := (⟨"com/example/colonwise/colonwise/model/BencodeString", "bytes", "()[B"⟩ : MethodName)) (z := (⟨"com/example/colonwise/colonwise/model/BencodeString", "bytes", "()[B"⟩ : MethodName)) hown (mvT hZ (hw _ (List.mem_of_getElem? (i := 29) rfl))) (mvT hZ (hw _ (List.mem_of_getElem? (i := 30) rfl))) (notFace_of_selects (args := #[]) (mvT hZ (hw _ (List.mem_of_getElem? (i := 32) rfl)))) (mvT hZ (hw _ (List.mem_of_getElem? (i := 32) rfl))) (mvT hZ (hw _ (List.mem_of_getElem? (i := 31) rfl))) (by decide) (backOf (W := 0) (rm_bytes l Z a0 hw [] b0_29 b1_29 [(v1.toInt8.toInt32), (v2.toInt8.toInt32)] h31 n0 Z_31 E_b0_29_31 F_b0_29_bytes_31 E_b1_29_31 A_b1_29_31 (by simp)) hZ (hw _ (List.mem_of_getElem? (i := 33) rfl)) (hw _ (List.mem_of_getElem? (i := 8) rfl)) (by decide) (by decide)) q32a q32c (g := (mkF m 128 #[.val (.int v0), .val (.int v1), .val (.int v2), .val (.int v3), .val (.int v4), .val (.int (2 : Int32)), .val (.ref b0_26), .val (.ref b0_29), .unset] [(.ref b0_29)])) rfl (by rw [hml]; rfl) (Steps.refl _) (argsL := []) (rest := []) (lenOf pd_3 rfl) rfl (by show 2 * 0 + _ ≤ _; exact Nat.le_of_eq rfl) (hb hby at_128) (fun _ _ => ⟨rfl, e31, (by decide : 3 + 1 ≤ _), (by decide : 7 + 4 ≤ _)⟩)
        dsimp only [Pt.U, Pt.locs, Pt.cells, Pt.slots] at X32 l32 y32 z32 st32 hQ32
        subst l32 y32 z32
        obtain ⟨b0_32, rfl, N32q, K32, le_b0_32, p32_0, p32_1⟩ := hQ32
        have N32 := Fr.app N31 N32q
        refine Go.st (fun _ k => st32.trans k) ?_
        have ne_b0_26_b0_32 : b0_26 ≠ b0_32 := Nat.ne_of_lt (Nat.lt_of_lt_of_le E_b0_26_31.lt le_b0_32)
        have ne_b0_29_b0_32 : b0_29 ≠ b0_32 := Nat.ne_of_lt (Nat.lt_of_lt_of_le E_b0_29_31.lt le_b0_32)
        have ne_b1_29_b0_32 : b1_29 ≠ b0_32 := Nat.ne_of_lt (Nat.lt_of_lt_of_le E_b1_29_31.lt le_b0_32)
        have g_b0_32 : n0 ≤ b0_32 := Nat.le_trans Z_31 le_b0_32
        have sz_b0_32 : h0.size ≤ b0_32 := Nat.le_trans K_31.1 le_b0_32
        have E_b0_26_32 := E_b0_26_31.keep K32
        have E_b0_29_32 := E_b0_29_31.keep K32
        have F_b0_29_bytes_32 := F_b0_29_bytes_31.keep K32 nin0
        have E_b1_29_32 := E_b1_29_31.keep K32
        have A_b1_29_32 := A_b1_29_31.keep K32 nin0
        have A_b0_26_32 := A_b0_26_31.keep K32 nin0
        have K_32 : Keep h0 T32.heap [] := K_31.trans K32 all0
        have Z_32 : n0 ≤ T32.heap.size := Nat.le_trans Z0 K_32.1
        show Go p e below s _ _ _ T32 (mkF m 131 #[.val (.int v0), .val (.int v1), .val (.int v2), .val (.int v3), .val (.int v4), .val (.int (2 : Int32)), .val (.ref b0_26), .val (.ref b0_29), .unset] [(.ref b0_32)])
        refine G_astore X32 hx (pc' := 133) rfl (hb hby at_131) rfl (L' := #[.val (.int v0), .val (.int v1), .val (.int v2), .val (.int v3), .val (.int v4), .val (.int (2 : Int32)), .val (.ref b0_26), .val (.ref b0_29), .val (.ref b0_32)]) rfl ?_
        refine G_aload X32 hx (pc' := 135) rfl (hb hby at_133) rfl rfl ?_
        refine Go.st (lenAI X32 hx hZ rfl p32_1 (g := (mkF m 135 #[.val (.int v0), .val (.int v1), .val (.int v2), .val (.int v3), .val (.int v4), .val (.int (2 : Int32)), .val (.ref b0_26), .val (.ref b0_29), .val (.ref b0_32)] [(.ref b0_32)])) rfl rfl (hb hby at_135)) ?_
        show Go p e below s _ _ _ T32 (mkF m 136 #[.val (.int v0), .val (.int v1), .val (.int v2), .val (.int v3), .val (.int v4), .val (.int (2 : Int32)), .val (.ref b0_26), .val (.ref b0_29), .val (.ref b0_32)] [(.int (2 : Int32))])
        refine G_iload X32 hx (pc' := 138) rfl (hb hby at_136) rfl ?_
        refine G_icmpNo X32 hx (pc' := 141) rfl (hb hby at_138) (teq (by decide : (2 : Int32) = (2 : Int32))).2 ?_
        refine G_aload X32 hx (pc' := 143) rfl (hb hby at_141) rfl rfl ?_
        obtain ⟨cq33, kq33, q33a, q33b, q33c⟩ := isOf hZ rfl E_b0_29_32
        obtain ⟨_, _, ⟨T33, L33, k33, n33⟩, -, X33, ⟨Lc33, hQ33, l33, y33, z33⟩, st33⟩ := X32.virtualBack hx (y := (⟨"com/example/colonwise/colonwise/model/BencodeString", "length", "()I"⟩ : MethodName)) (z := (⟨"com/example/colonwise/colonwise/model/BencodeString", "length", "()I"⟩ : MethodName)) hown (mvT hZ (hw _ (List.mem_of_getElem? (i := 34) rfl))) (mvT hZ (hw _ (List.mem_of_getElem? (i := 35) rfl))) (notFace_of_selects (args := #[]) (mvT hZ (hw _ (List.mem_of_getElem? (i := 37) rfl)))) (mvT hZ (hw _ (List.mem_of_getElem? (i := 37) rfl))) (mvT hZ (hw _ (List.mem_of_getElem? (i := 36) rfl))) (by decide) (backOf (W := 0) (rm_length l Z a0 hw [] b0_29 b1_29 [(v1.toInt8.toInt32), (v2.toInt8.toInt32)] T32.heap n0 Z_32 E_b0_29_32 F_b0_29_bytes_32 A_b1_29_32) hZ (hw _ (List.mem_of_getElem? (i := 38) rfl)) (hw _ (List.mem_of_getElem? (i := 8) rfl)) (by decide) (by decide)) q33a q33c (g := (mkF m 143 #[.val (.int v0), .val (.int v1), .val (.int v2), .val (.int v3), .val (.int v4), .val (.int (2 : Int32)), .val (.ref b0_26), .val (.ref b0_29), .val (.ref b0_32)] [(.ref b0_29)])) rfl (by rw [hml]; rfl) (Steps.refl _) (argsL := []) (rest := []) (lenOf pd_4 rfl) rfl (by show 2 * 0 + _ ≤ _; exact Nat.le_of_eq rfl) (hb hby at_143) (fun _ _ => ⟨rfl, rfl, (by decide : 4 + 0 ≤ _), (by decide : 11 + 0 ≤ _)⟩)
        dsimp only [Pt.U, Pt.locs, Pt.cells, Pt.slots] at X33 l33 y33 z33 st33 hQ33
        subst l33 y33 z33
        obtain ⟨rfl, N33q, e33⟩ := hQ33
        have N33 := Fr.app N32 N33q
        refine Go.st (fun _ k => st33.trans k) ?_
        show Go p e below s _ _ _ T33 (mkF m 146 #[.val (.int v0), .val (.int v1), .val (.int v2), .val (.int v3), .val (.int v4), .val (.int (2 : Int32)), .val (.ref b0_26), .val (.ref b0_29), .val (.ref b0_32)] [(.int (Int32.ofNat ([(v1.toInt8.toInt32), (v2.toInt8.toInt32)]).length))])
        refine G_iload X33 hx (pc' := 148) rfl (hb hby at_146) rfl ?_
        refine G_icmpYes X33 hx (pc' := 153) (hb hby at_148) (teq (rfl : (Int32.ofNat ([(v1.toInt8.toInt32), (v2.toInt8.toInt32)]).length) = (2 : Int32))).1 (by decide) (by decide) ?_
        refine G_iload X33 hx (pc' := 155) rfl (hb hby at_153) rfl ?_
        refine G_ifNo X33 hx (pc' := 158) rfl (hb hby at_155) ((if0 _ _).trans (tlt (by decide : (0 : Int32) < (2 : Int32))).2.2.2) ?_
        refine G_aload X33 hx (pc' := 160) rfl (hb hby at_158) rfl rfl ?_
        refine G_iconst X33 hx (pc' := 161) rfl (hb hby at_160) (z := (0 : Int32)) rfl ?_
        refine Go.st (ldAB X33 hx hZ e33 p32_1 (j := (0 : Int32)) (by decide) (show Int32.toNatClampNeg 0 < 2 from by decide) (g := (mkF m 161 #[.val (.int v0), .val (.int v1), .val (.int v2), .val (.int v3), .val (.int v4), .val (.int (2 : Int32)), .val (.ref b0_26), .val (.ref b0_29), .val (.ref b0_32)] [(.int (0 : Int32)), (.ref b0_32)])) rfl rfl (hb hby at_161)) ?_
        show Go p e below s _ _ _ T33 (mkF m 162 #[.val (.int v0), .val (.int v1), .val (.int v2), .val (.int v3), .val (.int v4), .val (.int (2 : Int32)), .val (.ref b0_26), .val (.ref b0_29), .val (.ref b0_32)] [(.int (v1.toInt8.toInt32))])
        refine G_iloadN X33 hx (pc' := 163) rfl (hb hby at_162) rfl ?_
        refine G_i2b X33 hx (pc' := 164) rfl (hb hby at_163)  ?_
        refine G_icmpYes X33 hx (pc' := 169) (hb hby at_164) (teq (rfl : (v1.toInt8.toInt32) = (v1.toInt8.toInt32))).1 (by decide) (by decide) ?_
        refine G_iload X33 hx (pc' := 171) rfl (hb hby at_169) rfl ?_
        refine G_iconst X33 hx (pc' := 172) rfl (hb hby at_171) (z := (1 : Int32)) rfl ?_
        refine G_icmpNo X33 hx (pc' := 175) rfl (hb hby at_172) (tlt (by decide : (1 : Int32) < (2 : Int32))).2.2.2 ?_
        refine G_aload X33 hx (pc' := 177) rfl (hb hby at_175) rfl rfl ?_
        refine G_iconst X33 hx (pc' := 178) rfl (hb hby at_177) (z := (1 : Int32)) rfl ?_
        refine Go.st (ldAB X33 hx hZ e33 p32_1 (j := (1 : Int32)) (by decide) (show Int32.toNatClampNeg 1 < 2 from by decide) (g := (mkF m 178 #[.val (.int v0), .val (.int v1), .val (.int v2), .val (.int v3), .val (.int v4), .val (.int (2 : Int32)), .val (.ref b0_26), .val (.ref b0_29), .val (.ref b0_32)] [(.int (1 : Int32)), (.ref b0_32)])) rfl rfl (hb hby at_178)) ?_
        show Go p e below s _ _ _ T33 (mkF m 179 #[.val (.int v0), .val (.int v1), .val (.int v2), .val (.int v3), .val (.int v4), .val (.int (2 : Int32)), .val (.ref b0_26), .val (.ref b0_29), .val (.ref b0_32)] [(.int (v2.toInt8.toInt32))])
        refine G_iloadN X33 hx (pc' := 180) rfl (hb hby at_179) rfl ?_
        refine G_i2b X33 hx (pc' := 181) rfl (hb hby at_180)  ?_
        refine G_icmpYes X33 hx (pc' := 186) (hb hby at_181) (teq (rfl : (v2.toInt8.toInt32) = (v2.toInt8.toInt32))).1 (by decide) (by decide) ?_
        refine G_iload X33 hx (pc' := 188) rfl (hb hby at_186) rfl ?_
        refine G_iconst X33 hx (pc' := 189) rfl (hb hby at_188) (z := (2 : Int32)) rfl ?_
        refine G_icmpYes X33 hx (pc' := 203) (hb hby at_189) (flt (by decide : ¬ ((2 : Int32) < (2 : Int32)))).2.2.2 (by decide) (by decide) ?_
        refine G_iload X33 hx (pc' := 205) rfl (hb hby at_203) rfl ?_
        refine G_iconst X33 hx (pc' := 206) rfl (hb hby at_205) (z := (3 : Int32)) rfl ?_
        refine G_icmpYes X33 hx (pc' := 221) (hb hby at_206) (flt (by decide : ¬ ((3 : Int32) < (2 : Int32)))).2.2.2 (by decide) (by decide) ?_
        refine G_iconst X33 hx (pc' := 222) rfl (hb hby at_221) (z := (1 : Int32)) rfl ?_
        refine Go.fin X33 hlk (v := some (.int (1 : Int32))) (fun h => by rw [Bd.returns] at h; cases h) (by decide) (by decide) ?_ (fun fs hr => retN X33 hx (t := .boolean) Bd.returns (by simp) (hb hby at_222) hr)
        show Q_law Z v0 v1 v2 v3 v4 h0 n0 _ T33.heap _
        rw [e33]
        exact ⟨congrArg (fun z => some (Value.int z)) (by rw [f_law]; try rw [h_n]; rw [if_neg hk0_1, if_neg hk1_2, if_pos hk2_3]), N33⟩
      · by_cases hk3_4 : n = (3 : Int32)
        · rw [hk3_4]
          refine G_iload X0 hx (pc' := 10) rfl (hb hby at_8) rfl ?_
          obtain ⟨_, _, ⟨T34, L34, k34, n34⟩, -, X34, ⟨Lc34, hQ34, l34, y34, z34⟩, st34⟩ := Jvm.LawKit.callS X0 hx (y := (⟨"com/example/colonwise/colonwise/model/BencodeStringOfPinLaw", "make", "(I)[B"⟩ : MethodName)) hown (mvT hZ (hw _ (List.mem_of_getElem? (i := 1) rfl))) (mvT hZ (hw _ (List.mem_of_getElem? (i := 2) rfl))) (mvT hZ (hw _ (List.mem_of_getElem? (i := 3) rfl))) (mvT hZ (hw _ (List.mem_of_getElem? (i := 4) rfl))) (by decide) (backOf (W := 0) (rm_make3 l Z a0 hw []  h0 n0 Z0 ) hZ (hw _ (List.mem_of_getElem? (i := 4) rfl)) (hw _ (List.mem_of_getElem? (i := 3) rfl)) (by decide) (by decide)) (g := (mkF m 10 #[.val (.int v0), .val (.int v1), .val (.int v2), .val (.int v3), .val (.int v4), .val (.int (3 : Int32)), .unset, .unset, .unset] [(.int (3 : Int32))])) rfl (by rw [hml]; rfl) (argsL := [(.int (3 : Int32))]) (rest := []) (lenOf pd_1 rfl) rfl (by show 2 * 0 + _ ≤ _; exact Nat.le_of_eq rfl) (hb hby at_10) (fun _ _ => ⟨rfl, e0, (by decide : 0 + 1 ≤ _), (by decide : 0 + 3 ≤ _)⟩)
          dsimp only [Pt.U, Pt.locs, Pt.cells, Pt.slots] at X34 l34 y34 z34 st34 hQ34
          subst l34 y34 z34
          obtain ⟨b0_34, rfl, N34q, K34, le_b0_34, p34_0, p34_1⟩ := hQ34
          have N34 := Fr.app N0 N34q
          refine Go.st st34 ?_
          have g_b0_34 : n0 ≤ b0_34 := Nat.le_trans Z0 le_b0_34
          have sz_b0_34 : h0.size ≤ b0_34 := Nat.le_trans (Nat.le_refl _) le_b0_34
          have K_34 : Keep h0 T34.heap [] := (Keep.refl h0 []).trans K34 all0
          have Z_34 : n0 ≤ T34.heap.size := Nat.le_trans Z0 K_34.1
          show Go p e below s _ _ _ T34 (mkF m 13 #[.val (.int v0), .val (.int v1), .val (.int v2), .val (.int v3), .val (.int v4), .val (.int (3 : Int32)), .unset, .unset, .unset] [(.ref b0_34)])
          refine G_astore X34 hx (pc' := 15) rfl (hb hby at_13) rfl (L' := #[.val (.int v0), .val (.int v1), .val (.int v2), .val (.int v3), .val (.int v4), .val (.int (3 : Int32)), .val (.ref b0_34), .unset, .unset]) rfl ?_
          refine G_iload X34 hx (pc' := 17) rfl (hb hby at_15) rfl ?_
          refine G_ifNo X34 hx (pc' := 20) rfl (hb hby at_17) ((if0 _ _).trans (tlt (by decide : (0 : Int32) < (3 : Int32))).2.2.2) ?_
          refine G_aload X34 hx (pc' := 22) rfl (hb hby at_20) rfl rfl ?_
          refine G_iconst X34 hx (pc' := 23) rfl (hb hby at_22) (z := (0 : Int32)) rfl ?_
          refine G_iloadN X34 hx (pc' := 24) rfl (hb hby at_23) rfl ?_
          refine G_i2b X34 hx (pc' := 25) rfl (hb hby at_24)  ?_
          obtain ⟨T35, h35, X35, e35, W35, A35, st35⟩ := stABn X34 hx hZ rfl p34_1 (j := (0 : Int32)) (by decide) (show Int32.toNatClampNeg 0 < 3 from by decide) (g := (mkF m 25 #[.val (.int v0), .val (.int v1), .val (.int v2), .val (.int v3), .val (.int v4), .val (.int (3 : Int32)), .val (.ref b0_34), .unset, .unset] [(.int (v1.toInt8.toInt32)), (.int (0 : Int32)), (.ref b0_34)])) rfl rfl (hb hby at_25)
          refine Go.st st35 ?_
          have E_b0_34_35 := p34_0.wr W35
          have A_b0_34_35 : AI Z h35 b0_34 .byte [(v1.toInt8.toInt32), (0 : Int32), (0 : Int32)] := A35
          have K_35 : Keep h0 h35 [] := K_34.wr W35 (Or.inr sz_b0_34)
          have Z_35 : n0 ≤ h35.size := Nat.le_trans Z0 K_35.1
          have N35 := Fr.snoc X35 N34 g_b0_34
          show Go p e below s _ _ _ T35 (mkF m 26 #[.val (.int v0), .val (.int v1), .val (.int v2), .val (.int v3), .val (.int v4), .val (.int (3 : Int32)), .val (.ref b0_34), .unset, .unset] [])
          refine G_iload X35 hx (pc' := 28) rfl (hb hby at_26) rfl ?_
          refine G_iconst X35 hx (pc' := 29) rfl (hb hby at_28) (z := (1 : Int32)) rfl ?_
          refine G_icmpNo X35 hx (pc' := 32) rfl (hb hby at_29) (tlt (by decide : (1 : Int32) < (3 : Int32))).2.2.2 ?_
          refine G_aload X35 hx (pc' := 34) rfl (hb hby at_32) rfl rfl ?_
          refine G_iconst X35 hx (pc' := 35) rfl (hb hby at_34) (z := (1 : Int32)) rfl ?_
          refine G_iloadN X35 hx (pc' := 36) rfl (hb hby at_35) rfl ?_
          refine G_i2b X35 hx (pc' := 37) rfl (hb hby at_36)  ?_
          obtain ⟨T36, h36, X36, e36, W36, A36, st36⟩ := stABn X35 hx hZ e35 A_b0_34_35 (j := (1 : Int32)) (by decide) (show Int32.toNatClampNeg 1 < 3 from by decide) (g := (mkF m 37 #[.val (.int v0), .val (.int v1), .val (.int v2), .val (.int v3), .val (.int v4), .val (.int (3 : Int32)), .val (.ref b0_34), .unset, .unset] [(.int (v2.toInt8.toInt32)), (.int (1 : Int32)), (.ref b0_34)])) rfl rfl (hb hby at_37)
          refine Go.st st36 ?_
          have E_b0_34_36 := E_b0_34_35.wr W36
          have A_b0_34_36 : AI Z h36 b0_34 .byte [(v1.toInt8.toInt32), (v2.toInt8.toInt32), (0 : Int32)] := A36
          have K_36 : Keep h0 h36 [] := K_35.wr W36 (Or.inr sz_b0_34)
          have Z_36 : n0 ≤ h36.size := Nat.le_trans Z0 K_36.1
          have N36 := Fr.snoc X36 N35 g_b0_34
          show Go p e below s _ _ _ T36 (mkF m 38 #[.val (.int v0), .val (.int v1), .val (.int v2), .val (.int v3), .val (.int v4), .val (.int (3 : Int32)), .val (.ref b0_34), .unset, .unset] [])
          refine G_iload X36 hx (pc' := 40) rfl (hb hby at_38) rfl ?_
          refine G_iconst X36 hx (pc' := 41) rfl (hb hby at_40) (z := (2 : Int32)) rfl ?_
          refine G_icmpNo X36 hx (pc' := 44) rfl (hb hby at_41) (tlt (by decide : (2 : Int32) < (3 : Int32))).2.2.2 ?_
          refine G_aload X36 hx (pc' := 46) rfl (hb hby at_44) rfl rfl ?_
          refine G_iconst X36 hx (pc' := 47) rfl (hb hby at_46) (z := (2 : Int32)) rfl ?_
          refine G_iloadN X36 hx (pc' := 48) rfl (hb hby at_47) rfl ?_
          refine G_i2b X36 hx (pc' := 49) rfl (hb hby at_48)  ?_
          obtain ⟨T37, h37, X37, e37, W37, A37, st37⟩ := stABn X36 hx hZ e36 A_b0_34_36 (j := (2 : Int32)) (by decide) (show Int32.toNatClampNeg 2 < 3 from by decide) (g := (mkF m 49 #[.val (.int v0), .val (.int v1), .val (.int v2), .val (.int v3), .val (.int v4), .val (.int (3 : Int32)), .val (.ref b0_34), .unset, .unset] [(.int (v3.toInt8.toInt32)), (.int (2 : Int32)), (.ref b0_34)])) rfl rfl (hb hby at_49)
          refine Go.st st37 ?_
          have E_b0_34_37 := E_b0_34_36.wr W37
          have A_b0_34_37 : AI Z h37 b0_34 .byte [(v1.toInt8.toInt32), (v2.toInt8.toInt32), (v3.toInt8.toInt32)] := A37
          have K_37 : Keep h0 h37 [] := K_36.wr W37 (Or.inr sz_b0_34)
          have Z_37 : n0 ≤ h37.size := Nat.le_trans Z0 K_37.1
          have N37 := Fr.snoc X37 N36 g_b0_34
          show Go p e below s _ _ _ T37 (mkF m 50 #[.val (.int v0), .val (.int v1), .val (.int v2), .val (.int v3), .val (.int v4), .val (.int (3 : Int32)), .val (.ref b0_34), .unset, .unset] [])
          refine G_iload X37 hx (pc' := 52) rfl (hb hby at_50) rfl ?_
          refine G_iconst X37 hx (pc' := 53) rfl (hb hby at_52) (z := (3 : Int32)) rfl ?_
          refine G_icmpYes X37 hx (pc' := 63) (hb hby at_53) (flt (by decide : ¬ ((3 : Int32) < (3 : Int32)))).2.2.2 (by decide) (by decide) ?_
          refine G_aload X37 hx (pc' := 65) rfl (hb hby at_63) rfl rfl ?_
          obtain ⟨_, _, ⟨T38, L38, k38, n38⟩, -, X38, ⟨Lc38, hQ38, l38, y38, z38⟩, st38⟩ := Jvm.LawKit.callS X37 hx (y := (⟨"com/example/colonwise/colonwise/model/BencodeString", "of", "([B)Lcom/example/colonwise/colonwise/model/BencodeString;"⟩ : MethodName)) hown (mvT hZ (hw _ (List.mem_of_getElem? (i := 6) rfl))) (mvT hZ (hw _ (List.mem_of_getElem? (i := 7) rfl))) (mvT hZ (hw _ (List.mem_of_getElem? (i := 8) rfl))) (mvT hZ (hw _ (List.mem_of_getElem? (i := 9) rfl))) (by decide) (backOf (W := 0) (rm_of l Z a0 hw [] b0_34 [(v1.toInt8.toInt32), (v2.toInt8.toInt32), (v3.toInt8.toInt32)] h37 n0 Z_37 E_b0_34_37 A_b0_34_37 (by simp)) hZ (hw _ (List.mem_of_getElem? (i := 9) rfl)) (hw _ (List.mem_of_getElem? (i := 8) rfl)) (by decide) (by decide)) (g := (mkF m 65 #[.val (.int v0), .val (.int v1), .val (.int v2), .val (.int v3), .val (.int v4), .val (.int (3 : Int32)), .val (.ref b0_34), .unset, .unset] [(.ref b0_34)])) rfl (by rw [hml]; rfl) (argsL := [(.ref b0_34)]) (rest := []) (lenOf pd_2 rfl) rfl (by show 2 * 0 + _ ≤ _; exact Nat.le_of_eq rfl) (hb hby at_65) (fun _ _ => ⟨rfl, e37, (by decide : 1 + 2 ≤ _), (by decide : 3 + 5 ≤ _)⟩)
          dsimp only [Pt.U, Pt.locs, Pt.cells, Pt.slots] at X38 l38 y38 z38 st38 hQ38
          subst l38 y38 z38
          obtain ⟨b0_38, b1_38, rfl, N38q, K38, le_b0_38, le_b1_38, p38_0, p38_1, p38_2, p38_3, p38_4⟩ := hQ38
          have N38 := Fr.app N37 N38q
          refine Go.st st38 ?_
          have ne_b0_34_b0_38 : b0_34 ≠ b0_38 := Nat.ne_of_lt (Nat.lt_of_lt_of_le E_b0_34_37.lt le_b0_38)
          have g_b0_38 : n0 ≤ b0_38 := Nat.le_trans Z_37 le_b0_38
          have sz_b0_38 : h0.size ≤ b0_38 := Nat.le_trans K_37.1 le_b0_38
          have ne_b0_34_b1_38 : b0_34 ≠ b1_38 := Nat.ne_of_lt (Nat.lt_of_lt_of_le E_b0_34_37.lt le_b1_38)
          have g_b1_38 : n0 ≤ b1_38 := Nat.le_trans Z_37 le_b1_38
          have sz_b1_38 : h0.size ≤ b1_38 := Nat.le_trans K_37.1 le_b1_38
          have E_b0_34_38 := E_b0_34_37.keep K38
          have A_b0_34_38 := A_b0_34_37.keep K38 nin0
          have K_38 : Keep h0 T38.heap [] := K_37.trans K38 all0
          have Z_38 : n0 ≤ T38.heap.size := Nat.le_trans Z0 K_38.1
          show Go p e below s _ _ _ T38 (mkF m 68 #[.val (.int v0), .val (.int v1), .val (.int v2), .val (.int v3), .val (.int v4), .val (.int (3 : Int32)), .val (.ref b0_34), .unset, .unset] [(.ref b0_38)])
          refine G_astore X38 hx (pc' := 70) rfl (hb hby at_68) rfl (L' := #[.val (.int v0), .val (.int v1), .val (.int v2), .val (.int v3), .val (.int v4), .val (.int (3 : Int32)), .val (.ref b0_34), .val (.ref b0_38), .unset]) rfl ?_
          refine G_iload X38 hx (pc' := 72) rfl (hb hby at_70) rfl ?_
          refine G_ifNo X38 hx (pc' := 75) rfl (hb hby at_72) ((if0 _ _).trans (tlt (by decide : (0 : Int32) < (3 : Int32))).2.2.2) ?_
          refine G_aload X38 hx (pc' := 77) rfl (hb hby at_75) rfl rfl ?_
          refine G_iconst X38 hx (pc' := 78) rfl (hb hby at_77) (z := (0 : Int32)) rfl ?_
          refine G_iloadN X38 hx (pc' := 79) rfl (hb hby at_78) rfl ?_
          refine G_iconst X38 hx (pc' := 80) rfl (hb hby at_79) (z := (-1 : Int32)) rfl ?_
          refine G_ixor X38 hx (pc' := 81) rfl (hb hby at_80)  ?_
          refine G_i2b X38 hx (pc' := 82) rfl (hb hby at_81)  ?_
          obtain ⟨T39, h39, X39, e39, W39, A39, st39⟩ := stABn X38 hx hZ rfl A_b0_34_38 (j := (0 : Int32)) (by decide) (show Int32.toNatClampNeg 0 < 3 from by decide) (g := (mkF m 82 #[.val (.int v0), .val (.int v1), .val (.int v2), .val (.int v3), .val (.int v4), .val (.int (3 : Int32)), .val (.ref b0_34), .val (.ref b0_38), .unset] [(.int ((v1 ^^^ (-1 : Int32)).toInt8.toInt32)), (.int (0 : Int32)), (.ref b0_34)])) rfl rfl (hb hby at_82)
          refine Go.st st39 ?_
          have E_b0_34_39 := E_b0_34_38.wr W39
          have E_b0_38_39 := p38_0.wr W39
          have F_b0_38_bytes_39 := p38_1.other W39 (Or.inl (Ne.symm ne_b0_34_b0_38))
          have E_b1_38_39 := p38_2.wr W39
          have A_b1_38_39 := p38_3.other W39 (Ne.symm ne_b0_34_b1_38)
          have A_b0_34_39 : AI Z h39 b0_34 .byte [((v1 ^^^ (-1 : Int32)).toInt8.toInt32), (v2.toInt8.toInt32), (v3.toInt8.toInt32)] := A39
          have K_39 : Keep h0 h39 [] := K_38.wr W39 (Or.inr sz_b0_34)
          have Z_39 : n0 ≤ h39.size := Nat.le_trans Z0 K_39.1
          have N39 := Fr.snoc X39 N38 g_b0_34
          show Go p e below s _ _ _ T39 (mkF m 83 #[.val (.int v0), .val (.int v1), .val (.int v2), .val (.int v3), .val (.int v4), .val (.int (3 : Int32)), .val (.ref b0_34), .val (.ref b0_38), .unset] [])
          refine G_iload X39 hx (pc' := 85) rfl (hb hby at_83) rfl ?_
          refine G_iconst X39 hx (pc' := 86) rfl (hb hby at_85) (z := (1 : Int32)) rfl ?_
          refine G_icmpNo X39 hx (pc' := 89) rfl (hb hby at_86) (tlt (by decide : (1 : Int32) < (3 : Int32))).2.2.2 ?_
          refine G_aload X39 hx (pc' := 91) rfl (hb hby at_89) rfl rfl ?_
          refine G_iconst X39 hx (pc' := 92) rfl (hb hby at_91) (z := (1 : Int32)) rfl ?_
          refine G_iloadN X39 hx (pc' := 93) rfl (hb hby at_92) rfl ?_
          refine G_iconst X39 hx (pc' := 94) rfl (hb hby at_93) (z := (-1 : Int32)) rfl ?_
          refine G_ixor X39 hx (pc' := 95) rfl (hb hby at_94)  ?_
          refine G_i2b X39 hx (pc' := 96) rfl (hb hby at_95)  ?_
          obtain ⟨T40, h40, X40, e40, W40, A40, st40⟩ := stABn X39 hx hZ e39 A_b0_34_39 (j := (1 : Int32)) (by decide) (show Int32.toNatClampNeg 1 < 3 from by decide) (g := (mkF m 96 #[.val (.int v0), .val (.int v1), .val (.int v2), .val (.int v3), .val (.int v4), .val (.int (3 : Int32)), .val (.ref b0_34), .val (.ref b0_38), .unset] [(.int ((v2 ^^^ (-1 : Int32)).toInt8.toInt32)), (.int (1 : Int32)), (.ref b0_34)])) rfl rfl (hb hby at_96)
          refine Go.st st40 ?_
          have E_b0_34_40 := E_b0_34_39.wr W40
          have E_b0_38_40 := E_b0_38_39.wr W40
          have F_b0_38_bytes_40 := F_b0_38_bytes_39.other W40 (Or.inl (Ne.symm ne_b0_34_b0_38))
          have E_b1_38_40 := E_b1_38_39.wr W40
          have A_b1_38_40 := A_b1_38_39.other W40 (Ne.symm ne_b0_34_b1_38)
          have A_b0_34_40 : AI Z h40 b0_34 .byte [((v1 ^^^ (-1 : Int32)).toInt8.toInt32), ((v2 ^^^ (-1 : Int32)).toInt8.toInt32), (v3.toInt8.toInt32)] := A40
          have K_40 : Keep h0 h40 [] := K_39.wr W40 (Or.inr sz_b0_34)
          have Z_40 : n0 ≤ h40.size := Nat.le_trans Z0 K_40.1
          have N40 := Fr.snoc X40 N39 g_b0_34
          show Go p e below s _ _ _ T40 (mkF m 97 #[.val (.int v0), .val (.int v1), .val (.int v2), .val (.int v3), .val (.int v4), .val (.int (3 : Int32)), .val (.ref b0_34), .val (.ref b0_38), .unset] [])
          refine G_iload X40 hx (pc' := 99) rfl (hb hby at_97) rfl ?_
          refine G_iconst X40 hx (pc' := 100) rfl (hb hby at_99) (z := (2 : Int32)) rfl ?_
          refine G_icmpNo X40 hx (pc' := 103) rfl (hb hby at_100) (tlt (by decide : (2 : Int32) < (3 : Int32))).2.2.2 ?_
          refine G_aload X40 hx (pc' := 105) rfl (hb hby at_103) rfl rfl ?_
          refine G_iconst X40 hx (pc' := 106) rfl (hb hby at_105) (z := (2 : Int32)) rfl ?_
          refine G_iloadN X40 hx (pc' := 107) rfl (hb hby at_106) rfl ?_
          refine G_iconst X40 hx (pc' := 108) rfl (hb hby at_107) (z := (-1 : Int32)) rfl ?_
          refine G_ixor X40 hx (pc' := 109) rfl (hb hby at_108)  ?_
          refine G_i2b X40 hx (pc' := 110) rfl (hb hby at_109)  ?_
          obtain ⟨T41, h41, X41, e41, W41, A41, st41⟩ := stABn X40 hx hZ e40 A_b0_34_40 (j := (2 : Int32)) (by decide) (show Int32.toNatClampNeg 2 < 3 from by decide) (g := (mkF m 110 #[.val (.int v0), .val (.int v1), .val (.int v2), .val (.int v3), .val (.int v4), .val (.int (3 : Int32)), .val (.ref b0_34), .val (.ref b0_38), .unset] [(.int ((v3 ^^^ (-1 : Int32)).toInt8.toInt32)), (.int (2 : Int32)), (.ref b0_34)])) rfl rfl (hb hby at_110)
          refine Go.st st41 ?_
          have E_b0_34_41 := E_b0_34_40.wr W41
          have E_b0_38_41 := E_b0_38_40.wr W41
          have F_b0_38_bytes_41 := F_b0_38_bytes_40.other W41 (Or.inl (Ne.symm ne_b0_34_b0_38))
          have E_b1_38_41 := E_b1_38_40.wr W41
          have A_b1_38_41 := A_b1_38_40.other W41 (Ne.symm ne_b0_34_b1_38)
          have A_b0_34_41 : AI Z h41 b0_34 .byte [((v1 ^^^ (-1 : Int32)).toInt8.toInt32), ((v2 ^^^ (-1 : Int32)).toInt8.toInt32), ((v3 ^^^ (-1 : Int32)).toInt8.toInt32)] := A41
          have K_41 : Keep h0 h41 [] := K_40.wr W41 (Or.inr sz_b0_34)
          have Z_41 : n0 ≤ h41.size := Nat.le_trans Z0 K_41.1
          have N41 := Fr.snoc X41 N40 g_b0_34
          show Go p e below s _ _ _ T41 (mkF m 111 #[.val (.int v0), .val (.int v1), .val (.int v2), .val (.int v3), .val (.int v4), .val (.int (3 : Int32)), .val (.ref b0_34), .val (.ref b0_38), .unset] [])
          refine G_iload X41 hx (pc' := 113) rfl (hb hby at_111) rfl ?_
          refine G_iconst X41 hx (pc' := 114) rfl (hb hby at_113) (z := (3 : Int32)) rfl ?_
          refine G_icmpYes X41 hx (pc' := 126) (hb hby at_114) (flt (by decide : ¬ ((3 : Int32) < (3 : Int32)))).2.2.2 (by decide) (by decide) ?_
          refine G_aload X41 hx (pc' := 128) rfl (hb hby at_126) rfl rfl ?_
          obtain ⟨cq42, kq42, q42a, q42b, q42c⟩ := isOf hZ e41 E_b0_38_41
          obtain ⟨_, _, ⟨T42, L42, k42, n42⟩, -, X42, ⟨Lc42, hQ42, l42, y42, z42⟩, st42⟩ := X41.virtualBack hx (y := (⟨"com/example/colonwise/colonwise/model/BencodeString", "bytes", "()[B"⟩ : MethodName)) (z := (⟨"com/example/colonwise/colonwise/model/BencodeString", "bytes", "()[B"⟩ : MethodName)) hown (mvT hZ (hw _ (List.mem_of_getElem? (i := 29) rfl))) (mvT hZ (hw _ (List.mem_of_getElem? (i := 30) rfl))) (notFace_of_selects (args := #[]) (mvT hZ (hw _ (List.mem_of_getElem? (i := 32) rfl)))) (mvT hZ (hw _ (List.mem_of_getElem? (i := 32) rfl))) (mvT hZ (hw _ (List.mem_of_getElem? (i := 31) rfl))) (by decide) (backOf (W := 0) (rm_bytes l Z a0 hw [] b0_38 b1_38 [(v1.toInt8.toInt32), (v2.toInt8.toInt32), (v3.toInt8.toInt32)] h41 n0 Z_41 E_b0_38_41 F_b0_38_bytes_41 E_b1_38_41 A_b1_38_41 (by simp)) hZ (hw _ (List.mem_of_getElem? (i := 33) rfl)) (hw _ (List.mem_of_getElem? (i := 8) rfl)) (by decide) (by decide)) q42a q42c (g := (mkF m 128 #[.val (.int v0), .val (.int v1), .val (.int v2), .val (.int v3), .val (.int v4), .val (.int (3 : Int32)), .val (.ref b0_34), .val (.ref b0_38), .unset] [(.ref b0_38)])) rfl (by rw [hml]; rfl) (Steps.refl _) (argsL := []) (rest := []) (lenOf pd_3 rfl) rfl (by show 2 * 0 + _ ≤ _; exact Nat.le_of_eq rfl) (hb hby at_128) (fun _ _ => ⟨rfl, e41, (by decide : 3 + 1 ≤ _), (by decide : 8 + 4 ≤ _)⟩)
          dsimp only [Pt.U, Pt.locs, Pt.cells, Pt.slots] at X42 l42 y42 z42 st42 hQ42
          subst l42 y42 z42
          obtain ⟨b0_42, rfl, N42q, K42, le_b0_42, p42_0, p42_1⟩ := hQ42
          have N42 := Fr.app N41 N42q
          refine Go.st (fun _ k => st42.trans k) ?_
          have ne_b0_34_b0_42 : b0_34 ≠ b0_42 := Nat.ne_of_lt (Nat.lt_of_lt_of_le E_b0_34_41.lt le_b0_42)
          have ne_b0_38_b0_42 : b0_38 ≠ b0_42 := Nat.ne_of_lt (Nat.lt_of_lt_of_le E_b0_38_41.lt le_b0_42)
          have ne_b1_38_b0_42 : b1_38 ≠ b0_42 := Nat.ne_of_lt (Nat.lt_of_lt_of_le E_b1_38_41.lt le_b0_42)
          have g_b0_42 : n0 ≤ b0_42 := Nat.le_trans Z_41 le_b0_42
          have sz_b0_42 : h0.size ≤ b0_42 := Nat.le_trans K_41.1 le_b0_42
          have E_b0_34_42 := E_b0_34_41.keep K42
          have E_b0_38_42 := E_b0_38_41.keep K42
          have F_b0_38_bytes_42 := F_b0_38_bytes_41.keep K42 nin0
          have E_b1_38_42 := E_b1_38_41.keep K42
          have A_b1_38_42 := A_b1_38_41.keep K42 nin0
          have A_b0_34_42 := A_b0_34_41.keep K42 nin0
          have K_42 : Keep h0 T42.heap [] := K_41.trans K42 all0
          have Z_42 : n0 ≤ T42.heap.size := Nat.le_trans Z0 K_42.1
          show Go p e below s _ _ _ T42 (mkF m 131 #[.val (.int v0), .val (.int v1), .val (.int v2), .val (.int v3), .val (.int v4), .val (.int (3 : Int32)), .val (.ref b0_34), .val (.ref b0_38), .unset] [(.ref b0_42)])
          refine G_astore X42 hx (pc' := 133) rfl (hb hby at_131) rfl (L' := #[.val (.int v0), .val (.int v1), .val (.int v2), .val (.int v3), .val (.int v4), .val (.int (3 : Int32)), .val (.ref b0_34), .val (.ref b0_38), .val (.ref b0_42)]) rfl ?_
          refine G_aload X42 hx (pc' := 135) rfl (hb hby at_133) rfl rfl ?_
          refine Go.st (lenAI X42 hx hZ rfl p42_1 (g := (mkF m 135 #[.val (.int v0), .val (.int v1), .val (.int v2), .val (.int v3), .val (.int v4), .val (.int (3 : Int32)), .val (.ref b0_34), .val (.ref b0_38), .val (.ref b0_42)] [(.ref b0_42)])) rfl rfl (hb hby at_135)) ?_
          show Go p e below s _ _ _ T42 (mkF m 136 #[.val (.int v0), .val (.int v1), .val (.int v2), .val (.int v3), .val (.int v4), .val (.int (3 : Int32)), .val (.ref b0_34), .val (.ref b0_38), .val (.ref b0_42)] [(.int (3 : Int32))])
          refine G_iload X42 hx (pc' := 138) rfl (hb hby at_136) rfl ?_
          refine G_icmpNo X42 hx (pc' := 141) rfl (hb hby at_138) (teq (by decide : (3 : Int32) = (3 : Int32))).2 ?_
          refine G_aload X42 hx (pc' := 143) rfl (hb hby at_141) rfl rfl ?_
          obtain ⟨cq43, kq43, q43a, q43b, q43c⟩ := isOf hZ rfl E_b0_38_42
          obtain ⟨_, _, ⟨T43, L43, k43, n43⟩, -, X43, ⟨Lc43, hQ43, l43, y43, z43⟩, st43⟩ := X42.virtualBack hx (y := (⟨"com/example/colonwise/colonwise/model/BencodeString", "length", "()I"⟩ : MethodName)) (z := (⟨"com/example/colonwise/colonwise/model/BencodeString", "length", "()I"⟩ : MethodName)) hown (mvT hZ (hw _ (List.mem_of_getElem? (i := 34) rfl))) (mvT hZ (hw _ (List.mem_of_getElem? (i := 35) rfl))) (notFace_of_selects (args := #[]) (mvT hZ (hw _ (List.mem_of_getElem? (i := 37) rfl)))) (mvT hZ (hw _ (List.mem_of_getElem? (i := 37) rfl))) (mvT hZ (hw _ (List.mem_of_getElem? (i := 36) rfl))) (by decide) (backOf (W := 0) (rm_length l Z a0 hw [] b0_38 b1_38 [(v1.toInt8.toInt32), (v2.toInt8.toInt32), (v3.toInt8.toInt32)] T42.heap n0 Z_42 E_b0_38_42 F_b0_38_bytes_42 A_b1_38_42) hZ (hw _ (List.mem_of_getElem? (i := 38) rfl)) (hw _ (List.mem_of_getElem? (i := 8) rfl)) (by decide) (by decide)) q43a q43c (g := (mkF m 143 #[.val (.int v0), .val (.int v1), .val (.int v2), .val (.int v3), .val (.int v4), .val (.int (3 : Int32)), .val (.ref b0_34), .val (.ref b0_38), .val (.ref b0_42)] [(.ref b0_38)])) rfl (by rw [hml]; rfl) (Steps.refl _) (argsL := []) (rest := []) (lenOf pd_4 rfl) rfl (by show 2 * 0 + _ ≤ _; exact Nat.le_of_eq rfl) (hb hby at_143) (fun _ _ => ⟨rfl, rfl, (by decide : 4 + 0 ≤ _), (by decide : 12 + 0 ≤ _)⟩)
          dsimp only [Pt.U, Pt.locs, Pt.cells, Pt.slots] at X43 l43 y43 z43 st43 hQ43
          subst l43 y43 z43
          obtain ⟨rfl, N43q, e43⟩ := hQ43
          have N43 := Fr.app N42 N43q
          refine Go.st (fun _ k => st43.trans k) ?_
          show Go p e below s _ _ _ T43 (mkF m 146 #[.val (.int v0), .val (.int v1), .val (.int v2), .val (.int v3), .val (.int v4), .val (.int (3 : Int32)), .val (.ref b0_34), .val (.ref b0_38), .val (.ref b0_42)] [(.int (Int32.ofNat ([(v1.toInt8.toInt32), (v2.toInt8.toInt32), (v3.toInt8.toInt32)]).length))])
          refine G_iload X43 hx (pc' := 148) rfl (hb hby at_146) rfl ?_
          refine G_icmpYes X43 hx (pc' := 153) (hb hby at_148) (teq (rfl : (Int32.ofNat ([(v1.toInt8.toInt32), (v2.toInt8.toInt32), (v3.toInt8.toInt32)]).length) = (3 : Int32))).1 (by decide) (by decide) ?_
          refine G_iload X43 hx (pc' := 155) rfl (hb hby at_153) rfl ?_
          refine G_ifNo X43 hx (pc' := 158) rfl (hb hby at_155) ((if0 _ _).trans (tlt (by decide : (0 : Int32) < (3 : Int32))).2.2.2) ?_
          refine G_aload X43 hx (pc' := 160) rfl (hb hby at_158) rfl rfl ?_
          refine G_iconst X43 hx (pc' := 161) rfl (hb hby at_160) (z := (0 : Int32)) rfl ?_
          refine Go.st (ldAB X43 hx hZ e43 p42_1 (j := (0 : Int32)) (by decide) (show Int32.toNatClampNeg 0 < 3 from by decide) (g := (mkF m 161 #[.val (.int v0), .val (.int v1), .val (.int v2), .val (.int v3), .val (.int v4), .val (.int (3 : Int32)), .val (.ref b0_34), .val (.ref b0_38), .val (.ref b0_42)] [(.int (0 : Int32)), (.ref b0_42)])) rfl rfl (hb hby at_161)) ?_
          show Go p e below s _ _ _ T43 (mkF m 162 #[.val (.int v0), .val (.int v1), .val (.int v2), .val (.int v3), .val (.int v4), .val (.int (3 : Int32)), .val (.ref b0_34), .val (.ref b0_38), .val (.ref b0_42)] [(.int (v1.toInt8.toInt32))])
          refine G_iloadN X43 hx (pc' := 163) rfl (hb hby at_162) rfl ?_
          refine G_i2b X43 hx (pc' := 164) rfl (hb hby at_163)  ?_
          refine G_icmpYes X43 hx (pc' := 169) (hb hby at_164) (teq (rfl : (v1.toInt8.toInt32) = (v1.toInt8.toInt32))).1 (by decide) (by decide) ?_
          refine G_iload X43 hx (pc' := 171) rfl (hb hby at_169) rfl ?_
          refine G_iconst X43 hx (pc' := 172) rfl (hb hby at_171) (z := (1 : Int32)) rfl ?_
          refine G_icmpNo X43 hx (pc' := 175) rfl (hb hby at_172) (tlt (by decide : (1 : Int32) < (3 : Int32))).2.2.2 ?_
          refine G_aload X43 hx (pc' := 177) rfl (hb hby at_175) rfl rfl ?_
          refine G_iconst X43 hx (pc' := 178) rfl (hb hby at_177) (z := (1 : Int32)) rfl ?_
          refine Go.st (ldAB X43 hx hZ e43 p42_1 (j := (1 : Int32)) (by decide) (show Int32.toNatClampNeg 1 < 3 from by decide) (g := (mkF m 178 #[.val (.int v0), .val (.int v1), .val (.int v2), .val (.int v3), .val (.int v4), .val (.int (3 : Int32)), .val (.ref b0_34), .val (.ref b0_38), .val (.ref b0_42)] [(.int (1 : Int32)), (.ref b0_42)])) rfl rfl (hb hby at_178)) ?_
          show Go p e below s _ _ _ T43 (mkF m 179 #[.val (.int v0), .val (.int v1), .val (.int v2), .val (.int v3), .val (.int v4), .val (.int (3 : Int32)), .val (.ref b0_34), .val (.ref b0_38), .val (.ref b0_42)] [(.int (v2.toInt8.toInt32))])
          refine G_iloadN X43 hx (pc' := 180) rfl (hb hby at_179) rfl ?_
          refine G_i2b X43 hx (pc' := 181) rfl (hb hby at_180)  ?_
          refine G_icmpYes X43 hx (pc' := 186) (hb hby at_181) (teq (rfl : (v2.toInt8.toInt32) = (v2.toInt8.toInt32))).1 (by decide) (by decide) ?_
          refine G_iload X43 hx (pc' := 188) rfl (hb hby at_186) rfl ?_
          refine G_iconst X43 hx (pc' := 189) rfl (hb hby at_188) (z := (2 : Int32)) rfl ?_
          refine G_icmpNo X43 hx (pc' := 192) rfl (hb hby at_189) (tlt (by decide : (2 : Int32) < (3 : Int32))).2.2.2 ?_
          refine G_aload X43 hx (pc' := 194) rfl (hb hby at_192) rfl rfl ?_
          refine G_iconst X43 hx (pc' := 195) rfl (hb hby at_194) (z := (2 : Int32)) rfl ?_
          refine Go.st (ldAB X43 hx hZ e43 p42_1 (j := (2 : Int32)) (by decide) (show Int32.toNatClampNeg 2 < 3 from by decide) (g := (mkF m 195 #[.val (.int v0), .val (.int v1), .val (.int v2), .val (.int v3), .val (.int v4), .val (.int (3 : Int32)), .val (.ref b0_34), .val (.ref b0_38), .val (.ref b0_42)] [(.int (2 : Int32)), (.ref b0_42)])) rfl rfl (hb hby at_195)) ?_
          show Go p e below s _ _ _ T43 (mkF m 196 #[.val (.int v0), .val (.int v1), .val (.int v2), .val (.int v3), .val (.int v4), .val (.int (3 : Int32)), .val (.ref b0_34), .val (.ref b0_38), .val (.ref b0_42)] [(.int (v3.toInt8.toInt32))])
          refine G_iloadN X43 hx (pc' := 197) rfl (hb hby at_196) rfl ?_
          refine G_i2b X43 hx (pc' := 198) rfl (hb hby at_197)  ?_
          refine G_icmpYes X43 hx (pc' := 203) (hb hby at_198) (teq (rfl : (v3.toInt8.toInt32) = (v3.toInt8.toInt32))).1 (by decide) (by decide) ?_
          refine G_iload X43 hx (pc' := 205) rfl (hb hby at_203) rfl ?_
          refine G_iconst X43 hx (pc' := 206) rfl (hb hby at_205) (z := (3 : Int32)) rfl ?_
          refine G_icmpYes X43 hx (pc' := 221) (hb hby at_206) (flt (by decide : ¬ ((3 : Int32) < (3 : Int32)))).2.2.2 (by decide) (by decide) ?_
          refine G_iconst X43 hx (pc' := 222) rfl (hb hby at_221) (z := (1 : Int32)) rfl ?_
          refine Go.fin X43 hlk (v := some (.int (1 : Int32))) (fun h => by rw [Bd.returns] at h; cases h) (by decide) (by decide) ?_ (fun fs hr => retN X43 hx (t := .boolean) Bd.returns (by simp) (hb hby at_222) hr)
          show Q_law Z v0 v1 v2 v3 v4 h0 n0 _ T43.heap _
          rw [e43]
          exact ⟨congrArg (fun z => some (Value.int z)) (by rw [f_law]; try rw [h_n]; rw [if_neg hk0_1, if_neg hk1_2, if_neg hk2_3, if_pos hk3_4]), N43⟩
        · have hk4_5 : n = (4 : Int32) := (own_last hA hB (by assumption) (by assumption) (by assumption) (by assumption))
          rw [hk4_5]
          refine G_iload X0 hx (pc' := 10) rfl (hb hby at_8) rfl ?_
          obtain ⟨_, _, ⟨T44, L44, k44, n44⟩, -, X44, ⟨Lc44, hQ44, l44, y44, z44⟩, st44⟩ := Jvm.LawKit.callS X0 hx (y := (⟨"com/example/colonwise/colonwise/model/BencodeStringOfPinLaw", "make", "(I)[B"⟩ : MethodName)) hown (mvT hZ (hw _ (List.mem_of_getElem? (i := 1) rfl))) (mvT hZ (hw _ (List.mem_of_getElem? (i := 2) rfl))) (mvT hZ (hw _ (List.mem_of_getElem? (i := 3) rfl))) (mvT hZ (hw _ (List.mem_of_getElem? (i := 4) rfl))) (by decide) (backOf (W := 0) (rm_make4 l Z a0 hw []  h0 n0 Z0 ) hZ (hw _ (List.mem_of_getElem? (i := 4) rfl)) (hw _ (List.mem_of_getElem? (i := 3) rfl)) (by decide) (by decide)) (g := (mkF m 10 #[.val (.int v0), .val (.int v1), .val (.int v2), .val (.int v3), .val (.int v4), .val (.int (4 : Int32)), .unset, .unset, .unset] [(.int (4 : Int32))])) rfl (by rw [hml]; rfl) (argsL := [(.int (4 : Int32))]) (rest := []) (lenOf pd_1 rfl) rfl (by show 2 * 0 + _ ≤ _; exact Nat.le_of_eq rfl) (hb hby at_10) (fun _ _ => ⟨rfl, e0, (by decide : 0 + 1 ≤ _), (by decide : 0 + 4 ≤ _)⟩)
          dsimp only [Pt.U, Pt.locs, Pt.cells, Pt.slots] at X44 l44 y44 z44 st44 hQ44
          subst l44 y44 z44
          obtain ⟨b0_44, rfl, N44q, K44, le_b0_44, p44_0, p44_1⟩ := hQ44
          have N44 := Fr.app N0 N44q
          refine Go.st st44 ?_
          have g_b0_44 : n0 ≤ b0_44 := Nat.le_trans Z0 le_b0_44
          have sz_b0_44 : h0.size ≤ b0_44 := Nat.le_trans (Nat.le_refl _) le_b0_44
          have K_44 : Keep h0 T44.heap [] := (Keep.refl h0 []).trans K44 all0
          have Z_44 : n0 ≤ T44.heap.size := Nat.le_trans Z0 K_44.1
          show Go p e below s _ _ _ T44 (mkF m 13 #[.val (.int v0), .val (.int v1), .val (.int v2), .val (.int v3), .val (.int v4), .val (.int (4 : Int32)), .unset, .unset, .unset] [(.ref b0_44)])
          refine G_astore X44 hx (pc' := 15) rfl (hb hby at_13) rfl (L' := #[.val (.int v0), .val (.int v1), .val (.int v2), .val (.int v3), .val (.int v4), .val (.int (4 : Int32)), .val (.ref b0_44), .unset, .unset]) rfl ?_
          refine G_iload X44 hx (pc' := 17) rfl (hb hby at_15) rfl ?_
          refine G_ifNo X44 hx (pc' := 20) rfl (hb hby at_17) ((if0 _ _).trans (tlt (by decide : (0 : Int32) < (4 : Int32))).2.2.2) ?_
          refine G_aload X44 hx (pc' := 22) rfl (hb hby at_20) rfl rfl ?_
          refine G_iconst X44 hx (pc' := 23) rfl (hb hby at_22) (z := (0 : Int32)) rfl ?_
          refine G_iloadN X44 hx (pc' := 24) rfl (hb hby at_23) rfl ?_
          refine G_i2b X44 hx (pc' := 25) rfl (hb hby at_24)  ?_
          obtain ⟨T45, h45, X45, e45, W45, A45, st45⟩ := stABn X44 hx hZ rfl p44_1 (j := (0 : Int32)) (by decide) (show Int32.toNatClampNeg 0 < 4 from by decide) (g := (mkF m 25 #[.val (.int v0), .val (.int v1), .val (.int v2), .val (.int v3), .val (.int v4), .val (.int (4 : Int32)), .val (.ref b0_44), .unset, .unset] [(.int (v1.toInt8.toInt32)), (.int (0 : Int32)), (.ref b0_44)])) rfl rfl (hb hby at_25)
          refine Go.st st45 ?_
          have E_b0_44_45 := p44_0.wr W45
          have A_b0_44_45 : AI Z h45 b0_44 .byte [(v1.toInt8.toInt32), (0 : Int32), (0 : Int32), (0 : Int32)] := A45
          have K_45 : Keep h0 h45 [] := K_44.wr W45 (Or.inr sz_b0_44)
          have Z_45 : n0 ≤ h45.size := Nat.le_trans Z0 K_45.1
          have N45 := Fr.snoc X45 N44 g_b0_44
          show Go p e below s _ _ _ T45 (mkF m 26 #[.val (.int v0), .val (.int v1), .val (.int v2), .val (.int v3), .val (.int v4), .val (.int (4 : Int32)), .val (.ref b0_44), .unset, .unset] [])
          refine G_iload X45 hx (pc' := 28) rfl (hb hby at_26) rfl ?_
          refine G_iconst X45 hx (pc' := 29) rfl (hb hby at_28) (z := (1 : Int32)) rfl ?_
          refine G_icmpNo X45 hx (pc' := 32) rfl (hb hby at_29) (tlt (by decide : (1 : Int32) < (4 : Int32))).2.2.2 ?_
          refine G_aload X45 hx (pc' := 34) rfl (hb hby at_32) rfl rfl ?_
          refine G_iconst X45 hx (pc' := 35) rfl (hb hby at_34) (z := (1 : Int32)) rfl ?_
          refine G_iloadN X45 hx (pc' := 36) rfl (hb hby at_35) rfl ?_
          refine G_i2b X45 hx (pc' := 37) rfl (hb hby at_36)  ?_
          obtain ⟨T46, h46, X46, e46, W46, A46, st46⟩ := stABn X45 hx hZ e45 A_b0_44_45 (j := (1 : Int32)) (by decide) (show Int32.toNatClampNeg 1 < 4 from by decide) (g := (mkF m 37 #[.val (.int v0), .val (.int v1), .val (.int v2), .val (.int v3), .val (.int v4), .val (.int (4 : Int32)), .val (.ref b0_44), .unset, .unset] [(.int (v2.toInt8.toInt32)), (.int (1 : Int32)), (.ref b0_44)])) rfl rfl (hb hby at_37)
          refine Go.st st46 ?_
          have E_b0_44_46 := E_b0_44_45.wr W46
          have A_b0_44_46 : AI Z h46 b0_44 .byte [(v1.toInt8.toInt32), (v2.toInt8.toInt32), (0 : Int32), (0 : Int32)] := A46
          have K_46 : Keep h0 h46 [] := K_45.wr W46 (Or.inr sz_b0_44)
          have Z_46 : n0 ≤ h46.size := Nat.le_trans Z0 K_46.1
          have N46 := Fr.snoc X46 N45 g_b0_44
          show Go p e below s _ _ _ T46 (mkF m 38 #[.val (.int v0), .val (.int v1), .val (.int v2), .val (.int v3), .val (.int v4), .val (.int (4 : Int32)), .val (.ref b0_44), .unset, .unset] [])
          refine G_iload X46 hx (pc' := 40) rfl (hb hby at_38) rfl ?_
          refine G_iconst X46 hx (pc' := 41) rfl (hb hby at_40) (z := (2 : Int32)) rfl ?_
          refine G_icmpNo X46 hx (pc' := 44) rfl (hb hby at_41) (tlt (by decide : (2 : Int32) < (4 : Int32))).2.2.2 ?_
          refine G_aload X46 hx (pc' := 46) rfl (hb hby at_44) rfl rfl ?_
          refine G_iconst X46 hx (pc' := 47) rfl (hb hby at_46) (z := (2 : Int32)) rfl ?_
          refine G_iloadN X46 hx (pc' := 48) rfl (hb hby at_47) rfl ?_
          refine G_i2b X46 hx (pc' := 49) rfl (hb hby at_48)  ?_
          obtain ⟨T47, h47, X47, e47, W47, A47, st47⟩ := stABn X46 hx hZ e46 A_b0_44_46 (j := (2 : Int32)) (by decide) (show Int32.toNatClampNeg 2 < 4 from by decide) (g := (mkF m 49 #[.val (.int v0), .val (.int v1), .val (.int v2), .val (.int v3), .val (.int v4), .val (.int (4 : Int32)), .val (.ref b0_44), .unset, .unset] [(.int (v3.toInt8.toInt32)), (.int (2 : Int32)), (.ref b0_44)])) rfl rfl (hb hby at_49)
          refine Go.st st47 ?_
          have E_b0_44_47 := E_b0_44_46.wr W47
          have A_b0_44_47 : AI Z h47 b0_44 .byte [(v1.toInt8.toInt32), (v2.toInt8.toInt32), (v3.toInt8.toInt32), (0 : Int32)] := A47
          have K_47 : Keep h0 h47 [] := K_46.wr W47 (Or.inr sz_b0_44)
          have Z_47 : n0 ≤ h47.size := Nat.le_trans Z0 K_47.1
          have N47 := Fr.snoc X47 N46 g_b0_44
          show Go p e below s _ _ _ T47 (mkF m 50 #[.val (.int v0), .val (.int v1), .val (.int v2), .val (.int v3), .val (.int v4), .val (.int (4 : Int32)), .val (.ref b0_44), .unset, .unset] [])
          refine G_iload X47 hx (pc' := 52) rfl (hb hby at_50) rfl ?_
          refine G_iconst X47 hx (pc' := 53) rfl (hb hby at_52) (z := (3 : Int32)) rfl ?_
          refine G_icmpNo X47 hx (pc' := 56) rfl (hb hby at_53) (tlt (by decide : (3 : Int32) < (4 : Int32))).2.2.2 ?_
          refine G_aload X47 hx (pc' := 58) rfl (hb hby at_56) rfl rfl ?_
          refine G_iconst X47 hx (pc' := 59) rfl (hb hby at_58) (z := (3 : Int32)) rfl ?_
          refine G_iload X47 hx (pc' := 61) rfl (hb hby at_59) rfl ?_
          refine G_i2b X47 hx (pc' := 62) rfl (hb hby at_61)  ?_
          obtain ⟨T48, h48, X48, e48, W48, A48, st48⟩ := stABn X47 hx hZ e47 A_b0_44_47 (j := (3 : Int32)) (by decide) (show Int32.toNatClampNeg 3 < 4 from by decide) (g := (mkF m 62 #[.val (.int v0), .val (.int v1), .val (.int v2), .val (.int v3), .val (.int v4), .val (.int (4 : Int32)), .val (.ref b0_44), .unset, .unset] [(.int (v4.toInt8.toInt32)), (.int (3 : Int32)), (.ref b0_44)])) rfl rfl (hb hby at_62)
          refine Go.st st48 ?_
          have E_b0_44_48 := E_b0_44_47.wr W48
          have A_b0_44_48 : AI Z h48 b0_44 .byte [(v1.toInt8.toInt32), (v2.toInt8.toInt32), (v3.toInt8.toInt32), (v4.toInt8.toInt32)] := A48
          have K_48 : Keep h0 h48 [] := K_47.wr W48 (Or.inr sz_b0_44)
          have Z_48 : n0 ≤ h48.size := Nat.le_trans Z0 K_48.1
          have N48 := Fr.snoc X48 N47 g_b0_44
          show Go p e below s _ _ _ T48 (mkF m 63 #[.val (.int v0), .val (.int v1), .val (.int v2), .val (.int v3), .val (.int v4), .val (.int (4 : Int32)), .val (.ref b0_44), .unset, .unset] [])
          refine G_aload X48 hx (pc' := 65) rfl (hb hby at_63) rfl rfl ?_
          obtain ⟨_, _, ⟨T49, L49, k49, n49⟩, -, X49, ⟨Lc49, hQ49, l49, y49, z49⟩, st49⟩ := Jvm.LawKit.callS X48 hx (y := (⟨"com/example/colonwise/colonwise/model/BencodeString", "of", "([B)Lcom/example/colonwise/colonwise/model/BencodeString;"⟩ : MethodName)) hown (mvT hZ (hw _ (List.mem_of_getElem? (i := 6) rfl))) (mvT hZ (hw _ (List.mem_of_getElem? (i := 7) rfl))) (mvT hZ (hw _ (List.mem_of_getElem? (i := 8) rfl))) (mvT hZ (hw _ (List.mem_of_getElem? (i := 9) rfl))) (by decide) (backOf (W := 0) (rm_of l Z a0 hw [] b0_44 [(v1.toInt8.toInt32), (v2.toInt8.toInt32), (v3.toInt8.toInt32), (v4.toInt8.toInt32)] h48 n0 Z_48 E_b0_44_48 A_b0_44_48 (by simp)) hZ (hw _ (List.mem_of_getElem? (i := 9) rfl)) (hw _ (List.mem_of_getElem? (i := 8) rfl)) (by decide) (by decide)) (g := (mkF m 65 #[.val (.int v0), .val (.int v1), .val (.int v2), .val (.int v3), .val (.int v4), .val (.int (4 : Int32)), .val (.ref b0_44), .unset, .unset] [(.ref b0_44)])) rfl (by rw [hml]; rfl) (argsL := [(.ref b0_44)]) (rest := []) (lenOf pd_2 rfl) rfl (by show 2 * 0 + _ ≤ _; exact Nat.le_of_eq rfl) (hb hby at_65) (fun _ _ => ⟨rfl, e48, (by decide : 1 + 2 ≤ _), (by decide : 4 + 5 ≤ _)⟩)
          dsimp only [Pt.U, Pt.locs, Pt.cells, Pt.slots] at X49 l49 y49 z49 st49 hQ49
          subst l49 y49 z49
          obtain ⟨b0_49, b1_49, rfl, N49q, K49, le_b0_49, le_b1_49, p49_0, p49_1, p49_2, p49_3, p49_4⟩ := hQ49
          have N49 := Fr.app N48 N49q
          refine Go.st st49 ?_
          have ne_b0_44_b0_49 : b0_44 ≠ b0_49 := Nat.ne_of_lt (Nat.lt_of_lt_of_le E_b0_44_48.lt le_b0_49)
          have g_b0_49 : n0 ≤ b0_49 := Nat.le_trans Z_48 le_b0_49
          have sz_b0_49 : h0.size ≤ b0_49 := Nat.le_trans K_48.1 le_b0_49
          have ne_b0_44_b1_49 : b0_44 ≠ b1_49 := Nat.ne_of_lt (Nat.lt_of_lt_of_le E_b0_44_48.lt le_b1_49)
          have g_b1_49 : n0 ≤ b1_49 := Nat.le_trans Z_48 le_b1_49
          have sz_b1_49 : h0.size ≤ b1_49 := Nat.le_trans K_48.1 le_b1_49
          have E_b0_44_49 := E_b0_44_48.keep K49
          have A_b0_44_49 := A_b0_44_48.keep K49 nin0
          have K_49 : Keep h0 T49.heap [] := K_48.trans K49 all0
          have Z_49 : n0 ≤ T49.heap.size := Nat.le_trans Z0 K_49.1
          show Go p e below s _ _ _ T49 (mkF m 68 #[.val (.int v0), .val (.int v1), .val (.int v2), .val (.int v3), .val (.int v4), .val (.int (4 : Int32)), .val (.ref b0_44), .unset, .unset] [(.ref b0_49)])
          refine G_astore X49 hx (pc' := 70) rfl (hb hby at_68) rfl (L' := #[.val (.int v0), .val (.int v1), .val (.int v2), .val (.int v3), .val (.int v4), .val (.int (4 : Int32)), .val (.ref b0_44), .val (.ref b0_49), .unset]) rfl ?_
          refine G_iload X49 hx (pc' := 72) rfl (hb hby at_70) rfl ?_
          refine G_ifNo X49 hx (pc' := 75) rfl (hb hby at_72) ((if0 _ _).trans (tlt (by decide : (0 : Int32) < (4 : Int32))).2.2.2) ?_
          refine G_aload X49 hx (pc' := 77) rfl (hb hby at_75) rfl rfl ?_
          refine G_iconst X49 hx (pc' := 78) rfl (hb hby at_77) (z := (0 : Int32)) rfl ?_
          refine G_iloadN X49 hx (pc' := 79) rfl (hb hby at_78) rfl ?_
          refine G_iconst X49 hx (pc' := 80) rfl (hb hby at_79) (z := (-1 : Int32)) rfl ?_
          refine G_ixor X49 hx (pc' := 81) rfl (hb hby at_80)  ?_
          refine G_i2b X49 hx (pc' := 82) rfl (hb hby at_81)  ?_
          obtain ⟨T50, h50, X50, e50, W50, A50, st50⟩ := stABn X49 hx hZ rfl A_b0_44_49 (j := (0 : Int32)) (by decide) (show Int32.toNatClampNeg 0 < 4 from by decide) (g := (mkF m 82 #[.val (.int v0), .val (.int v1), .val (.int v2), .val (.int v3), .val (.int v4), .val (.int (4 : Int32)), .val (.ref b0_44), .val (.ref b0_49), .unset] [(.int ((v1 ^^^ (-1 : Int32)).toInt8.toInt32)), (.int (0 : Int32)), (.ref b0_44)])) rfl rfl (hb hby at_82)
          refine Go.st st50 ?_
          have E_b0_44_50 := E_b0_44_49.wr W50
          have E_b0_49_50 := p49_0.wr W50
          have F_b0_49_bytes_50 := p49_1.other W50 (Or.inl (Ne.symm ne_b0_44_b0_49))
          have E_b1_49_50 := p49_2.wr W50
          have A_b1_49_50 := p49_3.other W50 (Ne.symm ne_b0_44_b1_49)
          have A_b0_44_50 : AI Z h50 b0_44 .byte [((v1 ^^^ (-1 : Int32)).toInt8.toInt32), (v2.toInt8.toInt32), (v3.toInt8.toInt32), (v4.toInt8.toInt32)] := A50
          have K_50 : Keep h0 h50 [] := K_49.wr W50 (Or.inr sz_b0_44)
          have Z_50 : n0 ≤ h50.size := Nat.le_trans Z0 K_50.1
          have N50 := Fr.snoc X50 N49 g_b0_44
          show Go p e below s _ _ _ T50 (mkF m 83 #[.val (.int v0), .val (.int v1), .val (.int v2), .val (.int v3), .val (.int v4), .val (.int (4 : Int32)), .val (.ref b0_44), .val (.ref b0_49), .unset] [])
          refine G_iload X50 hx (pc' := 85) rfl (hb hby at_83) rfl ?_
          refine G_iconst X50 hx (pc' := 86) rfl (hb hby at_85) (z := (1 : Int32)) rfl ?_
          refine G_icmpNo X50 hx (pc' := 89) rfl (hb hby at_86) (tlt (by decide : (1 : Int32) < (4 : Int32))).2.2.2 ?_
          refine G_aload X50 hx (pc' := 91) rfl (hb hby at_89) rfl rfl ?_
          refine G_iconst X50 hx (pc' := 92) rfl (hb hby at_91) (z := (1 : Int32)) rfl ?_
          refine G_iloadN X50 hx (pc' := 93) rfl (hb hby at_92) rfl ?_
          refine G_iconst X50 hx (pc' := 94) rfl (hb hby at_93) (z := (-1 : Int32)) rfl ?_
          refine G_ixor X50 hx (pc' := 95) rfl (hb hby at_94)  ?_
          refine G_i2b X50 hx (pc' := 96) rfl (hb hby at_95)  ?_
          obtain ⟨T51, h51, X51, e51, W51, A51, st51⟩ := stABn X50 hx hZ e50 A_b0_44_50 (j := (1 : Int32)) (by decide) (show Int32.toNatClampNeg 1 < 4 from by decide) (g := (mkF m 96 #[.val (.int v0), .val (.int v1), .val (.int v2), .val (.int v3), .val (.int v4), .val (.int (4 : Int32)), .val (.ref b0_44), .val (.ref b0_49), .unset] [(.int ((v2 ^^^ (-1 : Int32)).toInt8.toInt32)), (.int (1 : Int32)), (.ref b0_44)])) rfl rfl (hb hby at_96)
          refine Go.st st51 ?_
          have E_b0_44_51 := E_b0_44_50.wr W51
          have E_b0_49_51 := E_b0_49_50.wr W51
          have F_b0_49_bytes_51 := F_b0_49_bytes_50.other W51 (Or.inl (Ne.symm ne_b0_44_b0_49))
          have E_b1_49_51 := E_b1_49_50.wr W51
          have A_b1_49_51 := A_b1_49_50.other W51 (Ne.symm ne_b0_44_b1_49)
          have A_b0_44_51 : AI Z h51 b0_44 .byte [((v1 ^^^ (-1 : Int32)).toInt8.toInt32), ((v2 ^^^ (-1 : Int32)).toInt8.toInt32), (v3.toInt8.toInt32), (v4.toInt8.toInt32)] := A51
          have K_51 : Keep h0 h51 [] := K_50.wr W51 (Or.inr sz_b0_44)
          have Z_51 : n0 ≤ h51.size := Nat.le_trans Z0 K_51.1
          have N51 := Fr.snoc X51 N50 g_b0_44
          show Go p e below s _ _ _ T51 (mkF m 97 #[.val (.int v0), .val (.int v1), .val (.int v2), .val (.int v3), .val (.int v4), .val (.int (4 : Int32)), .val (.ref b0_44), .val (.ref b0_49), .unset] [])
          refine G_iload X51 hx (pc' := 99) rfl (hb hby at_97) rfl ?_
          refine G_iconst X51 hx (pc' := 100) rfl (hb hby at_99) (z := (2 : Int32)) rfl ?_
          refine G_icmpNo X51 hx (pc' := 103) rfl (hb hby at_100) (tlt (by decide : (2 : Int32) < (4 : Int32))).2.2.2 ?_
          refine G_aload X51 hx (pc' := 105) rfl (hb hby at_103) rfl rfl ?_
          refine G_iconst X51 hx (pc' := 106) rfl (hb hby at_105) (z := (2 : Int32)) rfl ?_
          refine G_iloadN X51 hx (pc' := 107) rfl (hb hby at_106) rfl ?_
          refine G_iconst X51 hx (pc' := 108) rfl (hb hby at_107) (z := (-1 : Int32)) rfl ?_
          refine G_ixor X51 hx (pc' := 109) rfl (hb hby at_108)  ?_
          refine G_i2b X51 hx (pc' := 110) rfl (hb hby at_109)  ?_
          obtain ⟨T52, h52, X52, e52, W52, A52, st52⟩ := stABn X51 hx hZ e51 A_b0_44_51 (j := (2 : Int32)) (by decide) (show Int32.toNatClampNeg 2 < 4 from by decide) (g := (mkF m 110 #[.val (.int v0), .val (.int v1), .val (.int v2), .val (.int v3), .val (.int v4), .val (.int (4 : Int32)), .val (.ref b0_44), .val (.ref b0_49), .unset] [(.int ((v3 ^^^ (-1 : Int32)).toInt8.toInt32)), (.int (2 : Int32)), (.ref b0_44)])) rfl rfl (hb hby at_110)
          refine Go.st st52 ?_
          have E_b0_44_52 := E_b0_44_51.wr W52
          have E_b0_49_52 := E_b0_49_51.wr W52
          have F_b0_49_bytes_52 := F_b0_49_bytes_51.other W52 (Or.inl (Ne.symm ne_b0_44_b0_49))
          have E_b1_49_52 := E_b1_49_51.wr W52
          have A_b1_49_52 := A_b1_49_51.other W52 (Ne.symm ne_b0_44_b1_49)
          have A_b0_44_52 : AI Z h52 b0_44 .byte [((v1 ^^^ (-1 : Int32)).toInt8.toInt32), ((v2 ^^^ (-1 : Int32)).toInt8.toInt32), ((v3 ^^^ (-1 : Int32)).toInt8.toInt32), (v4.toInt8.toInt32)] := A52
          have K_52 : Keep h0 h52 [] := K_51.wr W52 (Or.inr sz_b0_44)
          have Z_52 : n0 ≤ h52.size := Nat.le_trans Z0 K_52.1
          have N52 := Fr.snoc X52 N51 g_b0_44
          show Go p e below s _ _ _ T52 (mkF m 111 #[.val (.int v0), .val (.int v1), .val (.int v2), .val (.int v3), .val (.int v4), .val (.int (4 : Int32)), .val (.ref b0_44), .val (.ref b0_49), .unset] [])
          refine G_iload X52 hx (pc' := 113) rfl (hb hby at_111) rfl ?_
          refine G_iconst X52 hx (pc' := 114) rfl (hb hby at_113) (z := (3 : Int32)) rfl ?_
          refine G_icmpNo X52 hx (pc' := 117) rfl (hb hby at_114) (tlt (by decide : (3 : Int32) < (4 : Int32))).2.2.2 ?_
          refine G_aload X52 hx (pc' := 119) rfl (hb hby at_117) rfl rfl ?_
          refine G_iconst X52 hx (pc' := 120) rfl (hb hby at_119) (z := (3 : Int32)) rfl ?_
          refine G_iload X52 hx (pc' := 122) rfl (hb hby at_120) rfl ?_
          refine G_iconst X52 hx (pc' := 123) rfl (hb hby at_122) (z := (-1 : Int32)) rfl ?_
          refine G_ixor X52 hx (pc' := 124) rfl (hb hby at_123)  ?_
          refine G_i2b X52 hx (pc' := 125) rfl (hb hby at_124)  ?_
          obtain ⟨T53, h53, X53, e53, W53, A53, st53⟩ := stABn X52 hx hZ e52 A_b0_44_52 (j := (3 : Int32)) (by decide) (show Int32.toNatClampNeg 3 < 4 from by decide) (g := (mkF m 125 #[.val (.int v0), .val (.int v1), .val (.int v2), .val (.int v3), .val (.int v4), .val (.int (4 : Int32)), .val (.ref b0_44), .val (.ref b0_49), .unset] [(.int ((v4 ^^^ (-1 : Int32)).toInt8.toInt32)), (.int (3 : Int32)), (.ref b0_44)])) rfl rfl (hb hby at_125)
          refine Go.st st53 ?_
          have E_b0_44_53 := E_b0_44_52.wr W53
          have E_b0_49_53 := E_b0_49_52.wr W53
          have F_b0_49_bytes_53 := F_b0_49_bytes_52.other W53 (Or.inl (Ne.symm ne_b0_44_b0_49))
          have E_b1_49_53 := E_b1_49_52.wr W53
          have A_b1_49_53 := A_b1_49_52.other W53 (Ne.symm ne_b0_44_b1_49)
          have A_b0_44_53 : AI Z h53 b0_44 .byte [((v1 ^^^ (-1 : Int32)).toInt8.toInt32), ((v2 ^^^ (-1 : Int32)).toInt8.toInt32), ((v3 ^^^ (-1 : Int32)).toInt8.toInt32), ((v4 ^^^ (-1 : Int32)).toInt8.toInt32)] := A53
          have K_53 : Keep h0 h53 [] := K_52.wr W53 (Or.inr sz_b0_44)
          have Z_53 : n0 ≤ h53.size := Nat.le_trans Z0 K_53.1
          have N53 := Fr.snoc X53 N52 g_b0_44
          show Go p e below s _ _ _ T53 (mkF m 126 #[.val (.int v0), .val (.int v1), .val (.int v2), .val (.int v3), .val (.int v4), .val (.int (4 : Int32)), .val (.ref b0_44), .val (.ref b0_49), .unset] [])
          refine G_aload X53 hx (pc' := 128) rfl (hb hby at_126) rfl rfl ?_
          obtain ⟨cq54, kq54, q54a, q54b, q54c⟩ := isOf hZ e53 E_b0_49_53
          obtain ⟨_, _, ⟨T54, L54, k54, n54⟩, -, X54, ⟨Lc54, hQ54, l54, y54, z54⟩, st54⟩ := X53.virtualBack hx (y := (⟨"com/example/colonwise/colonwise/model/BencodeString", "bytes", "()[B"⟩ : MethodName)) (z := (⟨"com/example/colonwise/colonwise/model/BencodeString", "bytes", "()[B"⟩ : MethodName)) hown (mvT hZ (hw _ (List.mem_of_getElem? (i := 29) rfl))) (mvT hZ (hw _ (List.mem_of_getElem? (i := 30) rfl))) (notFace_of_selects (args := #[]) (mvT hZ (hw _ (List.mem_of_getElem? (i := 32) rfl)))) (mvT hZ (hw _ (List.mem_of_getElem? (i := 32) rfl))) (mvT hZ (hw _ (List.mem_of_getElem? (i := 31) rfl))) (by decide) (backOf (W := 0) (rm_bytes l Z a0 hw [] b0_49 b1_49 [(v1.toInt8.toInt32), (v2.toInt8.toInt32), (v3.toInt8.toInt32), (v4.toInt8.toInt32)] h53 n0 Z_53 E_b0_49_53 F_b0_49_bytes_53 E_b1_49_53 A_b1_49_53 (by simp)) hZ (hw _ (List.mem_of_getElem? (i := 33) rfl)) (hw _ (List.mem_of_getElem? (i := 8) rfl)) (by decide) (by decide)) q54a q54c (g := (mkF m 128 #[.val (.int v0), .val (.int v1), .val (.int v2), .val (.int v3), .val (.int v4), .val (.int (4 : Int32)), .val (.ref b0_44), .val (.ref b0_49), .unset] [(.ref b0_49)])) rfl (by rw [hml]; rfl) (Steps.refl _) (argsL := []) (rest := []) (lenOf pd_3 rfl) rfl (by show 2 * 0 + _ ≤ _; exact Nat.le_of_eq rfl) (hb hby at_128) (fun _ _ => ⟨rfl, e53, (by decide : 3 + 1 ≤ _), (by decide : 9 + 4 ≤ _)⟩)
          dsimp only [Pt.U, Pt.locs, Pt.cells, Pt.slots] at X54 l54 y54 z54 st54 hQ54
          subst l54 y54 z54
          obtain ⟨b0_54, rfl, N54q, K54, le_b0_54, p54_0, p54_1⟩ := hQ54
          have N54 := Fr.app N53 N54q
          refine Go.st (fun _ k => st54.trans k) ?_
          have ne_b0_44_b0_54 : b0_44 ≠ b0_54 := Nat.ne_of_lt (Nat.lt_of_lt_of_le E_b0_44_53.lt le_b0_54)
          have ne_b0_49_b0_54 : b0_49 ≠ b0_54 := Nat.ne_of_lt (Nat.lt_of_lt_of_le E_b0_49_53.lt le_b0_54)
          have ne_b1_49_b0_54 : b1_49 ≠ b0_54 := Nat.ne_of_lt (Nat.lt_of_lt_of_le E_b1_49_53.lt le_b0_54)
          have g_b0_54 : n0 ≤ b0_54 := Nat.le_trans Z_53 le_b0_54
          have sz_b0_54 : h0.size ≤ b0_54 := Nat.le_trans K_53.1 le_b0_54
          have E_b0_44_54 := E_b0_44_53.keep K54
          have E_b0_49_54 := E_b0_49_53.keep K54
          have F_b0_49_bytes_54 := F_b0_49_bytes_53.keep K54 nin0
          have E_b1_49_54 := E_b1_49_53.keep K54
          have A_b1_49_54 := A_b1_49_53.keep K54 nin0
          have A_b0_44_54 := A_b0_44_53.keep K54 nin0
          have K_54 : Keep h0 T54.heap [] := K_53.trans K54 all0
          have Z_54 : n0 ≤ T54.heap.size := Nat.le_trans Z0 K_54.1
          show Go p e below s _ _ _ T54 (mkF m 131 #[.val (.int v0), .val (.int v1), .val (.int v2), .val (.int v3), .val (.int v4), .val (.int (4 : Int32)), .val (.ref b0_44), .val (.ref b0_49), .unset] [(.ref b0_54)])
          refine G_astore X54 hx (pc' := 133) rfl (hb hby at_131) rfl (L' := #[.val (.int v0), .val (.int v1), .val (.int v2), .val (.int v3), .val (.int v4), .val (.int (4 : Int32)), .val (.ref b0_44), .val (.ref b0_49), .val (.ref b0_54)]) rfl ?_
          refine G_aload X54 hx (pc' := 135) rfl (hb hby at_133) rfl rfl ?_
          refine Go.st (lenAI X54 hx hZ rfl p54_1 (g := (mkF m 135 #[.val (.int v0), .val (.int v1), .val (.int v2), .val (.int v3), .val (.int v4), .val (.int (4 : Int32)), .val (.ref b0_44), .val (.ref b0_49), .val (.ref b0_54)] [(.ref b0_54)])) rfl rfl (hb hby at_135)) ?_
          show Go p e below s _ _ _ T54 (mkF m 136 #[.val (.int v0), .val (.int v1), .val (.int v2), .val (.int v3), .val (.int v4), .val (.int (4 : Int32)), .val (.ref b0_44), .val (.ref b0_49), .val (.ref b0_54)] [(.int (4 : Int32))])
          refine G_iload X54 hx (pc' := 138) rfl (hb hby at_136) rfl ?_
          refine G_icmpNo X54 hx (pc' := 141) rfl (hb hby at_138) (teq (by decide : (4 : Int32) = (4 : Int32))).2 ?_
          refine G_aload X54 hx (pc' := 143) rfl (hb hby at_141) rfl rfl ?_
          obtain ⟨cq55, kq55, q55a, q55b, q55c⟩ := isOf hZ rfl E_b0_49_54
          obtain ⟨_, _, ⟨T55, L55, k55, n55⟩, -, X55, ⟨Lc55, hQ55, l55, y55, z55⟩, st55⟩ := X54.virtualBack hx (y := (⟨"com/example/colonwise/colonwise/model/BencodeString", "length", "()I"⟩ : MethodName)) (z := (⟨"com/example/colonwise/colonwise/model/BencodeString", "length", "()I"⟩ : MethodName)) hown (mvT hZ (hw _ (List.mem_of_getElem? (i := 34) rfl))) (mvT hZ (hw _ (List.mem_of_getElem? (i := 35) rfl))) (notFace_of_selects (args := #[]) (mvT hZ (hw _ (List.mem_of_getElem? (i := 37) rfl)))) (mvT hZ (hw _ (List.mem_of_getElem? (i := 37) rfl))) (mvT hZ (hw _ (List.mem_of_getElem? (i := 36) rfl))) (by decide) (backOf (W := 0) (rm_length l Z a0 hw [] b0_49 b1_49 [(v1.toInt8.toInt32), (v2.toInt8.toInt32), (v3.toInt8.toInt32), (v4.toInt8.toInt32)] T54.heap n0 Z_54 E_b0_49_54 F_b0_49_bytes_54 A_b1_49_54) hZ (hw _ (List.mem_of_getElem? (i := 38) rfl)) (hw _ (List.mem_of_getElem? (i := 8) rfl)) (by decide) (by decide)) q55a q55c (g := (mkF m 143 #[.val (.int v0), .val (.int v1), .val (.int v2), .val (.int v3), .val (.int v4), .val (.int (4 : Int32)), .val (.ref b0_44), .val (.ref b0_49), .val (.ref b0_54)] [(.ref b0_49)])) rfl (by rw [hml]; rfl) (Steps.refl _) (argsL := []) (rest := []) (lenOf pd_4 rfl) rfl (by show 2 * 0 + _ ≤ _; exact Nat.le_of_eq rfl) (hb hby at_143) (fun _ _ => ⟨rfl, rfl, (by decide : 4 + 0 ≤ _), (by decide : 13 + 0 ≤ _)⟩)
          dsimp only [Pt.U, Pt.locs, Pt.cells, Pt.slots] at X55 l55 y55 z55 st55 hQ55
          subst l55 y55 z55
          obtain ⟨rfl, N55q, e55⟩ := hQ55
          have N55 := Fr.app N54 N55q
          refine Go.st (fun _ k => st55.trans k) ?_
          show Go p e below s _ _ _ T55 (mkF m 146 #[.val (.int v0), .val (.int v1), .val (.int v2), .val (.int v3), .val (.int v4), .val (.int (4 : Int32)), .val (.ref b0_44), .val (.ref b0_49), .val (.ref b0_54)] [(.int (Int32.ofNat ([(v1.toInt8.toInt32), (v2.toInt8.toInt32), (v3.toInt8.toInt32), (v4.toInt8.toInt32)]).length))])
          refine G_iload X55 hx (pc' := 148) rfl (hb hby at_146) rfl ?_
          refine G_icmpYes X55 hx (pc' := 153) (hb hby at_148) (teq (rfl : (Int32.ofNat ([(v1.toInt8.toInt32), (v2.toInt8.toInt32), (v3.toInt8.toInt32), (v4.toInt8.toInt32)]).length) = (4 : Int32))).1 (by decide) (by decide) ?_
          refine G_iload X55 hx (pc' := 155) rfl (hb hby at_153) rfl ?_
          refine G_ifNo X55 hx (pc' := 158) rfl (hb hby at_155) ((if0 _ _).trans (tlt (by decide : (0 : Int32) < (4 : Int32))).2.2.2) ?_
          refine G_aload X55 hx (pc' := 160) rfl (hb hby at_158) rfl rfl ?_
          refine G_iconst X55 hx (pc' := 161) rfl (hb hby at_160) (z := (0 : Int32)) rfl ?_
          refine Go.st (ldAB X55 hx hZ e55 p54_1 (j := (0 : Int32)) (by decide) (show Int32.toNatClampNeg 0 < 4 from by decide) (g := (mkF m 161 #[.val (.int v0), .val (.int v1), .val (.int v2), .val (.int v3), .val (.int v4), .val (.int (4 : Int32)), .val (.ref b0_44), .val (.ref b0_49), .val (.ref b0_54)] [(.int (0 : Int32)), (.ref b0_54)])) rfl rfl (hb hby at_161)) ?_
          show Go p e below s _ _ _ T55 (mkF m 162 #[.val (.int v0), .val (.int v1), .val (.int v2), .val (.int v3), .val (.int v4), .val (.int (4 : Int32)), .val (.ref b0_44), .val (.ref b0_49), .val (.ref b0_54)] [(.int (v1.toInt8.toInt32))])
          refine G_iloadN X55 hx (pc' := 163) rfl (hb hby at_162) rfl ?_
          refine G_i2b X55 hx (pc' := 164) rfl (hb hby at_163)  ?_
          refine G_icmpYes X55 hx (pc' := 169) (hb hby at_164) (teq (rfl : (v1.toInt8.toInt32) = (v1.toInt8.toInt32))).1 (by decide) (by decide) ?_
          refine G_iload X55 hx (pc' := 171) rfl (hb hby at_169) rfl ?_
          refine G_iconst X55 hx (pc' := 172) rfl (hb hby at_171) (z := (1 : Int32)) rfl ?_
          refine G_icmpNo X55 hx (pc' := 175) rfl (hb hby at_172) (tlt (by decide : (1 : Int32) < (4 : Int32))).2.2.2 ?_
          refine G_aload X55 hx (pc' := 177) rfl (hb hby at_175) rfl rfl ?_
          refine G_iconst X55 hx (pc' := 178) rfl (hb hby at_177) (z := (1 : Int32)) rfl ?_
          refine Go.st (ldAB X55 hx hZ e55 p54_1 (j := (1 : Int32)) (by decide) (show Int32.toNatClampNeg 1 < 4 from by decide) (g := (mkF m 178 #[.val (.int v0), .val (.int v1), .val (.int v2), .val (.int v3), .val (.int v4), .val (.int (4 : Int32)), .val (.ref b0_44), .val (.ref b0_49), .val (.ref b0_54)] [(.int (1 : Int32)), (.ref b0_54)])) rfl rfl (hb hby at_178)) ?_
          show Go p e below s _ _ _ T55 (mkF m 179 #[.val (.int v0), .val (.int v1), .val (.int v2), .val (.int v3), .val (.int v4), .val (.int (4 : Int32)), .val (.ref b0_44), .val (.ref b0_49), .val (.ref b0_54)] [(.int (v2.toInt8.toInt32))])
          refine G_iloadN X55 hx (pc' := 180) rfl (hb hby at_179) rfl ?_
          refine G_i2b X55 hx (pc' := 181) rfl (hb hby at_180)  ?_
          refine G_icmpYes X55 hx (pc' := 186) (hb hby at_181) (teq (rfl : (v2.toInt8.toInt32) = (v2.toInt8.toInt32))).1 (by decide) (by decide) ?_
          refine G_iload X55 hx (pc' := 188) rfl (hb hby at_186) rfl ?_
          refine G_iconst X55 hx (pc' := 189) rfl (hb hby at_188) (z := (2 : Int32)) rfl ?_
          refine G_icmpNo X55 hx (pc' := 192) rfl (hb hby at_189) (tlt (by decide : (2 : Int32) < (4 : Int32))).2.2.2 ?_
          refine G_aload X55 hx (pc' := 194) rfl (hb hby at_192) rfl rfl ?_
          refine G_iconst X55 hx (pc' := 195) rfl (hb hby at_194) (z := (2 : Int32)) rfl ?_
          refine Go.st (ldAB X55 hx hZ e55 p54_1 (j := (2 : Int32)) (by decide) (show Int32.toNatClampNeg 2 < 4 from by decide) (g := (mkF m 195 #[.val (.int v0), .val (.int v1), .val (.int v2), .val (.int v3), .val (.int v4), .val (.int (4 : Int32)), .val (.ref b0_44), .val (.ref b0_49), .val (.ref b0_54)] [(.int (2 : Int32)), (.ref b0_54)])) rfl rfl (hb hby at_195)) ?_
          show Go p e below s _ _ _ T55 (mkF m 196 #[.val (.int v0), .val (.int v1), .val (.int v2), .val (.int v3), .val (.int v4), .val (.int (4 : Int32)), .val (.ref b0_44), .val (.ref b0_49), .val (.ref b0_54)] [(.int (v3.toInt8.toInt32))])
          refine G_iloadN X55 hx (pc' := 197) rfl (hb hby at_196) rfl ?_
          refine G_i2b X55 hx (pc' := 198) rfl (hb hby at_197)  ?_
          refine G_icmpYes X55 hx (pc' := 203) (hb hby at_198) (teq (rfl : (v3.toInt8.toInt32) = (v3.toInt8.toInt32))).1 (by decide) (by decide) ?_
          refine G_iload X55 hx (pc' := 205) rfl (hb hby at_203) rfl ?_
          refine G_iconst X55 hx (pc' := 206) rfl (hb hby at_205) (z := (3 : Int32)) rfl ?_
          refine G_icmpNo X55 hx (pc' := 209) rfl (hb hby at_206) (tlt (by decide : (3 : Int32) < (4 : Int32))).2.2.2 ?_
          refine G_aload X55 hx (pc' := 211) rfl (hb hby at_209) rfl rfl ?_
          refine G_iconst X55 hx (pc' := 212) rfl (hb hby at_211) (z := (3 : Int32)) rfl ?_
          refine Go.st (ldAB X55 hx hZ e55 p54_1 (j := (3 : Int32)) (by decide) (show Int32.toNatClampNeg 3 < 4 from by decide) (g := (mkF m 212 #[.val (.int v0), .val (.int v1), .val (.int v2), .val (.int v3), .val (.int v4), .val (.int (4 : Int32)), .val (.ref b0_44), .val (.ref b0_49), .val (.ref b0_54)] [(.int (3 : Int32)), (.ref b0_54)])) rfl rfl (hb hby at_212)) ?_
          show Go p e below s _ _ _ T55 (mkF m 213 #[.val (.int v0), .val (.int v1), .val (.int v2), .val (.int v3), .val (.int v4), .val (.int (4 : Int32)), .val (.ref b0_44), .val (.ref b0_49), .val (.ref b0_54)] [(.int (v4.toInt8.toInt32))])
          refine G_iload X55 hx (pc' := 215) rfl (hb hby at_213) rfl ?_
          refine G_i2b X55 hx (pc' := 216) rfl (hb hby at_215)  ?_
          refine G_icmpYes X55 hx (pc' := 221) (hb hby at_216) (teq (rfl : (v4.toInt8.toInt32) = (v4.toInt8.toInt32))).1 (by decide) (by decide) ?_
          refine G_iconst X55 hx (pc' := 222) rfl (hb hby at_221) (z := (1 : Int32)) rfl ?_
          refine Go.fin X55 hlk (v := some (.int (1 : Int32))) (fun h => by rw [Bd.returns] at h; cases h) (by decide) (by decide) ?_ (fun fs hr => retN X55 hx (t := .boolean) Bd.returns (by simp) (hb hby at_222) hr)
          show Q_law Z v0 v1 v2 v3 v4 h0 n0 _ T55.heap _
          rw [e55]
          exact ⟨congrArg (fun z => some (Value.int z)) (by rw [f_law]; try rw [h_n]; rw [if_neg hk0_1, if_neg hk1_2, if_neg hk2_3, if_neg hk3_4]), N55⟩
theorem own_law (a b c d e : Int32) : f_law a b c d e = 1 := by
  unfold f_law
  repeat' split
  all_goals rfl
set_option maxRecDepth 65536 in
set_option maxHeartbeats 40000000 in
theorem comes_1 {Post : Tables → Env → Array Value → State → Outcome → State → Prop} (hpost : ∀ tb e args s v u, (limb_1_1.after args s (.returned v) u = true ∧ limb_1_2.after args s (.returned v) u = true ∧ True) → FrameEnd s (.returned v) u (Jvm.fieldLocs frame_1_writes args s ++ Jvm.arrayLocs frame_1_arrays args s ++ Jvm.staticLocs frame_1_statics s) 16 128 → Post tb e args s (.returned v) u) :
    ArmFor flags0 classFile x code maxLocals ret World_1 tables_1 room_1 Calls_1 rest_1 Pre_1 Post := by
  intro l hfl _ _ p e ha hc hk s m args below hf hA hF happ hP
  obtain ⟨hcalls, hrest, hpre⟩ := hP
  obtain ⟨-, -, -, hnamed, -, -, -, hat⟩ := (Spec.applies_iff hf).mp happ
  obtain ⟨hg, hn⟩ := and_e (Cond.before_iff.mp (show (Jvm.Cond.and given_1 narrow_1).before args s = true from hpre))
  obtain ⟨hcnt, hg0⟩ := and_e hg
  obtain ⟨ha0, hg1⟩ := and_e hg0
  obtain ⟨ha1, hg2⟩ := and_e hg1
  obtain ⟨ha2, hg3⟩ := and_e hg2
  obtain ⟨ha3, hg4⟩ := and_e hg3
  have ha4 := hg4
  obtain ⟨w0, w1, w2, w3, w4, rfl⟩ : ∃ w0 w1 w2 w3 w4 : Value, args = #[w0, w1, w2, w3, w4] := by
    have hs : args.size = 5 := by simpa [Cond.value, given_1] using hcnt
    obtain ⟨L⟩ := args
    match L, hs with
    | [w0, w1, w2, w3, w4], _ => exact ⟨w0, w1, w2, w3, w4, rfl⟩
  have hw := fun d (hd : d ∈ tables_1) => atoms_spec (ws := Jvm.Cond.code x code maxLocals ret :: tables_1) hat d (List.mem_cons_of_mem _ hd)
  have hfit : Fit s := fun {y c} hc i hi => by
    obtain ⟨ha, rfl⟩ := Array.getElem?_eq_some_iff.mp hc
    have q := List.all_eq_true.mp ((Array.all_eq_true_iff_forall_mem.mp hF) _ (Array.getElem_mem ha)) i (List.mem_range.mpr hi)
    simpa [Array.getElem?_eq_getElem hi] using q
  obtain ⟨i0, ei0⟩ := is_v ha0
  obtain rfl : w0 = (.int i0) := Option.some.inj ei0
  obtain ⟨i1, ei1⟩ := is_v ha1
  obtain rfl : w1 = (.int i1) := Option.some.inj ei1
  obtain ⟨i2, ei2⟩ := is_v ha2
  obtain rfl : w2 = (.int i2) := Option.some.inj ei2
  obtain ⟨i3, ei3⟩ := is_v ha3
  obtain rfl : w3 = (.int i3) := Option.some.inj ei3
  obtain ⟨i4, ei4⟩ := is_v ha4
  obtain rfl : w4 = (.int i4) := Option.some.inj ei4
  obtain ⟨n, o, h1, h2, h3, v, L, rfl, ⟨hv, N⟩, hq⟩ := rm_law l s _ hw tables_1 i0 i1 i2 i3 i4  s.heap s.heap.size (Nat.le_refl _)  p e ha hc hk s m _ below hf ((Spec.applies_iff_loose hf).mp happ).1 ⟨rfl, State.Warmed39.refl s, rfl⟩ trivial
  rw [own_law i0 i1 i2 i3 i4] at hv
  subst hv
  refine ⟨n, _, h1, h2, h3, hpost _ _ _ _ _ _ ⟨Cond.after_iff.mpr rfl, Cond.after_iff.mpr (eq_i res_at (Term.int_eval (1)) rfl), trivial⟩ ⟨hq.1, hq.2.1, (hq.2.2.sift fun y hy => Or.inr (N y hy)).mono (by decide) (by decide)⟩⟩
theorem main_1_1 : Claimed_1_1 := comes_1 fun _ _ _ _ _ _ h hF => ⟨h.1, hF⟩
theorem main_1_2 : Claimed_1_2 := comes_1 fun _ _ _ _ _ _ h hF => ⟨h.2.1, hF⟩
end Jvm.Pilot.@@N@@
namespace Jvm.Pilot.@@N@@
open Jvm Jvm.ClassFile Sem Op Lib Jvm.Free Jvm.Stand Jvm.Pilot.@@N@@.Jvm.D
/-! MADE BY PROGRAM (witnessworld.py) out of the Statement's table words and the real class files: 11 classes; the members and pool entries that the words name. The judged class is class 1, her method 2. -/
namespace start1
open Jvm.ClassFile
def u (s : String) : CpInfo := .utf8 (stringToUtf16 s)
/-- a pool by its gaps: so many unusable entries, then the entry; so many at the end -/
def gap : Nat → List CpInfo → List CpInfo
  | 0, r => r
  | n + 1, r => .unusable :: gap n r
def poolList (es : List (Nat × CpInfo)) (last : Nat) : List CpInfo := es.foldr (fun e r => gap e.1 (e.2 :: r)) (gap last [])
def pool (es : List (Nat × CpInfo)) (last : Nat) : Array CpInfo := ⟨poolList es last⟩
def fileOf (pool : Array CpInfo) (this : Nat) (attrs : Array Attribute := #[]) (ms : Array MethodInfo := #[]) (fl : Nat := 33) (sup : Nat := 0) (ifs : Array Nat := #[]) (fds : Array FieldInfo := #[]) : ClassFile where
  minorVersion := 0
  majorVersion := 65
  constantPool := pool
  accessFlags := fl
  thisClass := this
  superClass := sup
  interfaces := ifs
  fields := fds
  methods := ms
  attributes := attrs
def plain (name : String) (sup : Option ClassId) : Class where
  name := name
  kind := .ordinary
  loader := none
  accessFlags := 33
  super := sup
  interfaces := #[]
  cf := none
  fields := #[]
  methods := #[]
  instanceTypes := #[]
  staticTypes := #[]
  resolved := #[]
  callSites := []
  init := .initialized
  statics := none
  mirror := none

def pool0 : Array CpInfo := pool [(5, u "<init>"), (0, u "()V"), (1, .class_ 10), (1, u "java/lang/Object"), (85, u "clone"), (0, u "()Ljava/lang/Object;")] 26

def k0c0 : Code := { maxStack := 0, maxLocals := 1, code := object_method_1_code, exceptionTable := #[], attributes := #[] }
def k0m0 : Method := { name := "<init>", desc := "()V", sig := { parameters := [], returnType := none }, accessFlags := 1, code := some k0c0 }
def k0m1 : Method := { name := "clone", desc := "()Ljava/lang/Object;", sig := { parameters := [], returnType := some (.object "java/lang/Object") }, accessFlags := 260, code := none }
/-- java/lang/Object -/
def k0 : Class := { plain "java/lang/Object" none with
  accessFlags := 33
  interfaces := #[]
  cf := some (fileOf pool0 8 #[] #[{ accessFlags := 1, nameIndex := 5, descriptorIndex := 6, attributes := #[] }, { accessFlags := 260, nameIndex := 96, descriptorIndex := 97, attributes := #[] }] 33 0 #[] #[])
  fields := #[]
  methods := #[k0m0, k0m1]
  instanceTypes := #[]
  staticTypes := #[]
  resolved := Array.replicate 124 none
  statics := none }

def pool1 : Array CpInfo := pool [(2, .class_ 4), (1, u "java/lang/Object"), (0, u "<init>"), (0, u "()V"), (0, .integer 2147483647), (0, .methodref 9 10), (0, .class_ 11), (0, .nameAndType 12 13), (0, u "com/example/colonwise/colonwise/model/BencodeStringOfPinLaw"), (0, u "make"), (0, u "(I)[B"), (0, .methodref 15 16), (0, .class_ 17), (0, .nameAndType 18 19), (0, u "com/example/colonwise/colonwise/model/BencodeString"), (0, u "of"), (0, u "([B)Lcom/example/colonwise/colonwise/model/BencodeString;"), (0, .methodref 15 21), (0, .nameAndType 22 23), (0, u "bytes"), (0, u "()[B"), (0, .methodref 15 25), (0, .nameAndType 26 27), (0, u "length"), (0, u "()I"), (3, u "law"), (0, u "(IIIII)Z")] 4

def k1m0 : Method := { name := "<init>", desc := "()V", sig := { parameters := [], returnType := none }, accessFlags := 2, code := none }
def k1c1 : Code := { maxStack := 2, maxLocals := 1, code := method_2_code, exceptionTable := #[], attributes := #[] }
def k1m1 : Method := { name := "make", desc := "(I)[B", sig := { parameters := [.int], returnType := some (.array .byte) }, accessFlags := 10, code := some k1c1 }
def k1c2 : Code := { maxStack := 4, maxLocals := 9, code := code, exceptionTable := #[], attributes := #[] }
def k1m2 : Method := { name := "law", desc := "(IIIII)Z", sig := { parameters := [.int, .int, .int, .int, .int], returnType := some .boolean }, accessFlags := 9, code := some k1c2 }
/-- com/example/colonwise/colonwise/model/BencodeStringOfPinLaw -/
def k1 : Class := { plain "com/example/colonwise/colonwise/model/BencodeStringOfPinLaw" (some 0) with
  accessFlags := 49
  interfaces := #[]
  cf := some (fileOf pool1 9 #[] #[{ accessFlags := 2, nameIndex := 5, descriptorIndex := 6, attributes := #[] }, { accessFlags := 10, nameIndex := 12, descriptorIndex := 13, attributes := #[] }, { accessFlags := 9, nameIndex := 31, descriptorIndex := 32, attributes := #[] }] 49 2 #[] #[])
  fields := #[]
  methods := #[k1m0, k1m1, k1m2]
  instanceTypes := #[]
  staticTypes := #[]
  resolved := Array.replicate 37 none
  statics := none }

def pool2 : Array CpInfo := pool [(1, .class_ 2), (0, u "com/example/colonwise/colonwise/model/BencodeValue"), (0, .class_ 4), (0, u "java/lang/Object")] 13

/-- com/example/colonwise/colonwise/model/BencodeValue -/
def k2 : Class := { plain "com/example/colonwise/colonwise/model/BencodeValue" (some 0) with
  accessFlags := 1537
  interfaces := #[]
  cf := some (fileOf pool2 1 #[] #[] 1537 3 #[] #[])
  fields := #[]
  methods := #[]
  instanceTypes := #[]
  staticTypes := #[]
  resolved := Array.replicate 18 none
  statics := none }

def pool3 : Array CpInfo := pool [(1, .class_ 2), (0, u "java/lang/Comparable"), (0, .class_ 4), (0, u "java/lang/Object")] 7

/-- java/lang/Comparable -/
def k3 : Class := { plain "java/lang/Comparable" (some 0) with
  accessFlags := 1537
  interfaces := #[]
  cf := some (fileOf pool3 1 #[] #[] 1537 3 #[] #[])
  fields := #[]
  methods := #[]
  instanceTypes := #[]
  staticTypes := #[]
  resolved := Array.replicate 12 none
  statics := none }

def pool4 : Array CpInfo := pool [(1, .methodref 2 3), (0, .class_ 4), (0, .nameAndType 5 6), (0, u "java/lang/Object"), (0, u "<init>"), (0, u "()V"), (0, .fieldref 8 9), (0, .class_ 10), (0, .nameAndType 11 12), (0, u "com/example/colonwise/colonwise/model/BencodeString"), (0, u "bytes"), (0, u "[B"), (0, .methodref 14 15), (0, .class_ 12), (0, .nameAndType 16 17), (0, u "clone"), (0, u "()Ljava/lang/Object;"), (0, .methodref 8 19), (0, .nameAndType 5 20), (0, u "([B)V"), (93, .class_ 115), (0, u "com/example/colonwise/colonwise/model/BencodeValue"), (0, .class_ 117), (0, u "java/lang/Comparable"), (2, u "of"), (0, u "([B)Lcom/example/colonwise/colonwise/model/BencodeString;"), (2, u "()[B"), (3, u "length"), (0, u "()I")] 11

def k4c0 : Code := { maxStack := 2, maxLocals := 2, code := prog_31_method_1_code, exceptionTable := #[], attributes := #[] }
def k4m0 : Method := { name := "<init>", desc := "([B)V", sig := { parameters := [(.array .byte)], returnType := none }, accessFlags := 2, code := some k4c0 }
def k4c1 : Code := { maxStack := 3, maxLocals := 1, code := prog_31_method_2_code, exceptionTable := #[], attributes := #[] }
def k4m1 : Method := { name := "of", desc := "([B)Lcom/example/colonwise/colonwise/model/BencodeString;", sig := { parameters := [(.array .byte)], returnType := some (.object "com/example/colonwise/colonwise/model/BencodeString") }, accessFlags := 9, code := some k4c1 }
def k4c2 : Code := { maxStack := 1, maxLocals := 1, code := prog_31_method_5_code, exceptionTable := #[], attributes := #[] }
def k4m2 : Method := { name := "bytes", desc := "()[B", sig := { parameters := [], returnType := some (.array .byte) }, accessFlags := 1, code := some k4c2 }
def k4c3 : Code := { maxStack := 1, maxLocals := 1, code := prog_31_method_8_code, exceptionTable := #[], attributes := #[] }
def k4m3 : Method := { name := "length", desc := "()I", sig := { parameters := [], returnType := some .int }, accessFlags := 1, code := some k4c3 }
/-- com/example/colonwise/colonwise/model/BencodeString -/
def k4 : Class := { plain "com/example/colonwise/colonwise/model/BencodeString" (some 0) with
  accessFlags := 49
  interfaces := #[2, 3]
  cf := some (fileOf pool4 8 #[] #[{ accessFlags := 2, nameIndex := 5, descriptorIndex := 20, attributes := #[] }, { accessFlags := 9, nameIndex := 120, descriptorIndex := 121, attributes := #[] }, { accessFlags := 1, nameIndex := 11, descriptorIndex := 124, attributes := #[] }, { accessFlags := 1, nameIndex := 128, descriptorIndex := 129, attributes := #[] }] 49 2 #[114, 116] #[{ accessFlags := 18, nameIndex := 11, descriptorIndex := 12, attributes := #[] }])
  fields := #[{ name := "bytes", type := (.array .byte), accessFlags := 18, slot := 0, constantValue := 0 }]
  methods := #[k4m0, k4m1, k4m2, k4m3]
  instanceTypes := #[(.array .byte)]
  staticTypes := #[]
  resolved := Array.replicate 141 none
  statics := none }

def pool5 : Array CpInfo := pool [(1, .class_ 2), (0, u "java/lang/Cloneable"), (0, .class_ 4), (0, u "java/lang/Object")] 2

/-- java/lang/Cloneable -/
def k5 : Class := { plain "java/lang/Cloneable" (some 0) with
  accessFlags := 1537
  interfaces := #[]
  cf := some (fileOf pool5 1 #[] #[] 1537 3 #[] #[])
  fields := #[]
  methods := #[]
  instanceTypes := #[]
  staticTypes := #[]
  resolved := Array.replicate 7 none
  statics := none }

def pool6 : Array CpInfo := pool [(1, u "java/io/Serializable"), (0, .class_ 1), (0, u "java/lang/Object"), (0, .class_ 3)] 3

/-- java/io/Serializable -/
def k6 : Class := { plain "java/io/Serializable" (some 0) with
  accessFlags := 1537
  interfaces := #[]
  cf := some (fileOf pool6 2 #[] #[] 1537 4 #[] #[])
  fields := #[]
  methods := #[]
  instanceTypes := #[]
  staticTypes := #[]
  resolved := Array.replicate 8 none
  statics := none }

/-- the primitive byte -/
def k7 : Class := { plain "byte" none with kind := .primitive 'B', accessFlags := 0x411 }
/-- [B -/
def k8 : Class := { plain "[B" (some 0) with kind := .array 7 .byte, interfaces := #[5, 6], accessFlags := 1041 }

/-- the primitive int -/
def k9 : Class := { plain "int" none with kind := .primitive 'I', accessFlags := 0x411 }
/-- [I -/
def k10 : Class := { plain "[I" (some 0) with kind := .array 9 .int, interfaces := #[5, 6], accessFlags := 1041 }

def heap : Heap := #[]
def classes : Array Class := #[k0, k1, k2, k3, k4, k5, k6, k7, k8, k9, k10]
def interned : List (Array UInt16 × Addr) := []
def slotsUsed : Nat := 0
def theMethod : MethodId := ⟨1, 2⟩
def args0 : Array Value := #[.int 3, .int 7, .int 3, .int 1, .int 2]
def aboutOver (below : List Frame) : State where
  vm := { classes := classes, interned := interned.toArray }
  heap := heap
  slotsUsed := slotsUsed
  threads := #[{ frames := .invoking theMethod args0 :: below }]
def below0 : List Frame := [.native { method := ⟨0, 0⟩, args := #[] }]
def about1 : State := aboutOver below0
def p0 : Program := .bare "" "" ""
def e0 : Env := launch0.env 0 0 0
theorem w_frames : about1.frames = Frame.invoking theMethod args0 :: below0 := rfl
set_option maxRecDepth 65536 in
theorem w_args : argsFit about1.vm theMethod args0 = true := by decide +kernel
set_option maxRecDepth 65536 in
theorem w_heap : heapFits about1 = true := by decide +kernel
set_option maxRecDepth 65536 in
theorem w_runnable : about1.curStatus? = some .runnable := by decide +kernel
set_option maxRecDepth 65536 in
theorem w_alone : about1.alone = true := by decide +kernel
set_option maxRecDepth 65536 in
theorem w_named : about1.methodNamed? x = some theMethod := by decide +kernel
set_option maxRecDepth 65536 in
theorem w_hears : about1.hears theMethod below0 = true := by decide +kernel
set_option maxRecDepth 65536 in
theorem w_ripe : about1.ripe theMethod args0 below0 = true := by decide +kernel
theorem w_running : about1.status = .running := rfl
set_option maxRecDepth 65536 in
theorem w_room : about1.hasRoom e0.platform room_1 = true :=
  launch0.hasRoom_least _ room_1 (by decide +kernel) (by decide +kernel) (by decide +kernel) (by decide +kernel) (by decide +kernel) (by decide +kernel)
theorem allAtoms_all (ts : List Jvm.Cond) (a : Array Jvm.Value) (st : Jvm.State) : (allAtoms ts).before a st = ts.all (fun c => c.before a st) := by
  induction ts with
  | nil => rfl
  | cons c t ih =>
    show (Jvm.Cond.and c (allAtoms t)).before a st = _
    rw [Jvm.Cond.before_and, ih, List.all_cons]
def words1 : List Jvm.Cond := Jvm.Cond.code x code maxLocals ret :: tables_1
/-- a 'code' word, met by the world's own term for the bytes: nothing is compared byte by byte -/
theorem code_word {y : MethodName} {bytes : ByteArray} {mx : Nat} {rt : Option FieldType} {a : Array Value} {s : State} {m : MethodId} {meth : Method} {c : Code} (h1 : s.methodNamed? y = some m) (h2 : s.vm.method? m = some meth) (h3 : meth.code = some c) (h4 : c.code = bytes)
    (h5 : (c.maxLocals == mx && c.exceptionTable.isEmpty && decide (c.maxStack ≤ mostOperands) && decide (meth.sig.returnType = rt) && !meth.locks && decide (parseMethodDescriptor y.desc = some meth.sig)) = true) : (Jvm.Cond.code y bytes mx rt).before a s = true := by
  simp only [Bool.and_eq_true, beq_iff_eq, Bool.not_eq_true', decide_eq_true_eq] at h5
  obtain ⟨⟨⟨⟨⟨g1, g2⟩, g3⟩, g4⟩, g5⟩, g6⟩ := h5
  simp [Cond.before, Cond.holds, Cond.value, h1, h2, h3, h4, g1, g2, g3, g4, g5, g6]
def isCode : Jvm.Cond → Bool
  | .code _ _ _ _ => true
  | _ => false
theorem all_split {L : List Jvm.Cond} {P : Jvm.Cond → Bool} (h1 : L.all (fun c => isCode c || P c) = true) (h2 : ∀ c ∈ L.filter isCode, P c = true) : L.all P = true := by
  refine List.all_eq_true.mpr fun c hc => ?_
  have h := List.all_eq_true.mp h1 c hc
  rcases Bool.eq_false_or_eq_true (isCode c) with hi | hi
  · exact h2 c (List.mem_filter.mpr ⟨hc, hi⟩)
  · simpa [hi] using h
set_option maxRecDepth 65536 in
theorem w_c0 : (Jvm.Cond.code x code maxLocals ret).before args0 about1 = true := code_word (m := ⟨1, 2⟩) (meth := k1m2) (c := k1c2) (by decide +kernel) rfl rfl rfl (by decide +kernel)
set_option maxRecDepth 65536 in
theorem w_c1 : (Jvm.Cond.code ({ cls := "com/example/colonwise/colonwise/model/BencodeStringOfPinLaw", name := "make", desc := "(I)[B" } : Jvm.MethodName) method_2_code (1 : Nat) (Option.some (Jvm.ClassFile.FieldType.array Jvm.ClassFile.FieldType.byte))).before args0 about1 = true := code_word (m := ⟨1, 1⟩) (meth := k1m1) (c := k1c1) (by decide +kernel) rfl rfl rfl (by decide +kernel)
set_option maxRecDepth 65536 in
theorem w_c2 : (Jvm.Cond.code ({ cls := "com/example/colonwise/colonwise/model/BencodeString", name := "of", desc := "([B)Lcom/example/colonwise/colonwise/model/BencodeString;" } : Jvm.MethodName) prog_31_method_2_code (1 : Nat) (Option.some (Jvm.ClassFile.FieldType.object "com/example/colonwise/colonwise/model/BencodeString"))).before args0 about1 = true := code_word (m := ⟨4, 1⟩) (meth := k4m1) (c := k4c1) (by decide +kernel) rfl rfl rfl (by decide +kernel)
set_option maxRecDepth 65536 in
theorem w_c3 : (Jvm.Cond.code ({ cls := "com/example/colonwise/colonwise/model/BencodeString", name := "<init>", desc := "([B)V" } : Jvm.MethodName) prog_31_method_1_code (2 : Nat) (Option.none : Option Jvm.ClassFile.FieldType)).before args0 about1 = true := code_word (m := ⟨4, 0⟩) (meth := k4m0) (c := k4c0) (by decide +kernel) rfl rfl rfl (by decide +kernel)
set_option maxRecDepth 65536 in
theorem w_c4 : (Jvm.Cond.code ({ cls := "java/lang/Object", name := "<init>", desc := "()V" } : Jvm.MethodName) object_method_1_code (1 : Nat) (Option.none : Option Jvm.ClassFile.FieldType)).before args0 about1 = true := code_word (m := ⟨0, 0⟩) (meth := k0m0) (c := k0c0) (by decide +kernel) rfl rfl rfl (by decide +kernel)
set_option maxRecDepth 65536 in
theorem w_c5 : (Jvm.Cond.code ({ cls := "com/example/colonwise/colonwise/model/BencodeString", name := "bytes", desc := "()[B" } : Jvm.MethodName) prog_31_method_5_code (1 : Nat) (Option.some (Jvm.ClassFile.FieldType.array Jvm.ClassFile.FieldType.byte))).before args0 about1 = true := code_word (m := ⟨4, 2⟩) (meth := k4m2) (c := k4c2) (by decide +kernel) rfl rfl rfl (by decide +kernel)
set_option maxRecDepth 65536 in
theorem w_c6 : (Jvm.Cond.code ({ cls := "com/example/colonwise/colonwise/model/BencodeString", name := "length", desc := "()I" } : Jvm.MethodName) prog_31_method_8_code (1 : Nat) (Option.some Jvm.ClassFile.FieldType.int)).before args0 about1 = true := code_word (m := ⟨4, 3⟩) (meth := k4m3) (c := k4c3) (by decide +kernel) rfl rfl rfl (by decide +kernel)
def codes1 : List Jvm.Cond := [Jvm.Cond.code x code maxLocals ret, Jvm.Cond.code ({ cls := "com/example/colonwise/colonwise/model/BencodeStringOfPinLaw", name := "make", desc := "(I)[B" } : Jvm.MethodName) method_2_code (1 : Nat) (Option.some (Jvm.ClassFile.FieldType.array Jvm.ClassFile.FieldType.byte)), Jvm.Cond.code ({ cls := "com/example/colonwise/colonwise/model/BencodeString", name := "of", desc := "([B)Lcom/example/colonwise/colonwise/model/BencodeString;" } : Jvm.MethodName) prog_31_method_2_code (1 : Nat) (Option.some (Jvm.ClassFile.FieldType.object "com/example/colonwise/colonwise/model/BencodeString")), Jvm.Cond.code ({ cls := "com/example/colonwise/colonwise/model/BencodeString", name := "<init>", desc := "([B)V" } : Jvm.MethodName) prog_31_method_1_code (2 : Nat) (Option.none : Option Jvm.ClassFile.FieldType), Jvm.Cond.code ({ cls := "java/lang/Object", name := "<init>", desc := "()V" } : Jvm.MethodName) object_method_1_code (1 : Nat) (Option.none : Option Jvm.ClassFile.FieldType), Jvm.Cond.code ({ cls := "com/example/colonwise/colonwise/model/BencodeString", name := "bytes", desc := "()[B" } : Jvm.MethodName) prog_31_method_5_code (1 : Nat) (Option.some (Jvm.ClassFile.FieldType.array Jvm.ClassFile.FieldType.byte)), Jvm.Cond.code ({ cls := "com/example/colonwise/colonwise/model/BencodeString", name := "length", desc := "()I" } : Jvm.MethodName) prog_31_method_8_code (1 : Nat) (Option.some Jvm.ClassFile.FieldType.int)]
set_option maxRecDepth 65536 in
theorem codes_eq : words1.filter isCode = codes1 := rfl
theorem w_codes : ∀ c ∈ words1.filter isCode, c.before args0 about1 = true := by
  rw [codes_eq]
  intro c hc
  simp only [codes1, List.mem_cons, List.not_mem_nil, or_false] at hc
  rcases hc with rfl | rfl | rfl | rfl | rfl | rfl | rfl
  · exact w_c0
  · exact w_c1
  · exact w_c2
  · exact w_c3
  · exact w_c4
  · exact w_c5
  · exact w_c6
set_option maxRecDepth 65536 in
theorem w_t1 : (words1.take 24).all (fun c => isCode c || c.before args0 about1) = true := by decide +kernel
set_option maxRecDepth 65536 in
theorem w_t2 : (words1.drop 24).all (fun c => isCode c || c.before args0 about1) = true := by decide +kernel
theorem w_tables : (allAtoms (Jvm.Cond.code x code maxLocals ret :: tables_1)).before args0 about1 = true := by
  rw [allAtoms_all]
  show words1.all (fun c => c.before args0 about1) = true
  refine all_split ?_ w_codes
  rw [← List.take_append_drop 24 words1, List.all_append, w_t1, w_t2]
  rfl
set_option maxRecDepth 65536 in
theorem w_case : (Jvm.Cond.and given_1 narrow_1).before args0 about1 = true := by decide +kernel
theorem w_applies : (headSpec (Jvm.Cond.code x code maxLocals ret :: tables_1) room_1).applies x e0.platform about1 = true :=
  (Spec.applies_iff w_frames).mpr ⟨w_running, w_runnable, w_alone, w_named, w_hears, w_ripe, w_room, w_tables⟩
theorem atStart : AtStart classFile x code maxLocals ret World_1 tables_1 room_1 Calls_1 rest_1 Pre_1 launch0 p0 e0 about1 theMethod args0 below0 :=
  ⟨lists_1, trivial, launch0.admits_env _ _ _, launch0.least_env, fairChoices_fair.cas, fairChoices_fair.clock, w_frames, w_args, w_heap, w_applies, trivial, trivial, w_case⟩
end start1
theorem witness_1 : WitnessClaimed_1 := ⟨start1.p0, start1.e0, start1.about1, start1.theMethod, start1.args0, start1.below0, start1.atStart⟩
end Jvm.Pilot.@@N@@
