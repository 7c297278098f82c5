import JvmDerived
import JvmDerived.Pilot.@@N@@Statement
import JvmDerived.Pilot.@@N@@Code
set_option linter.unusedVariables false
set_option linter.unusedSimpArgs false
namespace Jvm.Pilot.@@N@@
open Jvm Jvm.ClassFile Sem Op Lib Jvm.Free Jvm.Stand Jvm.LawKit Jvm.RoadKit Bundle Jvm.Pilot.@@N@@.Jvm.D
section Own
variable {p : Program} {l : Launch} {e : Env} {R : Room} {s : State} {m : MethodId} {args : Array Value} {below : List Frame} {meth : Method} {c : Code} {T T' : State} {locs : List Loc} {cells slots C N : Nat} {Q : Option Value → Heap → List Loc → Prop} {g g' : JFrame}
/-- from T with the frame g on top the invocation of s comes to its end: it returns, and Q holds of what it returns, of the heap and of the places written -/
def Go (p : Program) (e : Env) (below : List Frame) (s : State) (C N : Nat) (Q : Option Value → Heap → List Loc → Prop) (T : State) (g : JFrame) : Prop :=
  ∃ s₂ o, Steps p.tables e below (T.setTop g) s₂ ∧ s₂.status = .running ∧ Ended s₂ below o ∧ ∃ v L, o = .returned v ∧ Q v s₂.heap L ∧ FrameEnd s o s₂ L C N
theorem Go.st (h : ∀ t, Steps p.tables e below (T'.setTop g') t → Steps p.tables e below (T.setTop g) t) (k : Go p e below s C N Q T' g') : Go p e below s C N Q T g := by
  obtain ⟨s2, o, h1, h2⟩ := k
  exact ⟨s2, o, h _ h1, h2⟩
theorem Go.enter (q : g = g') (k : Go p e below s C N Q T g') : ∃ s₂ o, Steps p.tables e below (T.setTop g) s₂ ∧ s₂.status = .running ∧ Ended s₂ below o ∧ ∃ v L, o = .returned v ∧ Q v s₂.heap L ∧ FrameEnd s o s₂ L C N := by
  subst q; exact k
theorem Go.fin (X : Stand p l e R s m args below meth c T locs cells slots) (hlk : meth.locks = false) {v : Option Value} (hv : meth.sig.returnType = none → v = none) (hC : cells ≤ C) (hN : slots ≤ N) (hq : Q v T.heap locs)
    (hs : ∀ fs, (∀ (f : JFrame) (acts : List Action), f.method = m → f.locked = none → f.entered = [] → (doReturn e (T.setTop f) acts v).1 = T.setFrames fs) → Steps p.tables e below (T.setTop g) (T.setFrames fs)) : Go p e below s C N Q T g := by
  obtain ⟨fs, hr, hrun, hended, hW, hsame⟩ := X.leave hv hlk
  exact ⟨_, _, hs fs hr, hrun, hended, _, _, rfl, hq, ⟨_, rfl⟩, hW, hsame.mono hC hN⟩
end Own

section OwnG
variable {p : Program} {l : Launch} {e : Env} {R : Room} {s : State} {m : MethodId} {args : Array Value} {below : List Frame} {meth : Method} {c : Code} {T : State} {locs : List Loc} {cells slots C N : Nat} {Q : Option Value → Heap → List Loc → Prop} {pc pc' : Nat} {L L' : Array Slot} {S : List Value}
theorem G_iloadN (X : Stand p l e R s m args below meth c T locs cells slots) (hx : p.tables.exec = Jvm.exec) {k : Fin 4} {v : Int32} (hp : pc + 1 = pc') (hd : decode c.code pc = .ok (.iload_n k, 1)) (hl : L[k.val]? = some (.val (.int v))) (h : Go p e below s C N Q T (mkF m pc' L (.int v :: S))) : Go p e below s C N Q T (mkF m pc L S) := by
  subst hp; exact Go.st (fun _ k => XS.iloadN X.here hx rfl hd hl k) h
theorem G_iload (X : Stand p l e R s m args below meth c T locs cells slots) (hx : p.tables.exec = Jvm.exec) {k : Nat} {v : Int32} (hp : pc + 2 = pc') (hd : decode c.code pc = .ok (.iload k, 2)) (hl : L[k]? = some (.val (.int v))) (h : Go p e below s C N Q T (mkF m pc' L (.int v :: S))) : Go p e below s C N Q T (mkF m pc L S) := by
  subst hp; exact Go.st (fun _ k => XS.iload X.here hx rfl hd hl k) h
theorem G_istoreN (X : Stand p l e R s m args below meth c T locs cells slots) (hx : p.tables.exec = Jvm.exec) {k : Fin 4} {v : Int32} (hp : pc + 1 = pc') (hd : decode c.code pc = .ok (.istore_n k, 1)) (hl : storeLocals L k.val (.int v) = some L') (h : Go p e below s C N Q T (mkF m pc' L' S)) : Go p e below s C N Q T (mkF m pc L (.int v :: S)) := by
  subst hp; exact Go.st (fun _ k => XS.istoreN X.here hx rfl hd rfl hl k) h
theorem G_istore (X : Stand p l e R s m args below meth c T locs cells slots) (hx : p.tables.exec = Jvm.exec) {k : Nat} {v : Int32} (hp : pc + 2 = pc') (hd : decode c.code pc = .ok (.istore k, 2)) (hl : storeLocals L k (.int v) = some L') (h : Go p e below s C N Q T (mkF m pc' L' S)) : Go p e below s C N Q T (mkF m pc L (.int v :: S)) := by
  subst hp; exact Go.st (fun _ k => XS.istore X.here hx rfl hd rfl hl k) h
theorem G_lloadN (X : Stand p l e R s m args below meth c T locs cells slots) (hx : p.tables.exec = Jvm.exec) {k : Fin 4} {v : Int64} (hp : pc + 1 = pc') (hd : decode c.code pc = .ok (.lload_n k, 1)) (hl : L[k.val]? = some (.val (.long v))) (h : Go p e below s C N Q T (mkF m pc' L (.long v :: S))) : Go p e below s C N Q T (mkF m pc L S) := by
  subst hp; exact Go.st (fun _ k => XS.lloadN X.here hx rfl hd hl k) h
theorem G_lload (X : Stand p l e R s m args below meth c T locs cells slots) (hx : p.tables.exec = Jvm.exec) {k : Nat} {v : Int64} (hp : pc + 2 = pc') (hd : decode c.code pc = .ok (.lload k, 2)) (hl : L[k]? = some (.val (.long v))) (h : Go p e below s C N Q T (mkF m pc' L (.long v :: S))) : Go p e below s C N Q T (mkF m pc L S) := by
  subst hp; exact Go.st (fun _ k => XS.lload X.here hx rfl hd hl k) h
theorem G_lstoreN (X : Stand p l e R s m args below meth c T locs cells slots) (hx : p.tables.exec = Jvm.exec) {k : Fin 4} {v : Int64} (hp : pc + 1 = pc') (hd : decode c.code pc = .ok (.lstore_n k, 1)) (hl : storeLocals L k.val (.long v) = some L') (h : Go p e below s C N Q T (mkF m pc' L' S)) : Go p e below s C N Q T (mkF m pc L (.long v :: S)) := by
  subst hp; exact Go.st (fun _ k => XS.lstoreN X.here hx rfl hd rfl hl k) h
theorem G_lstore (X : Stand p l e R s m args below meth c T locs cells slots) (hx : p.tables.exec = Jvm.exec) {k : Nat} {v : Int64} (hp : pc + 2 = pc') (hd : decode c.code pc = .ok (.lstore k, 2)) (hl : storeLocals L k (.long v) = some L') (h : Go p e below s C N Q T (mkF m pc' L' S)) : Go p e below s C N Q T (mkF m pc L (.long v :: S)) := by
  subst hp; exact Go.st (fun _ k => XS.lstore X.here hx rfl hd rfl hl k) h
theorem G_aloadN (X : Stand p l e R s m args below meth c T locs cells slots) (hx : p.tables.exec = Jvm.exec) {k : Fin 4} {v : Value} (hp : pc + 1 = pc') (hd : decode c.code pc = .ok (.aload_n k, 1)) (hl : L[k.val]? = some (.val v)) (hv : v.isRef = true) (h : Go p e below s C N Q T (mkF m pc' L (v :: S))) : Go p e below s C N Q T (mkF m pc L S) := by
  subst hp; exact Go.st (fun _ k => XS.aloadN X.here hx rfl hd hl hv k) h
theorem G_aload (X : Stand p l e R s m args below meth c T locs cells slots) (hx : p.tables.exec = Jvm.exec) {k : Nat} {v : Value} (hp : pc + 2 = pc') (hd : decode c.code pc = .ok (.aload k, 2)) (hl : L[k]? = some (.val v)) (hv : v.isRef = true) (h : Go p e below s C N Q T (mkF m pc' L (v :: S))) : Go p e below s C N Q T (mkF m pc L S) := by
  subst hp; exact Go.st (fun _ k => XS.aload X.here hx rfl hd hl hv k) h
theorem G_astoreN (X : Stand p l e R s m args below meth c T locs cells slots) (hx : p.tables.exec = Jvm.exec) {k : Fin 4} {v : Value} (hp : pc + 1 = pc') (hd : decode c.code pc = .ok (.astore_n k, 1)) (hv : v.isRef = true) (hl : storeLocals L k.val v = some L') (h : Go p e below s C N Q T (mkF m pc' L' S)) : Go p e below s C N Q T (mkF m pc L (v :: S)) := by
  subst hp; exact Go.st (fun _ k => XS.astoreN X.here hx rfl hd rfl hv hl k) h
theorem G_astore (X : Stand p l e R s m args below meth c T locs cells slots) (hx : p.tables.exec = Jvm.exec) {k : Nat} {v : Value} (hp : pc + 2 = pc') (hd : decode c.code pc = .ok (.astore k, 2)) (hv : v.isRef = true) (hl : storeLocals L k v = some L') (h : Go p e below s C N Q T (mkF m pc' L' S)) : Go p e below s C N Q T (mkF m pc L (v :: S)) := by
  subst hp; exact Go.st (fun _ k => XS.astore X.here hx rfl hd rfl hv hl k) h
theorem G_iconst (X : Stand p l e R s m args below meth c T locs cells slots) (hx : p.tables.exec = Jvm.exec) {i : Int} {z : Int32} (hp : pc + 1 = pc') (hd : decode c.code pc = .ok (.iconst i, 1)) (hz : Int32.ofInt i = z) (h : Go p e below s C N Q T (mkF m pc' L (.int z :: S))) : Go p e below s C N Q T (mkF m pc L S) := by
  subst hp; exact Go.st (fun _ k => XS.iconst X.here hx rfl hd (by rw [hz]; exact k)) h
theorem G_bipush (X : Stand p l e R s m args below meth c T locs cells slots) (hx : p.tables.exec = Jvm.exec) {i : Int} {z : Int32} (hp : pc + 2 = pc') (hd : decode c.code pc = .ok (.bipush i, 2)) (hz : (Int8.ofInt i).toInt32 = z) (h : Go p e below s C N Q T (mkF m pc' L (.int z :: S))) : Go p e below s C N Q T (mkF m pc L S) := by
  subst hp; exact Go.st (fun _ k => XS.bipush X.here hx rfl hd (by rw [hz]; exact k)) h
theorem G_sipush (X : Stand p l e R s m args below meth c T locs cells slots) (hx : p.tables.exec = Jvm.exec) {i : Int} {z : Int32} (hp : pc + 3 = pc') (hd : decode c.code pc = .ok (.sipush i, 3)) (hz : (Int16.ofInt i).toInt32 = z) (h : Go p e below s C N Q T (mkF m pc' L (.int z :: S))) : Go p e below s C N Q T (mkF m pc L S) := by
  subst hp; exact Go.st (fun _ k => XS.sipush X.here hx rfl hd (by rw [hz]; exact k)) h
theorem G_lconst (X : Stand p l e R s m args below meth c T locs cells slots) (hx : p.tables.exec = Jvm.exec) {i : Fin 2} {z : Int64} (hp : pc + 1 = pc') (hd : decode c.code pc = .ok (.lconst i, 1)) (hz : Int64.ofNat i = z) (h : Go p e below s C N Q T (mkF m pc' L (.long z :: S))) : Go p e below s C N Q T (mkF m pc L S) := by
  subst hp; exact Go.st (fun _ k => XS.lconst X.here hx rfl hd (by rw [hz]; exact k)) h
theorem G_aconstNull (X : Stand p l e R s m args below meth c T locs cells slots) (hx : p.tables.exec = Jvm.exec)  (hp : pc + 1 = pc') (hd : decode c.code pc = .ok (.aconst_null, 1))  (h : Go p e below s C N Q T (mkF m pc' L (.null :: S))) : Go p e below s C N Q T (mkF m pc L S) := by
  subst hp; exact Go.st (fun _ k => XS.aconstNull X.here hx rfl hd k) h
theorem G_iadd (X : Stand p l e R s m args below meth c T locs cells slots) (hx : p.tables.exec = Jvm.exec) {x y : Int32} (hp : pc + 1 = pc') (hd : decode c.code pc = .ok (.iadd, 1))  (h : Go p e below s C N Q T (mkF m pc' L (.int (x + y) :: S))) : Go p e below s C N Q T (mkF m pc L (.int y :: .int x :: S)) := by
  subst hp; exact Go.st (fun _ k => XS.iadd X.here hx rfl hd rfl k) h
theorem G_isub (X : Stand p l e R s m args below meth c T locs cells slots) (hx : p.tables.exec = Jvm.exec) {x y : Int32} (hp : pc + 1 = pc') (hd : decode c.code pc = .ok (.isub, 1))  (h : Go p e below s C N Q T (mkF m pc' L (.int (x - y) :: S))) : Go p e below s C N Q T (mkF m pc L (.int y :: .int x :: S)) := by
  subst hp; exact Go.st (fun _ k => XS.isub X.here hx rfl hd rfl k) h
theorem G_imul (X : Stand p l e R s m args below meth c T locs cells slots) (hx : p.tables.exec = Jvm.exec) {x y : Int32} (hp : pc + 1 = pc') (hd : decode c.code pc = .ok (.imul, 1))  (h : Go p e below s C N Q T (mkF m pc' L (.int (x * y) :: S))) : Go p e below s C N Q T (mkF m pc L (.int y :: .int x :: S)) := by
  subst hp; exact Go.st (fun _ k => XS.imul X.here hx rfl hd rfl k) h
theorem G_iand (X : Stand p l e R s m args below meth c T locs cells slots) (hx : p.tables.exec = Jvm.exec) {x y : Int32} (hp : pc + 1 = pc') (hd : decode c.code pc = .ok (.iand, 1))  (h : Go p e below s C N Q T (mkF m pc' L (.int (x &&& y) :: S))) : Go p e below s C N Q T (mkF m pc L (.int y :: .int x :: S)) := by
  subst hp; exact Go.st (fun _ k => XS.iand X.here hx rfl hd rfl k) h
theorem G_ior (X : Stand p l e R s m args below meth c T locs cells slots) (hx : p.tables.exec = Jvm.exec) {x y : Int32} (hp : pc + 1 = pc') (hd : decode c.code pc = .ok (.ior, 1))  (h : Go p e below s C N Q T (mkF m pc' L (.int (x ||| y) :: S))) : Go p e below s C N Q T (mkF m pc L (.int y :: .int x :: S)) := by
  subst hp; exact Go.st (fun _ k => XS.ior X.here hx rfl hd rfl k) h
theorem G_ixor (X : Stand p l e R s m args below meth c T locs cells slots) (hx : p.tables.exec = Jvm.exec) {x y : Int32} (hp : pc + 1 = pc') (hd : decode c.code pc = .ok (.ixor, 1))  (h : Go p e below s C N Q T (mkF m pc' L (.int (x ^^^ y) :: S))) : Go p e below s C N Q T (mkF m pc L (.int y :: .int x :: S)) := by
  subst hp; exact Go.st (fun _ k => XS.ixor X.here hx rfl hd rfl k) h
theorem G_ishl (X : Stand p l e R s m args below meth c T locs cells slots) (hx : p.tables.exec = Jvm.exec) {x y : Int32} (hp : pc + 1 = pc') (hd : decode c.code pc = .ok (.ishl, 1))  (h : Go p e below s C N Q T (mkF m pc' L (.int (x <<< (y &&& 31)) :: S))) : Go p e below s C N Q T (mkF m pc L (.int y :: .int x :: S)) := by
  subst hp; exact Go.st (fun _ k => XS.ishl X.here hx rfl hd rfl k) h
theorem G_ishr (X : Stand p l e R s m args below meth c T locs cells slots) (hx : p.tables.exec = Jvm.exec) {x y : Int32} (hp : pc + 1 = pc') (hd : decode c.code pc = .ok (.ishr, 1))  (h : Go p e below s C N Q T (mkF m pc' L (.int (x >>> (y &&& 31)) :: S))) : Go p e below s C N Q T (mkF m pc L (.int y :: .int x :: S)) := by
  subst hp; exact Go.st (fun _ k => XS.ishr X.here hx rfl hd rfl k) h
theorem G_iushr (X : Stand p l e R s m args below meth c T locs cells slots) (hx : p.tables.exec = Jvm.exec) {x y : Int32} (hp : pc + 1 = pc') (hd : decode c.code pc = .ok (.iushr, 1))  (h : Go p e below s C N Q T (mkF m pc' L (.int ((x.toUInt32 >>> (y &&& 31).toUInt32).toInt32) :: S))) : Go p e below s C N Q T (mkF m pc L (.int y :: .int x :: S)) := by
  subst hp; exact Go.st (fun _ k => XS.iushr X.here hx rfl hd rfl k) h
theorem G_ladd (X : Stand p l e R s m args below meth c T locs cells slots) (hx : p.tables.exec = Jvm.exec) {x y : Int64} (hp : pc + 1 = pc') (hd : decode c.code pc = .ok (.ladd, 1))  (h : Go p e below s C N Q T (mkF m pc' L (.long (x + y) :: S))) : Go p e below s C N Q T (mkF m pc L (.long y :: .long x :: S)) := by
  subst hp; exact Go.st (fun _ k => XS.ladd X.here hx rfl hd rfl k) h
theorem G_lsub (X : Stand p l e R s m args below meth c T locs cells slots) (hx : p.tables.exec = Jvm.exec) {x y : Int64} (hp : pc + 1 = pc') (hd : decode c.code pc = .ok (.lsub, 1))  (h : Go p e below s C N Q T (mkF m pc' L (.long (x - y) :: S))) : Go p e below s C N Q T (mkF m pc L (.long y :: .long x :: S)) := by
  subst hp; exact Go.st (fun _ k => XS.lsub X.here hx rfl hd rfl k) h
theorem G_lmul (X : Stand p l e R s m args below meth c T locs cells slots) (hx : p.tables.exec = Jvm.exec) {x y : Int64} (hp : pc + 1 = pc') (hd : decode c.code pc = .ok (.lmul, 1))  (h : Go p e below s C N Q T (mkF m pc' L (.long (x * y) :: S))) : Go p e below s C N Q T (mkF m pc L (.long y :: .long x :: S)) := by
  subst hp; exact Go.st (fun _ k => XS.lmul X.here hx rfl hd rfl k) h
theorem G_land (X : Stand p l e R s m args below meth c T locs cells slots) (hx : p.tables.exec = Jvm.exec) {x y : Int64} (hp : pc + 1 = pc') (hd : decode c.code pc = .ok (.land, 1))  (h : Go p e below s C N Q T (mkF m pc' L (.long (x &&& y) :: S))) : Go p e below s C N Q T (mkF m pc L (.long y :: .long x :: S)) := by
  subst hp; exact Go.st (fun _ k => XS.land X.here hx rfl hd rfl k) h
theorem G_lor (X : Stand p l e R s m args below meth c T locs cells slots) (hx : p.tables.exec = Jvm.exec) {x y : Int64} (hp : pc + 1 = pc') (hd : decode c.code pc = .ok (.lor, 1))  (h : Go p e below s C N Q T (mkF m pc' L (.long (x ||| y) :: S))) : Go p e below s C N Q T (mkF m pc L (.long y :: .long x :: S)) := by
  subst hp; exact Go.st (fun _ k => XS.lor X.here hx rfl hd rfl k) h
theorem G_lxor (X : Stand p l e R s m args below meth c T locs cells slots) (hx : p.tables.exec = Jvm.exec) {x y : Int64} (hp : pc + 1 = pc') (hd : decode c.code pc = .ok (.lxor, 1))  (h : Go p e below s C N Q T (mkF m pc' L (.long (x ^^^ y) :: S))) : Go p e below s C N Q T (mkF m pc L (.long y :: .long x :: S)) := by
  subst hp; exact Go.st (fun _ k => XS.lxor X.here hx rfl hd rfl k) h
theorem G_lshl (X : Stand p l e R s m args below meth c T locs cells slots) (hx : p.tables.exec = Jvm.exec) {x : Int64} {y : Int32} (hp : pc + 1 = pc') (hd : decode c.code pc = .ok (.lshl, 1))  (h : Go p e below s C N Q T (mkF m pc' L (.long (x <<< (y &&& 0x3f).toInt64) :: S))) : Go p e below s C N Q T (mkF m pc L (.int y :: .long x :: S)) := by
  subst hp; exact Go.st (fun _ k => XS.lshl X.here hx rfl hd rfl k) h
theorem G_lshr (X : Stand p l e R s m args below meth c T locs cells slots) (hx : p.tables.exec = Jvm.exec) {x : Int64} {y : Int32} (hp : pc + 1 = pc') (hd : decode c.code pc = .ok (.lshr, 1))  (h : Go p e below s C N Q T (mkF m pc' L (.long (x >>> (y &&& 0x3f).toInt64) :: S))) : Go p e below s C N Q T (mkF m pc L (.int y :: .long x :: S)) := by
  subst hp; exact Go.st (fun _ k => XS.lshr X.here hx rfl hd rfl k) h
theorem G_lushr (X : Stand p l e R s m args below meth c T locs cells slots) (hx : p.tables.exec = Jvm.exec) {x : Int64} {y : Int32} (hp : pc + 1 = pc') (hd : decode c.code pc = .ok (.lushr, 1))  (h : Go p e below s C N Q T (mkF m pc' L (.long ((x.toUInt64 >>> (y &&& 0x3f).toInt64.toUInt64).toInt64) :: S))) : Go p e below s C N Q T (mkF m pc L (.int y :: .long x :: S)) := by
  subst hp; exact Go.st (fun _ k => XS.lushr X.here hx rfl hd rfl k) h
theorem G_idiv (X : Stand p l e R s m args below meth c T locs cells slots) (hx : p.tables.exec = Jvm.exec) {x y : Int32} (hp : pc + 1 = pc') (hd : decode c.code pc = .ok (.idiv, 1)) (hy : y ≠ 0) (h : Go p e below s C N Q T (mkF m pc' L (.int (x / y) :: S))) : Go p e below s C N Q T (mkF m pc L (.int y :: .int x :: S)) := by
  subst hp; exact Go.st (fun _ k => XS.idiv X.here hx rfl hd rfl hy k) h
theorem G_irem (X : Stand p l e R s m args below meth c T locs cells slots) (hx : p.tables.exec = Jvm.exec) {x y : Int32} (hp : pc + 1 = pc') (hd : decode c.code pc = .ok (.irem, 1)) (hy : y ≠ 0) (h : Go p e below s C N Q T (mkF m pc' L (.int (x % y) :: S))) : Go p e below s C N Q T (mkF m pc L (.int y :: .int x :: S)) := by
  subst hp; exact Go.st (fun _ k => iremM X hx rfl hd rfl hy k) h
theorem G_ldiv (X : Stand p l e R s m args below meth c T locs cells slots) (hx : p.tables.exec = Jvm.exec) {x y : Int64} (hp : pc + 1 = pc') (hd : decode c.code pc = .ok (.ldiv, 1)) (hy : y ≠ 0) (h : Go p e below s C N Q T (mkF m pc' L (.long (x / y) :: S))) : Go p e below s C N Q T (mkF m pc L (.long y :: .long x :: S)) := by
  subst hp; exact Go.st (fun _ k => XS.ldiv X.here hx rfl hd rfl hy k) h
theorem G_lrem (X : Stand p l e R s m args below meth c T locs cells slots) (hx : p.tables.exec = Jvm.exec) {x y : Int64} (hp : pc + 1 = pc') (hd : decode c.code pc = .ok (.lrem, 1)) (hy : y ≠ 0) (h : Go p e below s C N Q T (mkF m pc' L (.long (x % y) :: S))) : Go p e below s C N Q T (mkF m pc L (.long y :: .long x :: S)) := by
  subst hp; exact Go.st (fun _ k => XS.lrem X.here hx rfl hd rfl hy (by rw [lrem_mod]; exact k)) h
theorem G_ineg (X : Stand p l e R s m args below meth c T locs cells slots) (hx : p.tables.exec = Jvm.exec) {x : Int32} (hp : pc + 1 = pc') (hd : decode c.code pc = .ok (.ineg, 1))  (h : Go p e below s C N Q T (mkF m pc' L (.int (-x) :: S))) : Go p e below s C N Q T (mkF m pc L (.int x :: S)) := by
  subst hp; exact Go.st (fun _ k => XS.ineg X.here hx rfl hd rfl k) h
theorem G_lneg (X : Stand p l e R s m args below meth c T locs cells slots) (hx : p.tables.exec = Jvm.exec) {x : Int64} (hp : pc + 1 = pc') (hd : decode c.code pc = .ok (.lneg, 1))  (h : Go p e below s C N Q T (mkF m pc' L (.long (-x) :: S))) : Go p e below s C N Q T (mkF m pc L (.long x :: S)) := by
  subst hp; exact Go.st (fun _ k => XS.lneg X.here hx rfl hd rfl k) h
theorem G_i2l (X : Stand p l e R s m args below meth c T locs cells slots) (hx : p.tables.exec = Jvm.exec) {x : Int32} (hp : pc + 1 = pc') (hd : decode c.code pc = .ok (.i2l, 1))  (h : Go p e below s C N Q T (mkF m pc' L (.long (x.toInt64) :: S))) : Go p e below s C N Q T (mkF m pc L (.int x :: S)) := by
  subst hp; exact Go.st (fun _ k => XS.i2l X.here hx rfl hd rfl k) h
theorem G_l2i (X : Stand p l e R s m args below meth c T locs cells slots) (hx : p.tables.exec = Jvm.exec) {x : Int64} (hp : pc + 1 = pc') (hd : decode c.code pc = .ok (.l2i, 1))  (h : Go p e below s C N Q T (mkF m pc' L (.int (x.toInt32) :: S))) : Go p e below s C N Q T (mkF m pc L (.long x :: S)) := by
  subst hp; exact Go.st (fun _ k => XS.l2i X.here hx rfl hd rfl k) h
theorem G_i2b (X : Stand p l e R s m args below meth c T locs cells slots) (hx : p.tables.exec = Jvm.exec) {x : Int32} (hp : pc + 1 = pc') (hd : decode c.code pc = .ok (.i2b, 1))  (h : Go p e below s C N Q T (mkF m pc' L (.int (x.toInt8.toInt32) :: S))) : Go p e below s C N Q T (mkF m pc L (.int x :: S)) := by
  subst hp; exact Go.st (fun _ k => XS.i2b X.here hx rfl hd rfl k) h
theorem G_i2s (X : Stand p l e R s m args below meth c T locs cells slots) (hx : p.tables.exec = Jvm.exec) {x : Int32} (hp : pc + 1 = pc') (hd : decode c.code pc = .ok (.i2s, 1))  (h : Go p e below s C N Q T (mkF m pc' L (.int (x.toInt16.toInt32) :: S))) : Go p e below s C N Q T (mkF m pc L (.int x :: S)) := by
  subst hp; exact Go.st (fun _ k => XS.i2s X.here hx rfl hd rfl k) h
theorem G_i2c (X : Stand p l e R s m args below meth c T locs cells slots) (hx : p.tables.exec = Jvm.exec) {x : Int32} (hp : pc + 1 = pc') (hd : decode c.code pc = .ok (.i2c, 1))  (h : Go p e below s C N Q T (mkF m pc' L (.int (x.toUInt32.toUInt16.toUInt32.toInt32) :: S))) : Go p e below s C N Q T (mkF m pc L (.int x :: S)) := by
  subst hp; exact Go.st (fun _ k => XS.i2c X.here hx rfl hd rfl k) h
theorem G_lcmp (X : Stand p l e R s m args below meth c T locs cells slots) (hx : p.tables.exec = Jvm.exec) {x y : Int64} (hp : pc + 1 = pc') (hd : decode c.code pc = .ok (.lcmp, 1))  (h : Go p e below s C N Q T (mkF m pc' L (.int (lcmpW x y) :: S))) : Go p e below s C N Q T (mkF m pc L (.long y :: .long x :: S)) := by
  subst hp; exact Go.st (fun _ k => XS.lcmp X.here hx rfl hd rfl k) h
theorem G_iinc (X : Stand p l e R s m args below meth c T locs cells slots) (hx : p.tables.exec = Jvm.exec) {k : Nat} {cst : Int} {x z : Int32} (hp : pc + 3 = pc') (hd : decode c.code pc = .ok (.iinc k cst, 3)) (hl : L[k]? = some (.val (.int x))) (hz : x + Int32.ofInt cst = z) (hl' : storeLocals L k (.int z) = some L') (h : Go p e below s C N Q T (mkF m pc' L' S)) : Go p e below s C N Q T (mkF m pc L S) := by
  subst hp; exact Go.st (fun _ k => XS.iinc X.here hx rfl hd hl (by rw [hz]; exact hl') k) h
theorem G_dup (X : Stand p l e R s m args below meth c T locs cells slots) (hx : p.tables.exec = Jvm.exec) {x : Value} (hp : pc + 1 = pc') (hd : decode c.code pc = .ok (.dup, 1)) (hc : x.category = 1) (h : Go p e below s C N Q T (mkF m pc' L (x :: x :: S))) : Go p e below s C N Q T (mkF m pc L (x :: S)) := by
  subst hp; exact Go.st (fun _ k => XS.dup X.here hx rfl hd rfl hc k) h
theorem G_pop (X : Stand p l e R s m args below meth c T locs cells slots) (hx : p.tables.exec = Jvm.exec) {x : Value} (hp : pc + 1 = pc') (hd : decode c.code pc = .ok (.pop, 1)) (hc : x.category = 1) (h : Go p e below s C N Q T (mkF m pc' L S)) : Go p e below s C N Q T (mkF m pc L (x :: S)) := by
  subst hp; exact Go.st (fun _ k => XS.pop X.here hx rfl hd rfl hc k) h
theorem G_dupX1 (X : Stand p l e R s m args below meth c T locs cells slots) (hx : p.tables.exec = Jvm.exec) {x y : Value} (hp : pc + 1 = pc') (hd : decode c.code pc = .ok (.dup_x1, 1)) (hc : x.category = 1) (hc' : y.category = 1) (h : Go p e below s C N Q T (mkF m pc' L (x :: y :: x :: S))) : Go p e below s C N Q T (mkF m pc L (x :: y :: S)) := by
  subst hp; exact Go.st (fun _ k => XS.dupX1 X.here hx rfl hd rfl hc hc' k) h
theorem G_goto (X : Stand p l e R s m args below meth c T locs cells slots) (hx : p.tables.exec = Jvm.exec)  {o : Int} (hd : decode c.code pc = .ok (.goto o, 3))  (ho : 0 ≤ (pc : Int) + o) (hp : ((pc : Int) + o).toNat = pc') (h : Go p e below s C N Q T (mkF m pc' L S)) : Go p e below s C N Q T (mkF m pc L S) :=
  Go.st (fun _ k => XS.goto X.here hx rfl rfl hd ho hp k) h
theorem G_ifYes (X : Stand p l e R s m args below meth c T locs cells slots) (hx : p.tables.exec = Jvm.exec) {cd : ClassFile.Cond} {x : Int32} {o : Int} (hd : decode c.code pc = .ok (.ifCond cd o, 3)) (hc : ifCond.holds cd x = true) (ho : 0 ≤ (pc : Int) + o) (hp : ((pc : Int) + o).toNat = pc') (h : Go p e below s C N Q T (mkF m pc' L S)) : Go p e below s C N Q T (mkF m pc L (.int x :: S)) :=
  Go.st (fun _ k => XS.ifYes X.here hx rfl rfl hd rfl hc ho hp k) h
theorem G_icmpYes (X : Stand p l e R s m args below meth c T locs cells slots) (hx : p.tables.exec = Jvm.exec) {cd : ClassFile.Cond} {x y : Int32} {o : Int} (hd : decode c.code pc = .ok (.if_icmp cd o, 3)) (hc : if_icmp.holds cd x y = true) (ho : 0 ≤ (pc : Int) + o) (hp : ((pc : Int) + o).toNat = pc') (h : Go p e below s C N Q T (mkF m pc' L S)) : Go p e below s C N Q T (mkF m pc L (.int y :: .int x :: S)) :=
  Go.st (fun _ k => XS.icmpYes X.here hx rfl rfl hd rfl hc ho hp k) h
theorem G_ifnullYes (X : Stand p l e R s m args below meth c T locs cells slots) (hx : p.tables.exec = Jvm.exec)  {o : Int} (hd : decode c.code pc = .ok (.ifnull o, 3))  (ho : 0 ≤ (pc : Int) + o) (hp : ((pc : Int) + o).toNat = pc') (h : Go p e below s C N Q T (mkF m pc' L S)) : Go p e below s C N Q T (mkF m pc L (.null :: S)) :=
  Go.st (fun _ k => XS.ifnullYes X.here hx rfl rfl hd rfl ho hp k) h
theorem G_ifnonnullYes (X : Stand p l e R s m args below meth c T locs cells slots) (hx : p.tables.exec = Jvm.exec) {b : Addr} {o : Int} (hd : decode c.code pc = .ok (.ifnonnull o, 3))  (ho : 0 ≤ (pc : Int) + o) (hp : ((pc : Int) + o).toNat = pc') (h : Go p e below s C N Q T (mkF m pc' L S)) : Go p e below s C N Q T (mkF m pc L (.ref b :: S)) :=
  Go.st (fun _ k => XS.ifnonnullYes X.here hx rfl rfl hd rfl ho hp k) h
theorem G_ifNo (X : Stand p l e R s m args below meth c T locs cells slots) (hx : p.tables.exec = Jvm.exec) {cd : ClassFile.Cond} {x : Int32} {o : Int} (hp : pc + 3 = pc') (hd : decode c.code pc = .ok (.ifCond cd o, 3)) (hc : ifCond.holds cd x = false) (h : Go p e below s C N Q T (mkF m pc' L S)) : Go p e below s C N Q T (mkF m pc L (.int x :: S)) := by
  subst hp; exact Go.st (fun _ k => XS.ifNo X.here hx rfl hd rfl hc k) h
theorem G_icmpNo (X : Stand p l e R s m args below meth c T locs cells slots) (hx : p.tables.exec = Jvm.exec) {cd : ClassFile.Cond} {x y : Int32} {o : Int} (hp : pc + 3 = pc') (hd : decode c.code pc = .ok (.if_icmp cd o, 3)) (hc : if_icmp.holds cd x y = false) (h : Go p e below s C N Q T (mkF m pc' L S)) : Go p e below s C N Q T (mkF m pc L (.int y :: .int x :: S)) := by
  subst hp; exact Go.st (fun _ k => XS.icmpNo X.here hx rfl hd rfl hc k) h
theorem G_ifnullNo (X : Stand p l e R s m args below meth c T locs cells slots) (hx : p.tables.exec = Jvm.exec) {b : Addr} {o : Int} (hp : pc + 3 = pc') (hd : decode c.code pc = .ok (.ifnull o, 3))  (h : Go p e below s C N Q T (mkF m pc' L S)) : Go p e below s C N Q T (mkF m pc L (.ref b :: S)) := by
  subst hp; exact Go.st (fun _ k => XS.ifnullNo X.here hx rfl hd rfl k) h
theorem G_ifnonnullNo (X : Stand p l e R s m args below meth c T locs cells slots) (hx : p.tables.exec = Jvm.exec) {o : Int} (hp : pc + 3 = pc') (hd : decode c.code pc = .ok (.ifnonnull o, 3))  (h : Go p e below s C N Q T (mkF m pc' L S)) : Go p e below s C N Q T (mkF m pc L (.null :: S)) := by
  subst hp; exact Go.st (fun _ k => XS.ifnonnullNo X.here hx rfl hd rfl k) h
theorem G_ldc (X : Stand p l e R s m args below meth c T locs cells slots) (hx : p.tables.exec = Jvm.exec) (hp : pc + 2 = pc') {own : String} {index : Nat} {v : Int32} (hown : s.vm.findClass own = some m.cls) (hw : (Cond.constant own index v).before args s = true) (hd : decode c.code pc = .ok (.ldc index, 2)) (h : Go p e below s C N Q T (mkF m pc' L (.int v :: S))) : Go p e below s C N Q T (mkF m pc L S) := by
  subst hp; exact Go.st (X.ldcInt hx hown hw (g := mkF m pc L S) rfl hd) h
theorem G_ldc2 (X : Stand p l e R s m args below meth c T locs cells slots) (hx : p.tables.exec = Jvm.exec) (hp : pc + 3 = pc') {own : String} {index : Nat} {v : Int64} (hown : s.vm.findClass own = some m.cls) (hw : (Cond.constantLong own index v).before args s = true) (hd : decode c.code pc = .ok (.ldc2_w index, 3)) (h : Go p e below s C N Q T (mkF m pc' L (.long v :: S))) : Go p e below s C N Q T (mkF m pc L S) := by
  subst hp; exact Go.st (X.ldc2Long hx hown hw (g := mkF m pc L S) rfl hd) h
end OwnG

section OwnStart
variable {args : Array Value} {s : State} {t : Term} {C n d : String} {a : Addr}
theorem own_ref (h : (Cond.exactly t C).value args s none s [] = some true) : ∃ a, t.eval args s none [] s = some (.ref a) := by
  obtain ⟨a', _, _, _, e1, -⟩ := Cond.exactly_spec (Cond.before_iff.mpr h)
  exact ⟨a', e1⟩
theorem own_fldI {x : Int32} (ev : t.eval args s none [] s = some (.ref a)) (h : (Cond.eq (.field t C n d) (.int x)).value args s none s [] = some true) : Fld s s.heap a C n d (.int x) := by
  apply Fld.start
  simp only [Cond.value, Term.eval, ev, Option.bind_eq_bind, Option.bind_some] at h
  cases hf : s.fieldOf? a C n d with
  | none => simp [hf] at h
  | some v => cases v <;> simp [hf] at h; subst h; rfl
theorem own_fldJ {x : Int64} (ev : t.eval args s none [] s = some (.ref a)) (h : (Cond.eq (.field t C n d) (.long x)).value args s none s [] = some true) : Fld s s.heap a C n d (.long x) := by
  apply Fld.start
  simp only [Cond.value, Term.eval, ev, Option.bind_eq_bind, Option.bind_some] at h
  cases hf : s.fieldOf? a C n d with
  | none => simp [hf] at h
  | some v => cases v <;> simp [hf] at h; subst h; rfl
end OwnStart

theorem d_ordinal_0 : decode jdk_37_method_2_code 0 = .ok (.aload_n 0, 1) := by decide +kernel
theorem d_ordinal_1 : decode jdk_37_method_2_code 1 = .ok (.getfield 7, 3) := by decide +kernel
theorem d_ordinal_4 : decode jdk_37_method_2_code 4 = .ok (.ireturn, 1) := by decide +kernel
theorem ef_ordinal (m : MethodId) (v0 : Addr) : entryFrame m #[(.ref v0)] 1 = mkF m 0 #[.val (.ref v0)] [] := by first | (simp [entryFrame, mkF, argsToLocals, Value.category]; done) | rfl
def Q_ordinal (Z : State) (v0 : Addr) (o_ : Int32) (h0 : Heap) (n0 : Nat) (v : Option Value) (h : Heap) (L : List Loc) : Prop := v = some (.int o_) ∧ Fr n0 L ∧ h = h0
set_option maxRecDepth 65536 in
set_option maxHeartbeats 40000000 in
theorem rm_ordinal (l : Launch) (Z : State) (a0 : Array Value) (hw : ∀ d ∈ tables_1, d.before a0 Z = true) (ws : List Jvm.Cond) (v0 : Addr) (o_ : Int32) (h0 : Heap) (n0 : Nat) (Z0 : n0 ≤ h0.size) (f0_F_v0 : Fld Z h0 v0 "java/lang/Enum" "ordinal" "I" (.int o_)) :
    MetFree l (⟨"java/lang/Enum", "ordinal", "()I"⟩ : MethodName) (head1 (Jvm.Cond.code (⟨"java/lang/Enum", "ordinal", "()I"⟩ : MethodName) jdk_37_method_2_code 1 (some .int) :: ws) ({ frames := 0, cells := 0, slots := 0, locals := 0 } : Room)) (fun a U => a = #[(.ref v0)] ∧ Z.Warmed39 U.vm ∧ U.heap = h0) (fun _ _ _ _ _ => True) (fun _ U o U' => ∃ v L, o = .returned v ∧ Q_ordinal Z v0 o_ h0 n0 v U'.heap L ∧ FrameEnd U o U' L ({ frames := 0, cells := 0, slots := 0, locals := 0 } : Room).cells ({ frames := 0, cells := 0, slots := 0, locals := 0 } : Room).slots) := by
  refine MetFree.of_bodySF (plainFor_of_name (by first | (simp [plainName, overriddenIn]; done) | decide +kernel)) hisR ?_
  intro p e s m args below meth c s₁ Bd hml0 hP hK
  obtain ⟨rfl, hZ, hh⟩ := hP
  have hx := Bd.exec
  have hby := Bd.bytes
  have hml : c.maxLocals = 1 := hml0
  have hown : s.vm.findClass "java/lang/Enum" = some m.cls := findClass_of_methodNamed Bd.named
  have hnm := (name_of_methodNamed Bd.named Bd.method).1
  have hlk : meth.locks = false := Bd.notSynchronized
  have X0 : Stand p l e ({ frames := 0, cells := 0, slots := 0, locals := 0 } : Room) s m #[(.ref v0)] below meth c s₁ [] 0 0 := Stand.of_body Bd
  have e0 : s₁.heap = h0 := by rw [← hh, Bd.state]; rfl
  have N0 := Fr.nil n0
  refine Go.enter (Q := Q_ordinal Z v0 o_ h0 n0) (C := ({ frames := 0, cells := 0, slots := 0, locals := 0 } : Room).cells) (N := ({ frames := 0, cells := 0, slots := 0, locals := 0 } : Room).slots) (ef_ordinal m v0) ?_
  show Go p e below s _ _ _ s₁ (mkF m 0 #[.val (.ref v0)] [])
  refine G_aloadN X0 hx (pc' := 1) rfl (hb hby d_ordinal_0) rfl rfl ?_
  obtain ⟨T1, X1, e1, st1⟩ := getF X0 hx hZ hown (host := "") (Or.inl (hw _ (List.mem_of_getElem? (i := 16) rfl))) Via.refl e0 f0_F_v0 (g := (mkF m 1 #[.val (.ref v0)] [(.ref v0)])) rfl rfl (hb hby d_ordinal_1)
  refine Go.st st1 ?_
  show Go p e below s _ _ _ T1 (mkF m 4 #[.val (.ref v0)] [(.int o_)])
  refine Go.fin X1 hlk (v := some (.int o_)) (fun h => by rw [Bd.returns] at h; cases h) (by decide) (by decide) ?_ (fun fs hr => retOut X1 hx Bd.returns rfl (Or.inl ⟨rfl, Or.inl rfl, _, rfl⟩) (hb hby d_ordinal_4) hr)
  show Q_ordinal Z v0 o_ h0 n0 _ T1.heap _
  rw [e1]
  exact ⟨rfl, N0, rfl⟩
theorem d_req0_0 : decode prog_17_method_4_code 0 = .ok (.aload_n 0, 1) := by decide +kernel
theorem d_req0_1 : decode prog_17_method_4_code 1 = .ok (.invokevirtual 36, 3) := by decide +kernel
theorem pd_0 : parseMethodDescriptor "()I" = some ⟨[], some .int⟩ := by decide +kernel
theorem d_req0_4 : decode prog_17_method_4_code 4 = .ok (.tableswitch 28 0 2 #[38, 42, 50], 28) := by decide +kernel
theorem d_req0_42 : decode prog_17_method_4_code 42 = .ok (.iconst 1, 1) := by decide +kernel
theorem d_req0_43 : decode prog_17_method_4_code 43 = .ok (.goto 12, 3) := by decide +kernel
theorem d_req0_55 : decode prog_17_method_4_code 55 = .ok (.ireturn, 1) := by decide +kernel
def f_req0 (v1 : Int32) : Int32 := (1 : Int32)
theorem ef_req0 (m : MethodId) (v0 : Addr) (v1 : Int32) : entryFrame m #[(.ref v0), (.int v1)] 2 = mkF m 0 #[.val (.ref v0), .val (.int v1)] [] := by first | (simp [entryFrame, mkF, argsToLocals, Value.category]; done) | rfl
def Q_req0 (Z : State) (v0 : Addr) (v1 : Int32) (h0 : Heap) (n0 : Nat) (v : Option Value) (h : Heap) (L : List Loc) : Prop := v = some (.int (f_req0 v1)) ∧ Fr n0 L ∧ h = h0
set_option maxRecDepth 65536 in
set_option maxHeartbeats 40000000 in
theorem rm_req0 (l : Launch) (Z : State) (a0 : Array Value) (hw : ∀ d ∈ tables_1, d.before a0 Z = true) (ws : List Jvm.Cond) (v0 : Addr) (v1 : Int32) (h0 : Heap) (n0 : Nat) (Z0 : n0 ≤ h0.size) (f0_E_v0 : Exa Z h0 v0 "com/example/muster/muster/Consistency") (f1_F_v0 : Fld Z h0 v0 "java/lang/Enum" "ordinal" "I" (.int (0 : Int32))) :
    MetFree l (⟨"com/example/muster/muster/Consistency", "required", "(I)I"⟩ : MethodName) (head1 (Jvm.Cond.code (⟨"com/example/muster/muster/Consistency", "required", "(I)I"⟩ : MethodName) prog_17_method_4_code 2 (some .int) :: ws) ({ frames := 1, cells := 0, slots := 0, locals := 12 } : Room)) (fun a U => a = #[(.ref v0), (.int v1)] ∧ Z.Warmed39 U.vm ∧ U.heap = h0) (fun _ _ _ _ _ => True) (fun _ U o U' => ∃ v L, o = .returned v ∧ Q_req0 Z v0 v1 h0 n0 v U'.heap L ∧ FrameEnd U o U' L ({ frames := 1, cells := 0, slots := 0, locals := 12 } : Room).cells ({ frames := 1, cells := 0, slots := 0, locals := 12 } : Room).slots) := by
  refine MetFree.of_bodySF (plainFor_of_name (by first | (simp [plainName, overriddenIn]; done) | decide +kernel)) hisR ?_
  intro p e s m args below meth c s₁ Bd hml0 hP hK
  obtain ⟨rfl, hZ, hh⟩ := hP
  have hx := Bd.exec
  have hby := Bd.bytes
  have hml : c.maxLocals = 2 := hml0
  have hown : s.vm.findClass "com/example/muster/muster/Consistency" = some m.cls := findClass_of_methodNamed Bd.named
  have hnm := (name_of_methodNamed Bd.named Bd.method).1
  have hlk : meth.locks = false := Bd.notSynchronized
  have X0 : Stand p l e ({ frames := 1, cells := 0, slots := 0, locals := 12 } : Room) s m #[(.ref v0), (.int v1)] below meth c s₁ [] 0 0 := Stand.of_body Bd
  have e0 : s₁.heap = h0 := by rw [← hh, Bd.state]; rfl
  have N0 := Fr.nil n0
  refine Go.enter (Q := Q_req0 Z v0 v1 h0 n0) (C := ({ frames := 1, cells := 0, slots := 0, locals := 12 } : Room).cells) (N := ({ frames := 1, cells := 0, slots := 0, locals := 12 } : Room).slots) (ef_req0 m v0 v1) ?_
  show Go p e below s _ _ _ s₁ (mkF m 0 #[.val (.ref v0), .val (.int v1)] [])
  refine G_aloadN X0 hx (pc' := 1) rfl (hb hby d_req0_0) rfl rfl ?_
  obtain ⟨cq2, kq2, q2a, q2b, q2c⟩ := isOf hZ e0 f0_E_v0
  obtain ⟨_, _, ⟨T2, L2, k2, n2⟩, -, X2, ⟨Lc2, hQ2, l2, y2, z2⟩, st2⟩ := X0.virtualBackUp hx (x := (⟨"com/example/muster/muster/Consistency", "ordinal", "()I"⟩ : MethodName)) (y := (⟨"java/lang/Enum", "ordinal", "()I"⟩ : MethodName)) hown (mvT hZ (hw _ (List.mem_of_getElem? (i := 9) rfl))) (mvT hZ (hw _ (List.mem_of_getElem? (i := 10) rfl))) (mvT hZ (hw _ (List.mem_of_getElem? (i := 11) rfl))) (by decide) (mvT hZ (hw _ (List.mem_of_getElem? (i := 13) rfl))) (mvT hZ (hw _ (List.mem_of_getElem? (i := 12) rfl))) (backOf (W := 0) (rm_ordinal l Z a0 hw [] v0 (0 : Int32) h0 n0 Z0 f1_F_v0) hZ (hw _ (List.mem_of_getElem? (i := 15) rfl)) (hw _ (List.mem_of_getElem? (i := 14) rfl)) (by decide) (by decide)) q2a q2c (g := (mkF m 1 #[.val (.ref v0), .val (.int v1)] [(.ref v0)])) rfl (by rw [hml]; rfl) (Steps.refl _) (argsL := []) (rest := []) (lenOf pd_0 rfl) rfl (by show 2 * 0 + _ ≤ _; exact Nat.le_of_eq rfl) (hb hby d_req0_1) (fun _ _ => ⟨rfl, e0, (by decide : 0 + 0 ≤ _), (by decide : 0 + 0 ≤ _)⟩)
  dsimp only [Pt.U, Pt.locs, Pt.cells, Pt.slots] at X2 l2 y2 z2 st2 hQ2
  subst l2 y2 z2
  obtain ⟨rfl, N2q, e2⟩ := hQ2
  have N2 := Fr.app N0 N2q
  refine Go.st (fun _ k => st2.trans k) ?_
  show Go p e below s _ _ _ T2 (mkF m 4 #[.val (.ref v0), .val (.int v1)] [(.int (0 : Int32))])
  refine Go.st (fun _ k => XS.tswIn X2.here hx rfl (i := (0 : Int32)) (pc0 := 4) (pc' := 42) (o := 38) rfl (hb hby d_req0_4) rfl (by decide) (by decide) (by decide) (by decide) k) ?_
  show Go p e below s _ _ _ T2 (mkF m 42 #[.val (.ref v0), .val (.int v1)] [])
  refine G_iconst X2 hx (pc' := 43) rfl (hb hby d_req0_42) (z := (1 : Int32)) rfl ?_
  refine G_goto X2 hx (pc' := 55) (hb hby d_req0_43)  (by decide) (by decide) ?_
  refine Go.fin X2 hlk (v := some (.int (1 : Int32))) (fun h => by rw [Bd.returns] at h; cases h) (by decide) (by decide) ?_ (fun fs hr => retOut X2 hx Bd.returns rfl (Or.inl ⟨rfl, Or.inl rfl, _, rfl⟩) (hb hby d_req0_55) hr)
  show Q_req0 Z v0 v1 h0 n0 _ T2.heap _
  rw [e2]
  exact ⟨congrArg (fun z => some (Value.int z)) (by rw [f_req0]), N2, rfl⟩
theorem d_req1_0 : decode prog_17_method_4_code 0 = .ok (.aload_n 0, 1) := by decide +kernel
theorem d_req1_1 : decode prog_17_method_4_code 1 = .ok (.invokevirtual 36, 3) := by decide +kernel
theorem d_req1_4 : decode prog_17_method_4_code 4 = .ok (.tableswitch 28 0 2 #[38, 42, 50], 28) := by decide +kernel
theorem d_req1_46 : decode prog_17_method_4_code 46 = .ok (.iload_n 1, 1) := by decide +kernel
theorem d_req1_47 : decode prog_17_method_4_code 47 = .ok (.iconst 2, 1) := by decide +kernel
theorem d_req1_48 : decode prog_17_method_4_code 48 = .ok (.idiv, 1) := by decide +kernel
theorem d_req1_49 : decode prog_17_method_4_code 49 = .ok (.iconst 1, 1) := by decide +kernel
theorem d_req1_50 : decode prog_17_method_4_code 50 = .ok (.iadd, 1) := by decide +kernel
theorem d_req1_51 : decode prog_17_method_4_code 51 = .ok (.goto 4, 3) := by decide +kernel
theorem d_req1_55 : decode prog_17_method_4_code 55 = .ok (.ireturn, 1) := by decide +kernel
def f_req1 (v1 : Int32) : Int32 := ((v1 / (2 : Int32)) + (1 : Int32))
theorem ef_req1 (m : MethodId) (v0 : Addr) (v1 : Int32) : entryFrame m #[(.ref v0), (.int v1)] 2 = mkF m 0 #[.val (.ref v0), .val (.int v1)] [] := by first | (simp [entryFrame, mkF, argsToLocals, Value.category]; done) | rfl
def Q_req1 (Z : State) (v0 : Addr) (v1 : Int32) (h0 : Heap) (n0 : Nat) (v : Option Value) (h : Heap) (L : List Loc) : Prop := v = some (.int (f_req1 v1)) ∧ Fr n0 L ∧ h = h0
set_option maxRecDepth 65536 in
set_option maxHeartbeats 40000000 in
theorem rm_req1 (l : Launch) (Z : State) (a0 : Array Value) (hw : ∀ d ∈ tables_1, d.before a0 Z = true) (ws : List Jvm.Cond) (v0 : Addr) (v1 : Int32) (h0 : Heap) (n0 : Nat) (Z0 : n0 ≤ h0.size) (f0_E_v0 : Exa Z h0 v0 "com/example/muster/muster/Consistency") (f1_F_v0 : Fld Z h0 v0 "java/lang/Enum" "ordinal" "I" (.int (1 : Int32))) :
    MetFree l (⟨"com/example/muster/muster/Consistency", "required", "(I)I"⟩ : MethodName) (head1 (Jvm.Cond.code (⟨"com/example/muster/muster/Consistency", "required", "(I)I"⟩ : MethodName) prog_17_method_4_code 2 (some .int) :: ws) ({ frames := 1, cells := 0, slots := 0, locals := 12 } : Room)) (fun a U => a = #[(.ref v0), (.int v1)] ∧ Z.Warmed39 U.vm ∧ U.heap = h0) (fun _ _ _ _ _ => True) (fun _ U o U' => ∃ v L, o = .returned v ∧ Q_req1 Z v0 v1 h0 n0 v U'.heap L ∧ FrameEnd U o U' L ({ frames := 1, cells := 0, slots := 0, locals := 12 } : Room).cells ({ frames := 1, cells := 0, slots := 0, locals := 12 } : Room).slots) := by
  refine MetFree.of_bodySF (plainFor_of_name (by first | (simp [plainName, overriddenIn]; done) | decide +kernel)) hisR ?_
  intro p e s m args below meth c s₁ Bd hml0 hP hK
  obtain ⟨rfl, hZ, hh⟩ := hP
  have hx := Bd.exec
  have hby := Bd.bytes
  have hml : c.maxLocals = 2 := hml0
  have hown : s.vm.findClass "com/example/muster/muster/Consistency" = some m.cls := findClass_of_methodNamed Bd.named
  have hnm := (name_of_methodNamed Bd.named Bd.method).1
  have hlk : meth.locks = false := Bd.notSynchronized
  have X0 : Stand p l e ({ frames := 1, cells := 0, slots := 0, locals := 12 } : Room) s m #[(.ref v0), (.int v1)] below meth c s₁ [] 0 0 := Stand.of_body Bd
  have e0 : s₁.heap = h0 := by rw [← hh, Bd.state]; rfl
  have N0 := Fr.nil n0
  refine Go.enter (Q := Q_req1 Z v0 v1 h0 n0) (C := ({ frames := 1, cells := 0, slots := 0, locals := 12 } : Room).cells) (N := ({ frames := 1, cells := 0, slots := 0, locals := 12 } : Room).slots) (ef_req1 m v0 v1) ?_
  show Go p e below s _ _ _ s₁ (mkF m 0 #[.val (.ref v0), .val (.int v1)] [])
  refine G_aloadN X0 hx (pc' := 1) rfl (hb hby d_req1_0) rfl rfl ?_
  obtain ⟨cq3, kq3, q3a, q3b, q3c⟩ := isOf hZ e0 f0_E_v0
  obtain ⟨_, _, ⟨T3, L3, k3, n3⟩, -, X3, ⟨Lc3, hQ3, l3, y3, z3⟩, st3⟩ := X0.virtualBackUp hx (x := (⟨"com/example/muster/muster/Consistency", "ordinal", "()I"⟩ : MethodName)) (y := (⟨"java/lang/Enum", "ordinal", "()I"⟩ : MethodName)) hown (mvT hZ (hw _ (List.mem_of_getElem? (i := 9) rfl))) (mvT hZ (hw _ (List.mem_of_getElem? (i := 10) rfl))) (mvT hZ (hw _ (List.mem_of_getElem? (i := 11) rfl))) (by decide) (mvT hZ (hw _ (List.mem_of_getElem? (i := 13) rfl))) (mvT hZ (hw _ (List.mem_of_getElem? (i := 12) rfl))) (backOf (W := 0) (rm_ordinal l Z a0 hw [] v0 (1 : Int32) h0 n0 Z0 f1_F_v0) hZ (hw _ (List.mem_of_getElem? (i := 15) rfl)) (hw _ (List.mem_of_getElem? (i := 14) rfl)) (by decide) (by decide)) q3a q3c (g := (mkF m 1 #[.val (.ref v0), .val (.int v1)] [(.ref v0)])) rfl (by rw [hml]; rfl) (Steps.refl _) (argsL := []) (rest := []) (lenOf pd_0 rfl) rfl (by show 2 * 0 + _ ≤ _; exact Nat.le_of_eq rfl) (hb hby d_req1_1) (fun _ _ => ⟨rfl, e0, (by decide : 0 + 0 ≤ _), (by decide : 0 + 0 ≤ _)⟩)
  dsimp only [Pt.U, Pt.locs, Pt.cells, Pt.slots] at X3 l3 y3 z3 st3 hQ3
  subst l3 y3 z3
  obtain ⟨rfl, N3q, e3⟩ := hQ3
  have N3 := Fr.app N0 N3q
  refine Go.st (fun _ k => st3.trans k) ?_
  show Go p e below s _ _ _ T3 (mkF m 4 #[.val (.ref v0), .val (.int v1)] [(.int (1 : Int32))])
  refine Go.st (fun _ k => XS.tswIn X3.here hx rfl (i := (1 : Int32)) (pc0 := 4) (pc' := 46) (o := 42) rfl (hb hby d_req1_4) rfl (by decide) (by decide) (by decide) (by decide) k) ?_
  show Go p e below s _ _ _ T3 (mkF m 46 #[.val (.ref v0), .val (.int v1)] [])
  refine G_iloadN X3 hx (pc' := 47) rfl (hb hby d_req1_46) rfl ?_
  refine G_iconst X3 hx (pc' := 48) rfl (hb hby d_req1_47) (z := (2 : Int32)) rfl ?_
  refine G_idiv X3 hx (pc' := 49) rfl (hb hby d_req1_48) (by decide) ?_
  refine G_iconst X3 hx (pc' := 50) rfl (hb hby d_req1_49) (z := (1 : Int32)) rfl ?_
  refine G_iadd X3 hx (pc' := 51) rfl (hb hby d_req1_50)  ?_
  refine G_goto X3 hx (pc' := 55) (hb hby d_req1_51)  (by decide) (by decide) ?_
  refine Go.fin X3 hlk (v := some (.int ((v1 / (2 : Int32)) + (1 : Int32)))) (fun h => by rw [Bd.returns] at h; cases h) (by decide) (by decide) ?_ (fun fs hr => retOut X3 hx Bd.returns rfl (Or.inl ⟨rfl, Or.inl rfl, _, rfl⟩) (hb hby d_req1_55) hr)
  show Q_req1 Z v0 v1 h0 n0 _ T3.heap _
  rw [e3]
  exact ⟨congrArg (fun z => some (Value.int z)) (by rw [f_req1]), N3, rfl⟩
theorem d_req2_0 : decode prog_17_method_4_code 0 = .ok (.aload_n 0, 1) := by decide +kernel
theorem d_req2_1 : decode prog_17_method_4_code 1 = .ok (.invokevirtual 36, 3) := by decide +kernel
theorem d_req2_4 : decode prog_17_method_4_code 4 = .ok (.tableswitch 28 0 2 #[38, 42, 50], 28) := by decide +kernel
theorem d_req2_54 : decode prog_17_method_4_code 54 = .ok (.iload_n 1, 1) := by decide +kernel
theorem d_req2_55 : decode prog_17_method_4_code 55 = .ok (.ireturn, 1) := by decide +kernel
def f_req2 (v1 : Int32) : Int32 := v1
theorem ef_req2 (m : MethodId) (v0 : Addr) (v1 : Int32) : entryFrame m #[(.ref v0), (.int v1)] 2 = mkF m 0 #[.val (.ref v0), .val (.int v1)] [] := by first | (simp [entryFrame, mkF, argsToLocals, Value.category]; done) | rfl
def Q_req2 (Z : State) (v0 : Addr) (v1 : Int32) (h0 : Heap) (n0 : Nat) (v : Option Value) (h : Heap) (L : List Loc) : Prop := v = some (.int (f_req2 v1)) ∧ Fr n0 L ∧ h = h0
set_option maxRecDepth 65536 in
set_option maxHeartbeats 40000000 in
theorem rm_req2 (l : Launch) (Z : State) (a0 : Array Value) (hw : ∀ d ∈ tables_1, d.before a0 Z = true) (ws : List Jvm.Cond) (v0 : Addr) (v1 : Int32) (h0 : Heap) (n0 : Nat) (Z0 : n0 ≤ h0.size) (f0_E_v0 : Exa Z h0 v0 "com/example/muster/muster/Consistency") (f1_F_v0 : Fld Z h0 v0 "java/lang/Enum" "ordinal" "I" (.int (2 : Int32))) :
    MetFree l (⟨"com/example/muster/muster/Consistency", "required", "(I)I"⟩ : MethodName) (head1 (Jvm.Cond.code (⟨"com/example/muster/muster/Consistency", "required", "(I)I"⟩ : MethodName) prog_17_method_4_code 2 (some .int) :: ws) ({ frames := 1, cells := 0, slots := 0, locals := 12 } : Room)) (fun a U => a = #[(.ref v0), (.int v1)] ∧ Z.Warmed39 U.vm ∧ U.heap = h0) (fun _ _ _ _ _ => True) (fun _ U o U' => ∃ v L, o = .returned v ∧ Q_req2 Z v0 v1 h0 n0 v U'.heap L ∧ FrameEnd U o U' L ({ frames := 1, cells := 0, slots := 0, locals := 12 } : Room).cells ({ frames := 1, cells := 0, slots := 0, locals := 12 } : Room).slots) := by
  refine MetFree.of_bodySF (plainFor_of_name (by first | (simp [plainName, overriddenIn]; done) | decide +kernel)) hisR ?_
  intro p e s m args below meth c s₁ Bd hml0 hP hK
  obtain ⟨rfl, hZ, hh⟩ := hP
  have hx := Bd.exec
  have hby := Bd.bytes
  have hml : c.maxLocals = 2 := hml0
  have hown : s.vm.findClass "com/example/muster/muster/Consistency" = some m.cls := findClass_of_methodNamed Bd.named
  have hnm := (name_of_methodNamed Bd.named Bd.method).1
  have hlk : meth.locks = false := Bd.notSynchronized
  have X0 : Stand p l e ({ frames := 1, cells := 0, slots := 0, locals := 12 } : Room) s m #[(.ref v0), (.int v1)] below meth c s₁ [] 0 0 := Stand.of_body Bd
  have e0 : s₁.heap = h0 := by rw [← hh, Bd.state]; rfl
  have N0 := Fr.nil n0
  refine Go.enter (Q := Q_req2 Z v0 v1 h0 n0) (C := ({ frames := 1, cells := 0, slots := 0, locals := 12 } : Room).cells) (N := ({ frames := 1, cells := 0, slots := 0, locals := 12 } : Room).slots) (ef_req2 m v0 v1) ?_
  show Go p e below s _ _ _ s₁ (mkF m 0 #[.val (.ref v0), .val (.int v1)] [])
  refine G_aloadN X0 hx (pc' := 1) rfl (hb hby d_req2_0) rfl rfl ?_
  obtain ⟨cq4, kq4, q4a, q4b, q4c⟩ := isOf hZ e0 f0_E_v0
  obtain ⟨_, _, ⟨T4, L4, k4, n4⟩, -, X4, ⟨Lc4, hQ4, l4, y4, z4⟩, st4⟩ := X0.virtualBackUp hx (x := (⟨"com/example/muster/muster/Consistency", "ordinal", "()I"⟩ : MethodName)) (y := (⟨"java/lang/Enum", "ordinal", "()I"⟩ : MethodName)) hown (mvT hZ (hw _ (List.mem_of_getElem? (i := 9) rfl))) (mvT hZ (hw _ (List.mem_of_getElem? (i := 10) rfl))) (mvT hZ (hw _ (List.mem_of_getElem? (i := 11) rfl))) (by decide) (mvT hZ (hw _ (List.mem_of_getElem? (i := 13) rfl))) (mvT hZ (hw _ (List.mem_of_getElem? (i := 12) rfl))) (backOf (W := 0) (rm_ordinal l Z a0 hw [] v0 (2 : Int32) h0 n0 Z0 f1_F_v0) hZ (hw _ (List.mem_of_getElem? (i := 15) rfl)) (hw _ (List.mem_of_getElem? (i := 14) rfl)) (by decide) (by decide)) q4a q4c (g := (mkF m 1 #[.val (.ref v0), .val (.int v1)] [(.ref v0)])) rfl (by rw [hml]; rfl) (Steps.refl _) (argsL := []) (rest := []) (lenOf pd_0 rfl) rfl (by show 2 * 0 + _ ≤ _; exact Nat.le_of_eq rfl) (hb hby d_req2_1) (fun _ _ => ⟨rfl, e0, (by decide : 0 + 0 ≤ _), (by decide : 0 + 0 ≤ _)⟩)
  dsimp only [Pt.U, Pt.locs, Pt.cells, Pt.slots] at X4 l4 y4 z4 st4 hQ4
  subst l4 y4 z4
  obtain ⟨rfl, N4q, e4⟩ := hQ4
  have N4 := Fr.app N0 N4q
  refine Go.st (fun _ k => st4.trans k) ?_
  show Go p e below s _ _ _ T4 (mkF m 4 #[.val (.ref v0), .val (.int v1)] [(.int (2 : Int32))])
  refine Go.st (fun _ k => XS.tswIn X4.here hx rfl (i := (2 : Int32)) (pc0 := 4) (pc' := 54) (o := 50) rfl (hb hby d_req2_4) rfl (by decide) (by decide) (by decide) (by decide) k) ?_
  show Go p e below s _ _ _ T4 (mkF m 54 #[.val (.ref v0), .val (.int v1)] [])
  refine G_iloadN X4 hx (pc' := 55) rfl (hb hby d_req2_54) rfl ?_
  refine Go.fin X4 hlk (v := some (.int v1)) (fun h => by rw [Bd.returns] at h; cases h) (by decide) (by decide) ?_ (fun fs hr => retOut X4 hx Bd.returns rfl (Or.inl ⟨rfl, Or.inl rfl, _, rfl⟩) (hb hby d_req2_55) hr)
  show Q_req2 Z v0 v1 h0 n0 _ T4.heap _
  rw [e4]
  exact ⟨congrArg (fun z => some (Value.int z)) (by rw [f_req2]), N4, rfl⟩
theorem pd_1 : parseMethodDescriptor "(I)I" = some ⟨[.int], some .int⟩ := by decide +kernel
def f_law (v0 : Int32) : Int32 := (if (f_req0 (v0 &&& (2147483647 : Int32))) = (1 : Int32) then (if (f_req2 (v0 &&& (2147483647 : Int32))) = (v0 &&& (2147483647 : Int32)) then (if ((v0 &&& (2147483647 : Int32)).toInt64) < ((2 : Int64) * ((f_req1 (v0 &&& (2147483647 : Int32))).toInt64)) then (if ((v0 &&& (2147483647 : Int32)).toInt64) < ((2 : Int64) * (((f_req1 (v0 &&& (2147483647 : Int32))).toInt64) - (1 : Int64))) then (0 : Int32) else (1 : Int32)) else (0 : Int32)) else (if ((v0 &&& (2147483647 : Int32)).toInt64) < ((2 : Int64) * ((f_req1 (v0 &&& (2147483647 : Int32))).toInt64)) then (if ((v0 &&& (2147483647 : Int32)).toInt64) < ((2 : Int64) * (((f_req1 (v0 &&& (2147483647 : Int32))).toInt64) - (1 : Int64))) then (0 : Int32) else (0 : Int32)) else (0 : Int32))) else (if (f_req2 (v0 &&& (2147483647 : Int32))) = (v0 &&& (2147483647 : Int32)) then (if ((v0 &&& (2147483647 : Int32)).toInt64) < ((2 : Int64) * ((f_req1 (v0 &&& (2147483647 : Int32))).toInt64)) then (if ((v0 &&& (2147483647 : Int32)).toInt64) < ((2 : Int64) * (((f_req1 (v0 &&& (2147483647 : Int32))).toInt64) - (1 : Int64))) then (0 : Int32) else (0 : Int32)) else (0 : Int32)) else (if ((v0 &&& (2147483647 : Int32)).toInt64) < ((2 : Int64) * ((f_req1 (v0 &&& (2147483647 : Int32))).toInt64)) then (if ((v0 &&& (2147483647 : Int32)).toInt64) < ((2 : Int64) * (((f_req1 (v0 &&& (2147483647 : Int32))).toInt64) - (1 : Int64))) then (0 : Int32) else (0 : Int32)) else (0 : Int32))))
theorem ef_law (m : MethodId) (v0 : Int32) : entryFrame m #[(.int v0)] maxLocals = mkF m 0 #[.val (.int v0), .unset, .unset, .unset, .unset, .unset, .unset, .unset, .unset, .unset, .unset, .unset] [] := by first | (simp [entryFrame, mkF, argsToLocals, Value.category, maxLocals]; done) | rfl
def Q_law (Z : State) (v0 : Int32) (aO : Addr) (aM : Addr) (aA : Addr) (h0 : Heap) (n0 : Nat) (v : Option Value) (h : Heap) (L : List Loc) : Prop := v = some (.int (f_law v0)) ∧ Fr n0 L
set_option maxRecDepth 65536 in
set_option maxHeartbeats 40000000 in
theorem rm_law (l : Launch) (Z : State) (a0 : Array Value) (hw : ∀ d ∈ tables_1, d.before a0 Z = true) (ws : List Jvm.Cond) (v0 : Int32) (aO : Addr) (aM : Addr) (aA : Addr) (h0 : Heap) (n0 : Nat) (Z0 : n0 ≤ h0.size) (f0_S_com_example_muster_muster_Consistency : Sta Z h0 "com/example/muster/muster/Consistency" "ONE" "Lcom/example/muster/muster/Consistency;" (.ref aO)) (f1_S_com_example_muster_muster_Consistency : Sta Z h0 "com/example/muster/muster/Consistency" "MAJORITY" "Lcom/example/muster/muster/Consistency;" (.ref aM)) (f2_S_com_example_muster_muster_Consistency : Sta Z h0 "com/example/muster/muster/Consistency" "ALL" "Lcom/example/muster/muster/Consistency;" (.ref aA)) (f3_E_aO : Exa Z h0 aO "com/example/muster/muster/Consistency") (f4_E_aM : Exa Z h0 aM "com/example/muster/muster/Consistency") (f5_E_aA : Exa Z h0 aA "com/example/muster/muster/Consistency") (f6_F_aO : Fld Z h0 aO "java/lang/Enum" "ordinal" "I" (.int (0 : Int32))) (f7_F_aM : Fld Z h0 aM "java/lang/Enum" "ordinal" "I" (.int (1 : Int32))) (f8_F_aA : Fld Z h0 aA "java/lang/Enum" "ordinal" "I" (.int (2 : Int32))) :
    MetFree l x (head1 (Jvm.Cond.code x code maxLocals ret :: ws) room_1) (fun a U => a = #[(.int v0)] ∧ Z.Warmed39 U.vm ∧ U.heap = h0) (fun _ _ _ _ _ => True) (fun _ U o U' => ∃ v L, o = .returned v ∧ Q_law Z v0 aO aM aA h0 n0 v U'.heap L ∧ FrameEnd U o U' L room_1.cells room_1.slots) := by
  refine MetFree.of_bodySF (plainFor_of_name (by first | (simp [plainName, overriddenIn]; done) | decide +kernel)) hisR ?_
  intro p e s m args below meth c s₁ Bd hml0 hP hK
  obtain ⟨rfl, hZ, hh⟩ := hP
  have hx := Bd.exec
  have hby := Bd.bytes
  have hml : c.maxLocals = 12 := hml0
  have hown : s.vm.findClass "com/example/muster/muster/ConsistencyRequiredPinLaw" = some m.cls := findClass_of_methodNamed Bd.named
  have hnm := (name_of_methodNamed Bd.named Bd.method).1
  have hlk : meth.locks = false := Bd.notSynchronized
  have X0 : Stand p l e room_1 s m #[(.int v0)] below meth c s₁ [] 0 0 := Stand.of_body Bd
  have e0 : s₁.heap = h0 := by rw [← hh, Bd.state]; rfl
  have N0 := Fr.nil n0
  refine Go.enter (Q := Q_law Z v0 aO aM aA h0 n0) (C := room_1.cells) (N := room_1.slots) (ef_law m v0) ?_
  show Go p e below s _ _ _ s₁ (mkF m 0 #[.val (.int v0), .unset, .unset, .unset, .unset, .unset, .unset, .unset, .unset, .unset, .unset, .unset] [])
  refine G_iloadN X0 hx (pc' := 1) rfl (hb hby at_0) rfl ?_
  refine G_ldc X0 hx (pc' := 3) rfl hown (mvT hZ (hw _ (List.mem_of_getElem? (i := 0) rfl))) (hb hby at_1) ?_
  refine G_iand X0 hx (pc' := 4) rfl (hb hby at_3)  ?_
  refine G_istoreN X0 hx (pc' := 5) rfl (hb hby at_4) (L' := #[.val (.int v0), .val (.int (v0 &&& (2147483647 : Int32))), .unset, .unset, .unset, .unset, .unset, .unset, .unset, .unset, .unset, .unset]) rfl ?_
  obtain ⟨T5, X5, e5, st5⟩ := getS2 X0 hx hZ hown (host := "") (Or.inl (hw _ (List.mem_of_getElem? (i := 1) rfl))) Via.refl e0 f0_S_com_example_muster_muster_Consistency (g := (mkF m 5 #[.val (.int v0), .val (.int (v0 &&& (2147483647 : Int32))), .unset, .unset, .unset, .unset, .unset, .unset, .unset, .unset, .unset, .unset] [])) rfl (hb hby at_5)
  refine Go.st st5 ?_
  show Go p e below s _ _ _ T5 (mkF m 8 #[.val (.int v0), .val (.int (v0 &&& (2147483647 : Int32))), .unset, .unset, .unset, .unset, .unset, .unset, .unset, .unset, .unset, .unset] [(.ref aO)])
  refine G_iloadN X5 hx (pc' := 9) rfl (hb hby at_8) rfl ?_
  obtain ⟨cq6, kq6, q6a, q6b, q6c⟩ := isOf hZ e5 f3_E_aO
  obtain ⟨_, _, ⟨T6, L6, k6, n6⟩, -, X6, ⟨Lc6, hQ6, l6, y6, z6⟩, st6⟩ := X5.virtualBack hx (y := (⟨"com/example/muster/muster/Consistency", "required", "(I)I"⟩ : MethodName)) (z := (⟨"com/example/muster/muster/Consistency", "required", "(I)I"⟩ : MethodName)) hown (mvT hZ (hw _ (List.mem_of_getElem? (i := 4) rfl))) (mvT hZ (hw _ (List.mem_of_getElem? (i := 5) rfl))) (notFace_of_selects (args := #[]) (mvT hZ (hw _ (List.mem_of_getElem? (i := 7) rfl)))) (mvT hZ (hw _ (List.mem_of_getElem? (i := 7) rfl))) (mvT hZ (hw _ (List.mem_of_getElem? (i := 6) rfl))) (by decide) (backOf (W := 0) (rm_req0 l Z a0 hw [] aO (v0 &&& (2147483647 : Int32)) h0 n0 Z0 f3_E_aO f6_F_aO) hZ (hw _ (List.mem_of_getElem? (i := 8) rfl)) (hw _ (List.mem_of_getElem? (i := 2) rfl)) (by decide) (by decide)) q6a q6c (g := (mkF m 9 #[.val (.int v0), .val (.int (v0 &&& (2147483647 : Int32))), .unset, .unset, .unset, .unset, .unset, .unset, .unset, .unset, .unset, .unset] [(.int (v0 &&& (2147483647 : Int32))), (.ref aO)])) rfl (by rw [hml]; rfl) (Steps.refl _) (argsL := [(.int (v0 &&& (2147483647 : Int32)))]) (rest := []) (lenOf pd_1 rfl) rfl (by show 2 * 0 + _ ≤ _; exact Nat.le_of_eq rfl) (hb hby at_9) (fun _ _ => ⟨rfl, e5, (by decide : 0 + 0 ≤ _), (by decide : 0 + 0 ≤ _)⟩)
  dsimp only [Pt.U, Pt.locs, Pt.cells, Pt.slots] at X6 l6 y6 z6 st6 hQ6
  subst l6 y6 z6
  obtain ⟨rfl, N6q, e6⟩ := hQ6
  have N6 := Fr.app N0 N6q
  refine Go.st (fun _ k => st6.trans k) ?_
  show Go p e below s _ _ _ T6 (mkF m 12 #[.val (.int v0), .val (.int (v0 &&& (2147483647 : Int32))), .unset, .unset, .unset, .unset, .unset, .unset, .unset, .unset, .unset, .unset] [(.int (f_req0 (v0 &&& (2147483647 : Int32))))])
  refine G_istoreN X6 hx (pc' := 13) rfl (hb hby at_12) (L' := #[.val (.int v0), .val (.int (v0 &&& (2147483647 : Int32))), .val (.int (f_req0 (v0 &&& (2147483647 : Int32)))), .unset, .unset, .unset, .unset, .unset, .unset, .unset, .unset, .unset]) rfl ?_
  obtain ⟨T7, X7, e7, st7⟩ := getS2 X6 hx hZ hown (host := "") (Or.inl (hw _ (List.mem_of_getElem? (i := 18) rfl))) Via.refl e6 f1_S_com_example_muster_muster_Consistency (g := (mkF m 13 #[.val (.int v0), .val (.int (v0 &&& (2147483647 : Int32))), .val (.int (f_req0 (v0 &&& (2147483647 : Int32)))), .unset, .unset, .unset, .unset, .unset, .unset, .unset, .unset, .unset] [])) rfl (hb hby at_13)
  refine Go.st st7 ?_
  show Go p e below s _ _ _ T7 (mkF m 16 #[.val (.int v0), .val (.int (v0 &&& (2147483647 : Int32))), .val (.int (f_req0 (v0 &&& (2147483647 : Int32)))), .unset, .unset, .unset, .unset, .unset, .unset, .unset, .unset, .unset] [(.ref aM)])
  refine G_iloadN X7 hx (pc' := 17) rfl (hb hby at_16) rfl ?_
  obtain ⟨cq8, kq8, q8a, q8b, q8c⟩ := isOf hZ e7 f4_E_aM
  obtain ⟨_, _, ⟨T8, L8, k8, n8⟩, -, X8, ⟨Lc8, hQ8, l8, y8, z8⟩, st8⟩ := X7.virtualBack hx (y := (⟨"com/example/muster/muster/Consistency", "required", "(I)I"⟩ : MethodName)) (z := (⟨"com/example/muster/muster/Consistency", "required", "(I)I"⟩ : MethodName)) hown (mvT hZ (hw _ (List.mem_of_getElem? (i := 4) rfl))) (mvT hZ (hw _ (List.mem_of_getElem? (i := 5) rfl))) (notFace_of_selects (args := #[]) (mvT hZ (hw _ (List.mem_of_getElem? (i := 7) rfl)))) (mvT hZ (hw _ (List.mem_of_getElem? (i := 7) rfl))) (mvT hZ (hw _ (List.mem_of_getElem? (i := 6) rfl))) (by decide) (backOf (W := 0) (rm_req1 l Z a0 hw [] aM (v0 &&& (2147483647 : Int32)) h0 n0 Z0 f4_E_aM f7_F_aM) hZ (hw _ (List.mem_of_getElem? (i := 8) rfl)) (hw _ (List.mem_of_getElem? (i := 2) rfl)) (by decide) (by decide)) q8a q8c (g := (mkF m 17 #[.val (.int v0), .val (.int (v0 &&& (2147483647 : Int32))), .val (.int (f_req0 (v0 &&& (2147483647 : Int32)))), .unset, .unset, .unset, .unset, .unset, .unset, .unset, .unset, .unset] [(.int (v0 &&& (2147483647 : Int32))), (.ref aM)])) rfl (by rw [hml]; rfl) (Steps.refl _) (argsL := [(.int (v0 &&& (2147483647 : Int32)))]) (rest := []) (lenOf pd_1 rfl) rfl (by show 2 * 0 + _ ≤ _; exact Nat.le_of_eq rfl) (hb hby at_17) (fun _ _ => ⟨rfl, e7, (by decide : 0 + 0 ≤ _), (by decide : 0 + 0 ≤ _)⟩)
  dsimp only [Pt.U, Pt.locs, Pt.cells, Pt.slots] at X8 l8 y8 z8 st8 hQ8
  subst l8 y8 z8
  obtain ⟨rfl, N8q, e8⟩ := hQ8
  have N8 := Fr.app N6 N8q
  refine Go.st (fun _ k => st8.trans k) ?_
  show Go p e below s _ _ _ T8 (mkF m 20 #[.val (.int v0), .val (.int (v0 &&& (2147483647 : Int32))), .val (.int (f_req0 (v0 &&& (2147483647 : Int32)))), .unset, .unset, .unset, .unset, .unset, .unset, .unset, .unset, .unset] [(.int (f_req1 (v0 &&& (2147483647 : Int32))))])
  refine G_istoreN X8 hx (pc' := 21) rfl (hb hby at_20) (L' := #[.val (.int v0), .val (.int (v0 &&& (2147483647 : Int32))), .val (.int (f_req0 (v0 &&& (2147483647 : Int32)))), .val (.int (f_req1 (v0 &&& (2147483647 : Int32)))), .unset, .unset, .unset, .unset, .unset, .unset, .unset, .unset]) rfl ?_
  obtain ⟨T9, X9, e9, st9⟩ := getS2 X8 hx hZ hown (host := "") (Or.inl (hw _ (List.mem_of_getElem? (i := 20) rfl))) Via.refl e8 f2_S_com_example_muster_muster_Consistency (g := (mkF m 21 #[.val (.int v0), .val (.int (v0 &&& (2147483647 : Int32))), .val (.int (f_req0 (v0 &&& (2147483647 : Int32)))), .val (.int (f_req1 (v0 &&& (2147483647 : Int32)))), .unset, .unset, .unset, .unset, .unset, .unset, .unset, .unset] [])) rfl (hb hby at_21)
  refine Go.st st9 ?_
  show Go p e below s _ _ _ T9 (mkF m 24 #[.val (.int v0), .val (.int (v0 &&& (2147483647 : Int32))), .val (.int (f_req0 (v0 &&& (2147483647 : Int32)))), .val (.int (f_req1 (v0 &&& (2147483647 : Int32)))), .unset, .unset, .unset, .unset, .unset, .unset, .unset, .unset] [(.ref aA)])
  refine G_iloadN X9 hx (pc' := 25) rfl (hb hby at_24) rfl ?_
  obtain ⟨cq10, kq10, q10a, q10b, q10c⟩ := isOf hZ e9 f5_E_aA
  obtain ⟨_, _, ⟨T10, L10, k10, n10⟩, -, X10, ⟨Lc10, hQ10, l10, y10, z10⟩, st10⟩ := X9.virtualBack hx (y := (⟨"com/example/muster/muster/Consistency", "required", "(I)I"⟩ : MethodName)) (z := (⟨"com/example/muster/muster/Consistency", "required", "(I)I"⟩ : MethodName)) hown (mvT hZ (hw _ (List.mem_of_getElem? (i := 4) rfl))) (mvT hZ (hw _ (List.mem_of_getElem? (i := 5) rfl))) (notFace_of_selects (args := #[]) (mvT hZ (hw _ (List.mem_of_getElem? (i := 7) rfl)))) (mvT hZ (hw _ (List.mem_of_getElem? (i := 7) rfl))) (mvT hZ (hw _ (List.mem_of_getElem? (i := 6) rfl))) (by decide) (backOf (W := 0) (rm_req2 l Z a0 hw [] aA (v0 &&& (2147483647 : Int32)) h0 n0 Z0 f5_E_aA f8_F_aA) hZ (hw _ (List.mem_of_getElem? (i := 8) rfl)) (hw _ (List.mem_of_getElem? (i := 2) rfl)) (by decide) (by decide)) q10a q10c (g := (mkF m 25 #[.val (.int v0), .val (.int (v0 &&& (2147483647 : Int32))), .val (.int (f_req0 (v0 &&& (2147483647 : Int32)))), .val (.int (f_req1 (v0 &&& (2147483647 : Int32)))), .unset, .unset, .unset, .unset, .unset, .unset, .unset, .unset] [(.int (v0 &&& (2147483647 : Int32))), (.ref aA)])) rfl (by rw [hml]; rfl) (Steps.refl _) (argsL := [(.int (v0 &&& (2147483647 : Int32)))]) (rest := []) (lenOf pd_1 rfl) rfl (by show 2 * 0 + _ ≤ _; exact Nat.le_of_eq rfl) (hb hby at_25) (fun _ _ => ⟨rfl, e9, (by decide : 0 + 0 ≤ _), (by decide : 0 + 0 ≤ _)⟩)
  dsimp only [Pt.U, Pt.locs, Pt.cells, Pt.slots] at X10 l10 y10 z10 st10 hQ10
  subst l10 y10 z10
  obtain ⟨rfl, N10q, e10⟩ := hQ10
  have N10 := Fr.app N8 N10q
  refine Go.st (fun _ k => st10.trans k) ?_
  show Go p e below s _ _ _ T10 (mkF m 28 #[.val (.int v0), .val (.int (v0 &&& (2147483647 : Int32))), .val (.int (f_req0 (v0 &&& (2147483647 : Int32)))), .val (.int (f_req1 (v0 &&& (2147483647 : Int32)))), .unset, .unset, .unset, .unset, .unset, .unset, .unset, .unset] [(.int (f_req2 (v0 &&& (2147483647 : Int32))))])
  refine G_istore X10 hx (pc' := 30) rfl (hb hby at_28) (L' := #[.val (.int v0), .val (.int (v0 &&& (2147483647 : Int32))), .val (.int (f_req0 (v0 &&& (2147483647 : Int32)))), .val (.int (f_req1 (v0 &&& (2147483647 : Int32)))), .val (.int (f_req2 (v0 &&& (2147483647 : Int32)))), .unset, .unset, .unset, .unset, .unset, .unset, .unset]) rfl ?_
  refine G_iloadN X10 hx (pc' := 31) rfl (hb hby at_30) rfl ?_
  refine G_i2l X10 hx (pc' := 32) rfl (hb hby at_31)  ?_
  refine G_lstore X10 hx (pc' := 34) rfl (hb hby at_32) (L' := #[.val (.int v0), .val (.int (v0 &&& (2147483647 : Int32))), .val (.int (f_req0 (v0 &&& (2147483647 : Int32)))), .val (.int (f_req1 (v0 &&& (2147483647 : Int32)))), .val (.int (f_req2 (v0 &&& (2147483647 : Int32)))), .val (.long ((v0 &&& (2147483647 : Int32)).toInt64)), .second, .unset, .unset, .unset, .unset, .unset]) rfl ?_
  refine G_iloadN X10 hx (pc' := 35) rfl (hb hby at_34) rfl ?_
  refine G_i2l X10 hx (pc' := 36) rfl (hb hby at_35)  ?_
  refine G_lstore X10 hx (pc' := 38) rfl (hb hby at_36) (L' := #[.val (.int v0), .val (.int (v0 &&& (2147483647 : Int32))), .val (.int (f_req0 (v0 &&& (2147483647 : Int32)))), .val (.int (f_req1 (v0 &&& (2147483647 : Int32)))), .val (.int (f_req2 (v0 &&& (2147483647 : Int32)))), .val (.long ((v0 &&& (2147483647 : Int32)).toInt64)), .second, .val (.long ((f_req1 (v0 &&& (2147483647 : Int32))).toInt64)), .second, .unset, .unset, .unset]) rfl ?_
  refine G_iloadN X10 hx (pc' := 39) rfl (hb hby at_38) rfl ?_
  refine G_iconst X10 hx (pc' := 40) rfl (hb hby at_39) (z := (1 : Int32)) rfl ?_
  by_cases hc40_1 : (f_req0 (v0 &&& (2147483647 : Int32))) = (1 : Int32)
  · refine G_icmpNo X10 hx (pc' := 43) rfl (hb hby at_40) (teq hc40_1).2 ?_
    refine G_iconst X10 hx (pc' := 44) rfl (hb hby at_43) (z := (1 : Int32)) rfl ?_
    refine G_goto X10 hx (pc' := 48) (hb hby at_44)  (by decide) (by decide) ?_
    refine G_istore X10 hx (pc' := 50) rfl (hb hby at_48) (L' := #[.val (.int v0), .val (.int (v0 &&& (2147483647 : Int32))), .val (.int (f_req0 (v0 &&& (2147483647 : Int32)))), .val (.int (f_req1 (v0 &&& (2147483647 : Int32)))), .val (.int (f_req2 (v0 &&& (2147483647 : Int32)))), .val (.long ((v0 &&& (2147483647 : Int32)).toInt64)), .second, .val (.long ((f_req1 (v0 &&& (2147483647 : Int32))).toInt64)), .second, .val (.int (1 : Int32)), .unset, .unset]) rfl ?_
    refine G_iload X10 hx (pc' := 52) rfl (hb hby at_50) rfl ?_
    refine G_iloadN X10 hx (pc' := 53) rfl (hb hby at_52) rfl ?_
    by_cases hc53_2 : (f_req2 (v0 &&& (2147483647 : Int32))) = (v0 &&& (2147483647 : Int32))
    · refine G_icmpNo X10 hx (pc' := 56) rfl (hb hby at_53) (teq hc53_2).2 ?_
      refine G_iconst X10 hx (pc' := 57) rfl (hb hby at_56) (z := (1 : Int32)) rfl ?_
      refine G_goto X10 hx (pc' := 61) (hb hby at_57)  (by decide) (by decide) ?_
      refine G_istore X10 hx (pc' := 63) rfl (hb hby at_61) (L' := #[.val (.int v0), .val (.int (v0 &&& (2147483647 : Int32))), .val (.int (f_req0 (v0 &&& (2147483647 : Int32)))), .val (.int (f_req1 (v0 &&& (2147483647 : Int32)))), .val (.int (f_req2 (v0 &&& (2147483647 : Int32)))), .val (.long ((v0 &&& (2147483647 : Int32)).toInt64)), .second, .val (.long ((f_req1 (v0 &&& (2147483647 : Int32))).toInt64)), .second, .val (.int (1 : Int32)), .val (.int (1 : Int32)), .unset]) rfl ?_
      refine G_ldc2 X10 hx (pc' := 66) rfl hown (mvT hZ (hw _ (List.mem_of_getElem? (i := 22) rfl))) (hb hby at_63) ?_
      refine G_lload X10 hx (pc' := 68) rfl (hb hby at_66) rfl ?_
      refine G_lmul X10 hx (pc' := 69) rfl (hb hby at_68)  ?_
      refine G_lload X10 hx (pc' := 71) rfl (hb hby at_69) rfl ?_
      refine G_lcmp X10 hx (pc' := 72) rfl (hb hby at_71)  ?_
      by_cases hc72_3 : ((v0 &&& (2147483647 : Int32)).toInt64) < ((2 : Int64) * ((f_req1 (v0 &&& (2147483647 : Int32))).toInt64))
      · refine G_ifNo X10 hx (pc' := 75) rfl (hb hby at_72) ((if0 _ _).trans (tlt ((lw_gt _ _).2 hc72_3)).2.2.2) ?_
        refine G_ldc2 X10 hx (pc' := 78) rfl hown (mvT hZ (hw _ (List.mem_of_getElem? (i := 22) rfl))) (hb hby at_75) ?_
        refine G_lload X10 hx (pc' := 80) rfl (hb hby at_78) rfl ?_
        refine G_lconst X10 hx (pc' := 81) rfl (hb hby at_80) (z := (1 : Int64)) rfl ?_
        refine G_lsub X10 hx (pc' := 82) rfl (hb hby at_81)  ?_
        refine G_lmul X10 hx (pc' := 83) rfl (hb hby at_82)  ?_
        refine G_lload X10 hx (pc' := 85) rfl (hb hby at_83) rfl ?_
        refine G_lcmp X10 hx (pc' := 86) rfl (hb hby at_85)  ?_
        by_cases hc86_4 : ((v0 &&& (2147483647 : Int32)).toInt64) < ((2 : Int64) * (((f_req1 (v0 &&& (2147483647 : Int32))).toInt64) - (1 : Int64)))
        · refine G_ifYes X10 hx (pc' := 93) (hb hby at_86) ((if0 _ _).trans (tlt ((lw_gt _ _).2 hc86_4)).2.2.1) (by decide) (by decide) ?_
          refine G_iconst X10 hx (pc' := 94) rfl (hb hby at_93) (z := (0 : Int32)) rfl ?_
          refine G_istore X10 hx (pc' := 96) rfl (hb hby at_94) (L' := #[.val (.int v0), .val (.int (v0 &&& (2147483647 : Int32))), .val (.int (f_req0 (v0 &&& (2147483647 : Int32)))), .val (.int (f_req1 (v0 &&& (2147483647 : Int32)))), .val (.int (f_req2 (v0 &&& (2147483647 : Int32)))), .val (.long ((v0 &&& (2147483647 : Int32)).toInt64)), .second, .val (.long ((f_req1 (v0 &&& (2147483647 : Int32))).toInt64)), .second, .val (.int (1 : Int32)), .val (.int (1 : Int32)), .val (.int (0 : Int32))]) rfl ?_
          refine G_iload X10 hx (pc' := 98) rfl (hb hby at_96) rfl ?_
          refine G_ifNo X10 hx (pc' := 101) rfl (hb hby at_98) ((if0 _ _).trans (feq (by decide : ¬ ((1 : Int32) = (0 : Int32)))).1) ?_
          refine G_iload X10 hx (pc' := 103) rfl (hb hby at_101) rfl ?_
          refine G_ifNo X10 hx (pc' := 106) rfl (hb hby at_103) ((if0 _ _).trans (feq (by decide : ¬ ((1 : Int32) = (0 : Int32)))).1) ?_
          refine G_iload X10 hx (pc' := 108) rfl (hb hby at_106) rfl ?_
          refine G_ifYes X10 hx (pc' := 115) (hb hby at_108) ((if0 _ _).trans (teq (by decide : (0 : Int32) = (0 : Int32))).1) (by decide) (by decide) ?_
          refine G_iconst X10 hx (pc' := 116) rfl (hb hby at_115) (z := (0 : Int32)) rfl ?_
          refine Go.fin X10 hlk (v := some (.int (0 : Int32))) (fun h => by rw [Bd.returns] at h; cases h) (by decide) (by decide) ?_ (fun fs hr => retN X10 hx (t := .boolean) Bd.returns (by simp) (hb hby at_116) hr)
          show Q_law Z v0 aO aM aA h0 n0 _ T10.heap _
          rw [e10]
          exact ⟨congrArg (fun z => some (Value.int z)) (by rw [f_law]; rw [if_pos hc40_1, if_pos hc53_2, if_pos hc72_3, if_pos hc86_4]), N10⟩
        · refine G_ifNo X10 hx (pc' := 89) rfl (hb hby at_86) ((if0 _ _).trans (flt (fun q => hc86_4 ((lw_gt _ _).1 q))).2.2.1) ?_
          refine G_iconst X10 hx (pc' := 90) rfl (hb hby at_89) (z := (1 : Int32)) rfl ?_
          refine G_goto X10 hx (pc' := 94) (hb hby at_90)  (by decide) (by decide) ?_
          refine G_istore X10 hx (pc' := 96) rfl (hb hby at_94) (L' := #[.val (.int v0), .val (.int (v0 &&& (2147483647 : Int32))), .val (.int (f_req0 (v0 &&& (2147483647 : Int32)))), .val (.int (f_req1 (v0 &&& (2147483647 : Int32)))), .val (.int (f_req2 (v0 &&& (2147483647 : Int32)))), .val (.long ((v0 &&& (2147483647 : Int32)).toInt64)), .second, .val (.long ((f_req1 (v0 &&& (2147483647 : Int32))).toInt64)), .second, .val (.int (1 : Int32)), .val (.int (1 : Int32)), .val (.int (1 : Int32))]) rfl ?_
          refine G_iload X10 hx (pc' := 98) rfl (hb hby at_96) rfl ?_
          refine G_ifNo X10 hx (pc' := 101) rfl (hb hby at_98) ((if0 _ _).trans (feq (by decide : ¬ ((1 : Int32) = (0 : Int32)))).1) ?_
          refine G_iload X10 hx (pc' := 103) rfl (hb hby at_101) rfl ?_
          refine G_ifNo X10 hx (pc' := 106) rfl (hb hby at_103) ((if0 _ _).trans (feq (by decide : ¬ ((1 : Int32) = (0 : Int32)))).1) ?_
          refine G_iload X10 hx (pc' := 108) rfl (hb hby at_106) rfl ?_
          refine G_ifNo X10 hx (pc' := 111) rfl (hb hby at_108) ((if0 _ _).trans (feq (by decide : ¬ ((1 : Int32) = (0 : Int32)))).1) ?_
          refine G_iconst X10 hx (pc' := 112) rfl (hb hby at_111) (z := (1 : Int32)) rfl ?_
          refine G_goto X10 hx (pc' := 116) (hb hby at_112)  (by decide) (by decide) ?_
          refine Go.fin X10 hlk (v := some (.int (1 : Int32))) (fun h => by rw [Bd.returns] at h; cases h) (by decide) (by decide) ?_ (fun fs hr => retN X10 hx (t := .boolean) Bd.returns (by simp) (hb hby at_116) hr)
          show Q_law Z v0 aO aM aA h0 n0 _ T10.heap _
          rw [e10]
          exact ⟨congrArg (fun z => some (Value.int z)) (by rw [f_law]; rw [if_pos hc40_1, if_pos hc53_2, if_pos hc72_3, if_neg hc86_4]), N10⟩
      · refine G_ifYes X10 hx (pc' := 93) (hb hby at_72) ((if0 _ _).trans (flt (fun q => hc72_3 ((lw_gt _ _).1 q))).2.2.2) (by decide) (by decide) ?_
        refine G_iconst X10 hx (pc' := 94) rfl (hb hby at_93) (z := (0 : Int32)) rfl ?_
        refine G_istore X10 hx (pc' := 96) rfl (hb hby at_94) (L' := #[.val (.int v0), .val (.int (v0 &&& (2147483647 : Int32))), .val (.int (f_req0 (v0 &&& (2147483647 : Int32)))), .val (.int (f_req1 (v0 &&& (2147483647 : Int32)))), .val (.int (f_req2 (v0 &&& (2147483647 : Int32)))), .val (.long ((v0 &&& (2147483647 : Int32)).toInt64)), .second, .val (.long ((f_req1 (v0 &&& (2147483647 : Int32))).toInt64)), .second, .val (.int (1 : Int32)), .val (.int (1 : Int32)), .val (.int (0 : Int32))]) rfl ?_
        refine G_iload X10 hx (pc' := 98) rfl (hb hby at_96) rfl ?_
        refine G_ifNo X10 hx (pc' := 101) rfl (hb hby at_98) ((if0 _ _).trans (feq (by decide : ¬ ((1 : Int32) = (0 : Int32)))).1) ?_
        refine G_iload X10 hx (pc' := 103) rfl (hb hby at_101) rfl ?_
        refine G_ifNo X10 hx (pc' := 106) rfl (hb hby at_103) ((if0 _ _).trans (feq (by decide : ¬ ((1 : Int32) = (0 : Int32)))).1) ?_
        refine G_iload X10 hx (pc' := 108) rfl (hb hby at_106) rfl ?_
        refine G_ifYes X10 hx (pc' := 115) (hb hby at_108) ((if0 _ _).trans (teq (by decide : (0 : Int32) = (0 : Int32))).1) (by decide) (by decide) ?_
        refine G_iconst X10 hx (pc' := 116) rfl (hb hby at_115) (z := (0 : Int32)) rfl ?_
        refine Go.fin X10 hlk (v := some (.int (0 : Int32))) (fun h => by rw [Bd.returns] at h; cases h) (by decide) (by decide) ?_ (fun fs hr => retN X10 hx (t := .boolean) Bd.returns (by simp) (hb hby at_116) hr)
        show Q_law Z v0 aO aM aA h0 n0 _ T10.heap _
        rw [e10]
        exact ⟨congrArg (fun z => some (Value.int z)) (by rw [f_law]; rw [if_pos hc40_1, if_pos hc53_2, if_neg hc72_3]), N10⟩
    · refine G_icmpYes X10 hx (pc' := 60) (hb hby at_53) (feq hc53_2).2 (by decide) (by decide) ?_
      refine G_iconst X10 hx (pc' := 61) rfl (hb hby at_60) (z := (0 : Int32)) rfl ?_
      refine G_istore X10 hx (pc' := 63) rfl (hb hby at_61) (L' := #[.val (.int v0), .val (.int (v0 &&& (2147483647 : Int32))), .val (.int (f_req0 (v0 &&& (2147483647 : Int32)))), .val (.int (f_req1 (v0 &&& (2147483647 : Int32)))), .val (.int (f_req2 (v0 &&& (2147483647 : Int32)))), .val (.long ((v0 &&& (2147483647 : Int32)).toInt64)), .second, .val (.long ((f_req1 (v0 &&& (2147483647 : Int32))).toInt64)), .second, .val (.int (1 : Int32)), .val (.int (0 : Int32)), .unset]) rfl ?_
      refine G_ldc2 X10 hx (pc' := 66) rfl hown (mvT hZ (hw _ (List.mem_of_getElem? (i := 22) rfl))) (hb hby at_63) ?_
      refine G_lload X10 hx (pc' := 68) rfl (hb hby at_66) rfl ?_
      refine G_lmul X10 hx (pc' := 69) rfl (hb hby at_68)  ?_
      refine G_lload X10 hx (pc' := 71) rfl (hb hby at_69) rfl ?_
      refine G_lcmp X10 hx (pc' := 72) rfl (hb hby at_71)  ?_
      by_cases hc72_5 : ((v0 &&& (2147483647 : Int32)).toInt64) < ((2 : Int64) * ((f_req1 (v0 &&& (2147483647 : Int32))).toInt64))
      · refine G_ifNo X10 hx (pc' := 75) rfl (hb hby at_72) ((if0 _ _).trans (tlt ((lw_gt _ _).2 hc72_5)).2.2.2) ?_
        refine G_ldc2 X10 hx (pc' := 78) rfl hown (mvT hZ (hw _ (List.mem_of_getElem? (i := 22) rfl))) (hb hby at_75) ?_
        refine G_lload X10 hx (pc' := 80) rfl (hb hby at_78) rfl ?_
        refine G_lconst X10 hx (pc' := 81) rfl (hb hby at_80) (z := (1 : Int64)) rfl ?_
        refine G_lsub X10 hx (pc' := 82) rfl (hb hby at_81)  ?_
        refine G_lmul X10 hx (pc' := 83) rfl (hb hby at_82)  ?_
        refine G_lload X10 hx (pc' := 85) rfl (hb hby at_83) rfl ?_
        refine G_lcmp X10 hx (pc' := 86) rfl (hb hby at_85)  ?_
        by_cases hc86_6 : ((v0 &&& (2147483647 : Int32)).toInt64) < ((2 : Int64) * (((f_req1 (v0 &&& (2147483647 : Int32))).toInt64) - (1 : Int64)))
        · refine G_ifYes X10 hx (pc' := 93) (hb hby at_86) ((if0 _ _).trans (tlt ((lw_gt _ _).2 hc86_6)).2.2.1) (by decide) (by decide) ?_
          refine G_iconst X10 hx (pc' := 94) rfl (hb hby at_93) (z := (0 : Int32)) rfl ?_
          refine G_istore X10 hx (pc' := 96) rfl (hb hby at_94) (L' := #[.val (.int v0), .val (.int (v0 &&& (2147483647 : Int32))), .val (.int (f_req0 (v0 &&& (2147483647 : Int32)))), .val (.int (f_req1 (v0 &&& (2147483647 : Int32)))), .val (.int (f_req2 (v0 &&& (2147483647 : Int32)))), .val (.long ((v0 &&& (2147483647 : Int32)).toInt64)), .second, .val (.long ((f_req1 (v0 &&& (2147483647 : Int32))).toInt64)), .second, .val (.int (1 : Int32)), .val (.int (0 : Int32)), .val (.int (0 : Int32))]) rfl ?_
          refine G_iload X10 hx (pc' := 98) rfl (hb hby at_96) rfl ?_
          refine G_ifNo X10 hx (pc' := 101) rfl (hb hby at_98) ((if0 _ _).trans (feq (by decide : ¬ ((1 : Int32) = (0 : Int32)))).1) ?_
          refine G_iload X10 hx (pc' := 103) rfl (hb hby at_101) rfl ?_
          refine G_ifYes X10 hx (pc' := 115) (hb hby at_103) ((if0 _ _).trans (teq (by decide : (0 : Int32) = (0 : Int32))).1) (by decide) (by decide) ?_
          refine G_iconst X10 hx (pc' := 116) rfl (hb hby at_115) (z := (0 : Int32)) rfl ?_
          refine Go.fin X10 hlk (v := some (.int (0 : Int32))) (fun h => by rw [Bd.returns] at h; cases h) (by decide) (by decide) ?_ (fun fs hr => retN X10 hx (t := .boolean) Bd.returns (by simp) (hb hby at_116) hr)
          show Q_law Z v0 aO aM aA h0 n0 _ T10.heap _
          rw [e10]
          exact ⟨congrArg (fun z => some (Value.int z)) (by rw [f_law]; rw [if_pos hc40_1, if_neg hc53_2, if_pos hc72_5, if_pos hc86_6]), N10⟩
        · refine G_ifNo X10 hx (pc' := 89) rfl (hb hby at_86) ((if0 _ _).trans (flt (fun q => hc86_6 ((lw_gt _ _).1 q))).2.2.1) ?_
          refine G_iconst X10 hx (pc' := 90) rfl (hb hby at_89) (z := (1 : Int32)) rfl ?_
          refine G_goto X10 hx (pc' := 94) (hb hby at_90)  (by decide) (by decide) ?_
          refine G_istore X10 hx (pc' := 96) rfl (hb hby at_94) (L' := #[.val (.int v0), .val (.int (v0 &&& (2147483647 : Int32))), .val (.int (f_req0 (v0 &&& (2147483647 : Int32)))), .val (.int (f_req1 (v0 &&& (2147483647 : Int32)))), .val (.int (f_req2 (v0 &&& (2147483647 : Int32)))), .val (.long ((v0 &&& (2147483647 : Int32)).toInt64)), .second, .val (.long ((f_req1 (v0 &&& (2147483647 : Int32))).toInt64)), .second, .val (.int (1 : Int32)), .val (.int (0 : Int32)), .val (.int (1 : Int32))]) rfl ?_
          refine G_iload X10 hx (pc' := 98) rfl (hb hby at_96) rfl ?_
          refine G_ifNo X10 hx (pc' := 101) rfl (hb hby at_98) ((if0 _ _).trans (feq (by decide : ¬ ((1 : Int32) = (0 : Int32)))).1) ?_
          refine G_iload X10 hx (pc' := 103) rfl (hb hby at_101) rfl ?_
          refine G_ifYes X10 hx (pc' := 115) (hb hby at_103) ((if0 _ _).trans (teq (by decide : (0 : Int32) = (0 : Int32))).1) (by decide) (by decide) ?_
          refine G_iconst X10 hx (pc' := 116) rfl (hb hby at_115) (z := (0 : Int32)) rfl ?_
          refine Go.fin X10 hlk (v := some (.int (0 : Int32))) (fun h => by rw [Bd.returns] at h; cases h) (by decide) (by decide) ?_ (fun fs hr => retN X10 hx (t := .boolean) Bd.returns (by simp) (hb hby at_116) hr)
          show Q_law Z v0 aO aM aA h0 n0 _ T10.heap _
          rw [e10]
          exact ⟨congrArg (fun z => some (Value.int z)) (by rw [f_law]; rw [if_pos hc40_1, if_neg hc53_2, if_pos hc72_5, if_neg hc86_6]), N10⟩
      · refine G_ifYes X10 hx (pc' := 93) (hb hby at_72) ((if0 _ _).trans (flt (fun q => hc72_5 ((lw_gt _ _).1 q))).2.2.2) (by decide) (by decide) ?_
        refine G_iconst X10 hx (pc' := 94) rfl (hb hby at_93) (z := (0 : Int32)) rfl ?_
        refine G_istore X10 hx (pc' := 96) rfl (hb hby at_94) (L' := #[.val (.int v0), .val (.int (v0 &&& (2147483647 : Int32))), .val (.int (f_req0 (v0 &&& (2147483647 : Int32)))), .val (.int (f_req1 (v0 &&& (2147483647 : Int32)))), .val (.int (f_req2 (v0 &&& (2147483647 : Int32)))), .val (.long ((v0 &&& (2147483647 : Int32)).toInt64)), .second, .val (.long ((f_req1 (v0 &&& (2147483647 : Int32))).toInt64)), .second, .val (.int (1 : Int32)), .val (.int (0 : Int32)), .val (.int (0 : Int32))]) rfl ?_
        refine G_iload X10 hx (pc' := 98) rfl (hb hby at_96) rfl ?_
        refine G_ifNo X10 hx (pc' := 101) rfl (hb hby at_98) ((if0 _ _).trans (feq (by decide : ¬ ((1 : Int32) = (0 : Int32)))).1) ?_
        refine G_iload X10 hx (pc' := 103) rfl (hb hby at_101) rfl ?_
        refine G_ifYes X10 hx (pc' := 115) (hb hby at_103) ((if0 _ _).trans (teq (by decide : (0 : Int32) = (0 : Int32))).1) (by decide) (by decide) ?_
        refine G_iconst X10 hx (pc' := 116) rfl (hb hby at_115) (z := (0 : Int32)) rfl ?_
        refine Go.fin X10 hlk (v := some (.int (0 : Int32))) (fun h => by rw [Bd.returns] at h; cases h) (by decide) (by decide) ?_ (fun fs hr => retN X10 hx (t := .boolean) Bd.returns (by simp) (hb hby at_116) hr)
        show Q_law Z v0 aO aM aA h0 n0 _ T10.heap _
        rw [e10]
        exact ⟨congrArg (fun z => some (Value.int z)) (by rw [f_law]; rw [if_pos hc40_1, if_neg hc53_2, if_neg hc72_5]), N10⟩
  · refine G_icmpYes X10 hx (pc' := 47) (hb hby at_40) (feq hc40_1).2 (by decide) (by decide) ?_
    refine G_iconst X10 hx (pc' := 48) rfl (hb hby at_47) (z := (0 : Int32)) rfl ?_
    refine G_istore X10 hx (pc' := 50) rfl (hb hby at_48) (L' := #[.val (.int v0), .val (.int (v0 &&& (2147483647 : Int32))), .val (.int (f_req0 (v0 &&& (2147483647 : Int32)))), .val (.int (f_req1 (v0 &&& (2147483647 : Int32)))), .val (.int (f_req2 (v0 &&& (2147483647 : Int32)))), .val (.long ((v0 &&& (2147483647 : Int32)).toInt64)), .second, .val (.long ((f_req1 (v0 &&& (2147483647 : Int32))).toInt64)), .second, .val (.int (0 : Int32)), .unset, .unset]) rfl ?_
    refine G_iload X10 hx (pc' := 52) rfl (hb hby at_50) rfl ?_
    refine G_iloadN X10 hx (pc' := 53) rfl (hb hby at_52) rfl ?_
    by_cases hc53_7 : (f_req2 (v0 &&& (2147483647 : Int32))) = (v0 &&& (2147483647 : Int32))
    · refine G_icmpNo X10 hx (pc' := 56) rfl (hb hby at_53) (teq hc53_7).2 ?_
      refine G_iconst X10 hx (pc' := 57) rfl (hb hby at_56) (z := (1 : Int32)) rfl ?_
      refine G_goto X10 hx (pc' := 61) (hb hby at_57)  (by decide) (by decide) ?_
      refine G_istore X10 hx (pc' := 63) rfl (hb hby at_61) (L' := #[.val (.int v0), .val (.int (v0 &&& (2147483647 : Int32))), .val (.int (f_req0 (v0 &&& (2147483647 : Int32)))), .val (.int (f_req1 (v0 &&& (2147483647 : Int32)))), .val (.int (f_req2 (v0 &&& (2147483647 : Int32)))), .val (.long ((v0 &&& (2147483647 : Int32)).toInt64)), .second, .val (.long ((f_req1 (v0 &&& (2147483647 : Int32))).toInt64)), .second, .val (.int (0 : Int32)), .val (.int (1 : Int32)), .unset]) rfl ?_
      refine G_ldc2 X10 hx (pc' := 66) rfl hown (mvT hZ (hw _ (List.mem_of_getElem? (i := 22) rfl))) (hb hby at_63) ?_
      refine G_lload X10 hx (pc' := 68) rfl (hb hby at_66) rfl ?_
      refine G_lmul X10 hx (pc' := 69) rfl (hb hby at_68)  ?_
      refine G_lload X10 hx (pc' := 71) rfl (hb hby at_69) rfl ?_
      refine G_lcmp X10 hx (pc' := 72) rfl (hb hby at_71)  ?_
      by_cases hc72_8 : ((v0 &&& (2147483647 : Int32)).toInt64) < ((2 : Int64) * ((f_req1 (v0 &&& (2147483647 : Int32))).toInt64))
      · refine G_ifNo X10 hx (pc' := 75) rfl (hb hby at_72) ((if0 _ _).trans (tlt ((lw_gt _ _).2 hc72_8)).2.2.2) ?_
        refine G_ldc2 X10 hx (pc' := 78) rfl hown (mvT hZ (hw _ (List.mem_of_getElem? (i := 22) rfl))) (hb hby at_75) ?_
        refine G_lload X10 hx (pc' := 80) rfl (hb hby at_78) rfl ?_
        refine G_lconst X10 hx (pc' := 81) rfl (hb hby at_80) (z := (1 : Int64)) rfl ?_
        refine G_lsub X10 hx (pc' := 82) rfl (hb hby at_81)  ?_
        refine G_lmul X10 hx (pc' := 83) rfl (hb hby at_82)  ?_
        refine G_lload X10 hx (pc' := 85) rfl (hb hby at_83) rfl ?_
        refine G_lcmp X10 hx (pc' := 86) rfl (hb hby at_85)  ?_
        by_cases hc86_9 : ((v0 &&& (2147483647 : Int32)).toInt64) < ((2 : Int64) * (((f_req1 (v0 &&& (2147483647 : Int32))).toInt64) - (1 : Int64)))
        · refine G_ifYes X10 hx (pc' := 93) (hb hby at_86) ((if0 _ _).trans (tlt ((lw_gt _ _).2 hc86_9)).2.2.1) (by decide) (by decide) ?_
          refine G_iconst X10 hx (pc' := 94) rfl (hb hby at_93) (z := (0 : Int32)) rfl ?_
          refine G_istore X10 hx (pc' := 96) rfl (hb hby at_94) (L' := #[.val (.int v0), .val (.int (v0 &&& (2147483647 : Int32))), .val (.int (f_req0 (v0 &&& (2147483647 : Int32)))), .val (.int (f_req1 (v0 &&& (2147483647 : Int32)))), .val (.int (f_req2 (v0 &&& (2147483647 : Int32)))), .val (.long ((v0 &&& (2147483647 : Int32)).toInt64)), .second, .val (.long ((f_req1 (v0 &&& (2147483647 : Int32))).toInt64)), .second, .val (.int (0 : Int32)), .val (.int (1 : Int32)), .val (.int (0 : Int32))]) rfl ?_
          refine G_iload X10 hx (pc' := 98) rfl (hb hby at_96) rfl ?_
          refine G_ifYes X10 hx (pc' := 115) (hb hby at_98) ((if0 _ _).trans (teq (by decide : (0 : Int32) = (0 : Int32))).1) (by decide) (by decide) ?_
          refine G_iconst X10 hx (pc' := 116) rfl (hb hby at_115) (z := (0 : Int32)) rfl ?_
          refine Go.fin X10 hlk (v := some (.int (0 : Int32))) (fun h => by rw [Bd.returns] at h; cases h) (by decide) (by decide) ?_ (fun fs hr => retN X10 hx (t := .boolean) Bd.returns (by simp) (hb hby at_116) hr)
          show Q_law Z v0 aO aM aA h0 n0 _ T10.heap _
          rw [e10]
          exact ⟨congrArg (fun z => some (Value.int z)) (by rw [f_law]; rw [if_neg hc40_1, if_pos hc53_7, if_pos hc72_8, if_pos hc86_9]), N10⟩
        · refine G_ifNo X10 hx (pc' := 89) rfl (hb hby at_86) ((if0 _ _).trans (flt (fun q => hc86_9 ((lw_gt _ _).1 q))).2.2.1) ?_
          refine G_iconst X10 hx (pc' := 90) rfl (hb hby at_89) (z := (1 : Int32)) rfl ?_
          refine G_goto X10 hx (pc' := 94) (hb hby at_90)  (by decide) (by decide) ?_
          refine G_istore X10 hx (pc' := 96) rfl (hb hby at_94) (L' := #[.val (.int v0), .val (.int (v0 &&& (2147483647 : Int32))), .val (.int (f_req0 (v0 &&& (2147483647 : Int32)))), .val (.int (f_req1 (v0 &&& (2147483647 : Int32)))), .val (.int (f_req2 (v0 &&& (2147483647 : Int32)))), .val (.long ((v0 &&& (2147483647 : Int32)).toInt64)), .second, .val (.long ((f_req1 (v0 &&& (2147483647 : Int32))).toInt64)), .second, .val (.int (0 : Int32)), .val (.int (1 : Int32)), .val (.int (1 : Int32))]) rfl ?_
          refine G_iload X10 hx (pc' := 98) rfl (hb hby at_96) rfl ?_
          refine G_ifYes X10 hx (pc' := 115) (hb hby at_98) ((if0 _ _).trans (teq (by decide : (0 : Int32) = (0 : Int32))).1) (by decide) (by decide) ?_
          refine G_iconst X10 hx (pc' := 116) rfl (hb hby at_115) (z := (0 : Int32)) rfl ?_
          refine Go.fin X10 hlk (v := some (.int (0 : Int32))) (fun h => by rw [Bd.returns] at h; cases h) (by decide) (by decide) ?_ (fun fs hr => retN X10 hx (t := .boolean) Bd.returns (by simp) (hb hby at_116) hr)
          show Q_law Z v0 aO aM aA h0 n0 _ T10.heap _
          rw [e10]
          exact ⟨congrArg (fun z => some (Value.int z)) (by rw [f_law]; rw [if_neg hc40_1, if_pos hc53_7, if_pos hc72_8, if_neg hc86_9]), N10⟩
      · refine G_ifYes X10 hx (pc' := 93) (hb hby at_72) ((if0 _ _).trans (flt (fun q => hc72_8 ((lw_gt _ _).1 q))).2.2.2) (by decide) (by decide) ?_
        refine G_iconst X10 hx (pc' := 94) rfl (hb hby at_93) (z := (0 : Int32)) rfl ?_
        refine G_istore X10 hx (pc' := 96) rfl (hb hby at_94) (L' := #[.val (.int v0), .val (.int (v0 &&& (2147483647 : Int32))), .val (.int (f_req0 (v0 &&& (2147483647 : Int32)))), .val (.int (f_req1 (v0 &&& (2147483647 : Int32)))), .val (.int (f_req2 (v0 &&& (2147483647 : Int32)))), .val (.long ((v0 &&& (2147483647 : Int32)).toInt64)), .second, .val (.long ((f_req1 (v0 &&& (2147483647 : Int32))).toInt64)), .second, .val (.int (0 : Int32)), .val (.int (1 : Int32)), .val (.int (0 : Int32))]) rfl ?_
        refine G_iload X10 hx (pc' := 98) rfl (hb hby at_96) rfl ?_
        refine G_ifYes X10 hx (pc' := 115) (hb hby at_98) ((if0 _ _).trans (teq (by decide : (0 : Int32) = (0 : Int32))).1) (by decide) (by decide) ?_
        refine G_iconst X10 hx (pc' := 116) rfl (hb hby at_115) (z := (0 : Int32)) rfl ?_
        refine Go.fin X10 hlk (v := some (.int (0 : Int32))) (fun h => by rw [Bd.returns] at h; cases h) (by decide) (by decide) ?_ (fun fs hr => retN X10 hx (t := .boolean) Bd.returns (by simp) (hb hby at_116) hr)
        show Q_law Z v0 aO aM aA h0 n0 _ T10.heap _
        rw [e10]
        exact ⟨congrArg (fun z => some (Value.int z)) (by rw [f_law]; rw [if_neg hc40_1, if_pos hc53_7, if_neg hc72_8]), N10⟩
    · refine G_icmpYes X10 hx (pc' := 60) (hb hby at_53) (feq hc53_7).2 (by decide) (by decide) ?_
      refine G_iconst X10 hx (pc' := 61) rfl (hb hby at_60) (z := (0 : Int32)) rfl ?_
      refine G_istore X10 hx (pc' := 63) rfl (hb hby at_61) (L' := #[.val (.int v0), .val (.int (v0 &&& (2147483647 : Int32))), .val (.int (f_req0 (v0 &&& (2147483647 : Int32)))), .val (.int (f_req1 (v0 &&& (2147483647 : Int32)))), .val (.int (f_req2 (v0 &&& (2147483647 : Int32)))), .val (.long ((v0 &&& (2147483647 : Int32)).toInt64)), .second, .val (.long ((f_req1 (v0 &&& (2147483647 : Int32))).toInt64)), .second, .val (.int (0 : Int32)), .val (.int (0 : Int32)), .unset]) rfl ?_
      refine G_ldc2 X10 hx (pc' := 66) rfl hown (mvT hZ (hw _ (List.mem_of_getElem? (i := 22) rfl))) (hb hby at_63) ?_
      refine G_lload X10 hx (pc' := 68) rfl (hb hby at_66) rfl ?_
      refine G_lmul X10 hx (pc' := 69) rfl (hb hby at_68)  ?_
      refine G_lload X10 hx (pc' := 71) rfl (hb hby at_69) rfl ?_
      refine G_lcmp X10 hx (pc' := 72) rfl (hb hby at_71)  ?_
      by_cases hc72_10 : ((v0 &&& (2147483647 : Int32)).toInt64) < ((2 : Int64) * ((f_req1 (v0 &&& (2147483647 : Int32))).toInt64))
      · refine G_ifNo X10 hx (pc' := 75) rfl (hb hby at_72) ((if0 _ _).trans (tlt ((lw_gt _ _).2 hc72_10)).2.2.2) ?_
        refine G_ldc2 X10 hx (pc' := 78) rfl hown (mvT hZ (hw _ (List.mem_of_getElem? (i := 22) rfl))) (hb hby at_75) ?_
        refine G_lload X10 hx (pc' := 80) rfl (hb hby at_78) rfl ?_
        refine G_lconst X10 hx (pc' := 81) rfl (hb hby at_80) (z := (1 : Int64)) rfl ?_
        refine G_lsub X10 hx (pc' := 82) rfl (hb hby at_81)  ?_
        refine G_lmul X10 hx (pc' := 83) rfl (hb hby at_82)  ?_
        refine G_lload X10 hx (pc' := 85) rfl (hb hby at_83) rfl ?_
        refine G_lcmp X10 hx (pc' := 86) rfl (hb hby at_85)  ?_
        by_cases hc86_11 : ((v0 &&& (2147483647 : Int32)).toInt64) < ((2 : Int64) * (((f_req1 (v0 &&& (2147483647 : Int32))).toInt64) - (1 : Int64)))
        · refine G_ifYes X10 hx (pc' := 93) (hb hby at_86) ((if0 _ _).trans (tlt ((lw_gt _ _).2 hc86_11)).2.2.1) (by decide) (by decide) ?_
          refine G_iconst X10 hx (pc' := 94) rfl (hb hby at_93) (z := (0 : Int32)) rfl ?_
          refine G_istore X10 hx (pc' := 96) rfl (hb hby at_94) (L' := #[.val (.int v0), .val (.int (v0 &&& (2147483647 : Int32))), .val (.int (f_req0 (v0 &&& (2147483647 : Int32)))), .val (.int (f_req1 (v0 &&& (2147483647 : Int32)))), .val (.int (f_req2 (v0 &&& (2147483647 : Int32)))), .val (.long ((v0 &&& (2147483647 : Int32)).toInt64)), .second, .val (.long ((f_req1 (v0 &&& (2147483647 : Int32))).toInt64)), .second, .val (.int (0 : Int32)), .val (.int (0 : Int32)), .val (.int (0 : Int32))]) rfl ?_
          refine G_iload X10 hx (pc' := 98) rfl (hb hby at_96) rfl ?_
          refine G_ifYes X10 hx (pc' := 115) (hb hby at_98) ((if0 _ _).trans (teq (by decide : (0 : Int32) = (0 : Int32))).1) (by decide) (by decide) ?_
          refine G_iconst X10 hx (pc' := 116) rfl (hb hby at_115) (z := (0 : Int32)) rfl ?_
          refine Go.fin X10 hlk (v := some (.int (0 : Int32))) (fun h => by rw [Bd.returns] at h; cases h) (by decide) (by decide) ?_ (fun fs hr => retN X10 hx (t := .boolean) Bd.returns (by simp) (hb hby at_116) hr)
          show Q_law Z v0 aO aM aA h0 n0 _ T10.heap _
          rw [e10]
          exact ⟨congrArg (fun z => some (Value.int z)) (by rw [f_law]; rw [if_neg hc40_1, if_neg hc53_7, if_pos hc72_10, if_pos hc86_11]), N10⟩
        · refine G_ifNo X10 hx (pc' := 89) rfl (hb hby at_86) ((if0 _ _).trans (flt (fun q => hc86_11 ((lw_gt _ _).1 q))).2.2.1) ?_
          refine G_iconst X10 hx (pc' := 90) rfl (hb hby at_89) (z := (1 : Int32)) rfl ?_
          refine G_goto X10 hx (pc' := 94) (hb hby at_90)  (by decide) (by decide) ?_
          refine G_istore X10 hx (pc' := 96) rfl (hb hby at_94) (L' := #[.val (.int v0), .val (.int (v0 &&& (2147483647 : Int32))), .val (.int (f_req0 (v0 &&& (2147483647 : Int32)))), .val (.int (f_req1 (v0 &&& (2147483647 : Int32)))), .val (.int (f_req2 (v0 &&& (2147483647 : Int32)))), .val (.long ((v0 &&& (2147483647 : Int32)).toInt64)), .second, .val (.long ((f_req1 (v0 &&& (2147483647 : Int32))).toInt64)), .second, .val (.int (0 : Int32)), .val (.int (0 : Int32)), .val (.int (1 : Int32))]) rfl ?_
          refine G_iload X10 hx (pc' := 98) rfl (hb hby at_96) rfl ?_
          refine G_ifYes X10 hx (pc' := 115) (hb hby at_98) ((if0 _ _).trans (teq (by decide : (0 : Int32) = (0 : Int32))).1) (by decide) (by decide) ?_
          refine G_iconst X10 hx (pc' := 116) rfl (hb hby at_115) (z := (0 : Int32)) rfl ?_
          refine Go.fin X10 hlk (v := some (.int (0 : Int32))) (fun h => by rw [Bd.returns] at h; cases h) (by decide) (by decide) ?_ (fun fs hr => retN X10 hx (t := .boolean) Bd.returns (by simp) (hb hby at_116) hr)
          show Q_law Z v0 aO aM aA h0 n0 _ T10.heap _
          rw [e10]
          exact ⟨congrArg (fun z => some (Value.int z)) (by rw [f_law]; rw [if_neg hc40_1, if_neg hc53_7, if_pos hc72_10, if_neg hc86_11]), N10⟩
      · refine G_ifYes X10 hx (pc' := 93) (hb hby at_72) ((if0 _ _).trans (flt (fun q => hc72_10 ((lw_gt _ _).1 q))).2.2.2) (by decide) (by decide) ?_
        refine G_iconst X10 hx (pc' := 94) rfl (hb hby at_93) (z := (0 : Int32)) rfl ?_
        refine G_istore X10 hx (pc' := 96) rfl (hb hby at_94) (L' := #[.val (.int v0), .val (.int (v0 &&& (2147483647 : Int32))), .val (.int (f_req0 (v0 &&& (2147483647 : Int32)))), .val (.int (f_req1 (v0 &&& (2147483647 : Int32)))), .val (.int (f_req2 (v0 &&& (2147483647 : Int32)))), .val (.long ((v0 &&& (2147483647 : Int32)).toInt64)), .second, .val (.long ((f_req1 (v0 &&& (2147483647 : Int32))).toInt64)), .second, .val (.int (0 : Int32)), .val (.int (0 : Int32)), .val (.int (0 : Int32))]) rfl ?_
        refine G_iload X10 hx (pc' := 98) rfl (hb hby at_96) rfl ?_
        refine G_ifYes X10 hx (pc' := 115) (hb hby at_98) ((if0 _ _).trans (teq (by decide : (0 : Int32) = (0 : Int32))).1) (by decide) (by decide) ?_
        refine G_iconst X10 hx (pc' := 116) rfl (hb hby at_115) (z := (0 : Int32)) rfl ?_
        refine Go.fin X10 hlk (v := some (.int (0 : Int32))) (fun h => by rw [Bd.returns] at h; cases h) (by decide) (by decide) ?_ (fun fs hr => retN X10 hx (t := .boolean) Bd.returns (by simp) (hb hby at_116) hr)
        show Q_law Z v0 aO aM aA h0 n0 _ T10.heap _
        rw [e10]
        exact ⟨congrArg (fun z => some (Value.int z)) (by rw [f_law]; rw [if_neg hc40_1, if_neg hc53_7, if_neg hc72_10]), N10⟩
theorem own_law (a : Int32) : f_law a = 1 := by
  have h0 : 0 ≤ (a &&& (2147483647 : Int32)).toInt := by
    rw [c_mask a 2147483647 31 (by decide) (by decide)]; omega
  unfold f_law f_req0 f_req1 f_req2
  generalize (a &&& (2147483647 : Int32)) = x at *
  have l2 : (2 : Int32).toInt = 2 := by decide
  have l1 : (1 : Int32).toInt = 1 := by decide
  have m2 : (2 : Int64).toInt = 2 := by decide
  have m1 : (1 : Int64).toInt = 1 := by decide
  have e1 := (c_idiv x 2 2 (by decide) (by decide)).1 h0
  have e2 := c_iadd (x / 2) 1
  have rx := rng32 x
  have r2 := rng32 (x / 2 + 1)
  rw [l1] at e2
  have q : (x / 2 + 1).toInt = x.toInt / 2 + 1 := by omega
  generalize hm : x / 2 + 1 = m at *
  have k1 := c_i2l m
  have k2 := c_i2l x
  have k3 := c_lmul 2 m.toInt64
  have k4 := c_lsub m.toInt64 1
  have k5 := c_lmul 2 (m.toInt64 - 1)
  have s3 := rng64 (2 * m.toInt64)
  have s4 := rng64 (m.toInt64 - 1)
  have s5 := rng64 (2 * (m.toInt64 - 1))
  rw [m2] at k3 k5
  rw [m1] at k4
  have g1 : x.toInt64 < 2 * m.toInt64 := by rw [Int64.lt_iff_toInt_lt]; omega
  have g2 : ¬ x.toInt64 < 2 * (m.toInt64 - 1) := by rw [Int64.lt_iff_toInt_lt]; omega
  simp [g1, g2]

set_option maxRecDepth 65536 in
set_option maxHeartbeats 40000000 in
theorem comes_1 {Post : Tables → Env → Array Value → State → Outcome → State → Prop} (hpost : ∀ tb e args s v u, (limb_1_1.after args s (.returned v) u = true ∧ limb_1_2.after args s (.returned v) u = true ∧ True) → FrameEnd s (.returned v) u (Jvm.fieldLocs frame_1_writes args s ++ Jvm.arrayLocs frame_1_arrays args s ++ Jvm.staticLocs frame_1_statics s) 0 0 → Post tb e args s (.returned v) u) :
    ArmFor flags0 classFile x code maxLocals ret World_1 tables_1 room_1 Calls_1 rest_1 Pre_1 Post := by
  intro l hfl _ _ p e ha hc hk s m args below hf hA hF happ hP
  obtain ⟨hcalls, hrest, hpre⟩ := hP
  obtain ⟨-, -, -, hnamed, -, -, -, hat⟩ := (Spec.applies_iff hf).mp happ
  obtain ⟨hg, hn⟩ := and_e (Cond.before_iff.mp (show (Jvm.Cond.and given_1 narrow_1).before args s = true from hpre))
  obtain ⟨hcnt, hg0⟩ := and_e hg
  have ha0 := hg0
  obtain ⟨w0, rfl⟩ : ∃ w0 : Value, args = #[w0] := by
    have hs : args.size = 1 := by simpa [Cond.value, given_1] using hcnt
    obtain ⟨L⟩ := args
    match L, hs with
    | [w0], _ => exact ⟨w0, rfl⟩
  have hw := fun d (hd : d ∈ tables_1) => atoms_spec (ws := Jvm.Cond.code x code maxLocals ret :: tables_1) hat d (List.mem_cons_of_mem _ hd)
  have hfit : Fit s := fun {y c} hc i hi => by
    obtain ⟨ha, rfl⟩ := Array.getElem?_eq_some_iff.mp hc
    have q := List.all_eq_true.mp ((Array.all_eq_true_iff_forall_mem.mp hF) _ (Array.getElem_mem ha)) i (List.mem_range.mpr hi)
    simpa [Array.getElem?_eq_getElem hi] using q
  obtain ⟨i0, ei0⟩ := is_v ha0
  obtain rfl : w0 = (.int i0) := Option.some.inj ei0
  obtain ⟨n0, hn1⟩ := and_e hn
  obtain ⟨n1, hn2⟩ := and_e hn1
  obtain ⟨n2, hn3⟩ := and_e hn2
  obtain ⟨n3, hn4⟩ := and_e hn3
  obtain ⟨n4, n5⟩ := and_e hn4
  obtain ⟨aO, evO⟩ := own_ref n0
  obtain ⟨aM, evM⟩ := own_ref n2
  obtain ⟨aA, evA⟩ := own_ref n4
  have SO := Sta.start evO (Or.inr ⟨(hw _ (List.mem_of_getElem? (i := 2) rfl)), (hw _ (List.mem_of_getElem? (i := 3) rfl))⟩)
  have SM := Sta.start evM (Or.inr ⟨(hw _ (List.mem_of_getElem? (i := 2) rfl)), (hw _ (List.mem_of_getElem? (i := 19) rfl))⟩)
  have SA := Sta.start evA (Or.inr ⟨(hw _ (List.mem_of_getElem? (i := 2) rfl)), (hw _ (List.mem_of_getElem? (i := 21) rfl))⟩)
  obtain ⟨n, o, h1, h2, h3, v, L, rfl, ⟨hv, N⟩, hq⟩ := rm_law l s _ hw tables_1 i0 aO aM aA s.heap s.heap.size (Nat.le_refl _) SO SM SA (Exa.start evO n0) (Exa.start evM n2) (Exa.start evA n4) (own_fldI evO n1) (own_fldI evM n3) (own_fldI evA n5) p e ha hc hk s m _ below hf ((Spec.applies_iff_loose hf).mp happ).1 ⟨rfl, State.Warmed39.refl s, rfl⟩ trivial
  rw [own_law i0] at hv
  subst hv
  refine ⟨n, _, h1, h2, h3, hpost _ _ _ _ _ _ ⟨Cond.after_iff.mpr rfl, Cond.after_iff.mpr (eq_i res_at (Term.int_eval (1)) rfl), trivial⟩ ⟨hq.1, hq.2.1, (hq.2.2.sift fun y hy => Or.inr (N y hy)).mono (by decide) (by decide)⟩⟩
theorem main_1_1 : Claimed_1_1 := comes_1 fun _ _ _ _ _ _ h hF => ⟨h.1, hF⟩
theorem main_1_2 : Claimed_1_2 := comes_1 fun _ _ _ _ _ _ h hF => ⟨h.2.1, hF⟩
end Jvm.Pilot.@@N@@
namespace Jvm.Pilot.@@N@@
open Jvm Jvm.ClassFile Sem Op Lib Jvm.Free Jvm.Stand Jvm.Pilot.@@N@@.Jvm.D
/-! MADE BY PROGRAM (witnessworld.py) out of the Statement's table words and the real class files: 12 classes; the members and pool entries that the words name. The judged class is class 1, her method 1. -/
namespace start1
open Jvm.ClassFile
def u (s : String) : CpInfo := .utf8 (stringToUtf16 s)
/-- a pool by its gaps: so many unusable entries, then the entry; so many at the end -/
def gap : Nat → List CpInfo → List CpInfo
  | 0, r => r
  | n + 1, r => .unusable :: gap n r
def poolList (es : List (Nat × CpInfo)) (last : Nat) : List CpInfo := es.foldr (fun e r => gap e.1 (e.2 :: r)) (gap last [])
def pool (es : List (Nat × CpInfo)) (last : Nat) : Array CpInfo := ⟨poolList es last⟩
def fileOf (pool : Array CpInfo) (this : Nat) (attrs : Array Attribute := #[]) (ms : Array MethodInfo := #[]) (fl : Nat := 33) (sup : Nat := 0) (ifs : Array Nat := #[]) (fds : Array FieldInfo := #[]) : ClassFile where
  minorVersion := 0
  majorVersion := 65
  constantPool := pool
  accessFlags := fl
  thisClass := this
  superClass := sup
  interfaces := ifs
  fields := fds
  methods := ms
  attributes := attrs
def plain (name : String) (sup : Option ClassId) : Class where
  name := name
  kind := .ordinary
  loader := none
  accessFlags := 33
  super := sup
  interfaces := #[]
  cf := none
  fields := #[]
  methods := #[]
  instanceTypes := #[]
  staticTypes := #[]
  resolved := #[]
  callSites := []
  init := .initialized
  statics := none
  mirror := none

def pool0 : Array CpInfo := pool [(5, u "<init>"), (0, u "()V"), (1, .class_ 10), (1, u "java/lang/Object")] 113

def k0m0 : Method := { name := "<init>", desc := "()V", sig := { parameters := [], returnType := none }, accessFlags := 1, code := none }
/-- java/lang/Object -/
def k0 : Class := { plain "java/lang/Object" none with
  accessFlags := 33
  interfaces := #[]
  cf := some (fileOf pool0 8 #[] #[{ accessFlags := 1, nameIndex := 5, descriptorIndex := 6, attributes := #[] }] 33 0 #[] #[])
  fields := #[]
  methods := #[k0m0]
  instanceTypes := #[]
  staticTypes := #[]
  resolved := Array.replicate 124 none
  statics := none }

def pool1 : Array CpInfo := pool [(2, .class_ 4), (1, u "java/lang/Object"), (0, u "<init>"), (0, u "()V"), (0, .integer 2147483647), (0, .fieldref 9 10), (0, .class_ 11), (0, .nameAndType 12 13), (0, u "com/example/muster/muster/Consistency"), (0, u "ONE"), (0, u "Lcom/example/muster/muster/Consistency;"), (0, .methodref 9 15), (0, .nameAndType 16 17), (0, u "required"), (0, u "(I)I"), (0, .fieldref 9 19), (0, .nameAndType 20 13), (0, u "MAJORITY"), (0, .fieldref 9 22), (0, .nameAndType 23 13), (0, u "ALL"), (0, .long 2), (1, .class_ 27), (0, u "com/example/muster/muster/ConsistencyRequiredPinLaw"), (2, u "law"), (0, u "(I)Z")] 3

def k1m0 : Method := { name := "<init>", desc := "()V", sig := { parameters := [], returnType := none }, accessFlags := 2, code := none }
def k1c1 : Code := { maxStack := 6, maxLocals := 12, code := code, exceptionTable := #[], attributes := #[] }
def k1m1 : Method := { name := "law", desc := "(I)Z", sig := { parameters := [.int], returnType := some .boolean }, accessFlags := 9, code := some k1c1 }
/-- com/example/muster/muster/ConsistencyRequiredPinLaw -/
def k1 : Class := { plain "com/example/muster/muster/ConsistencyRequiredPinLaw" (some 0) with
  accessFlags := 49
  interfaces := #[]
  cf := some (fileOf pool1 26 #[] #[{ accessFlags := 2, nameIndex := 5, descriptorIndex := 6, attributes := #[] }, { accessFlags := 9, nameIndex := 30, descriptorIndex := 31, attributes := #[] }] 49 2 #[] #[])
  fields := #[]
  methods := #[k1m0, k1m1]
  instanceTypes := #[]
  staticTypes := #[]
  resolved := Array.replicate 35 none
  statics := none }

def pool2 : Array CpInfo := pool [(1, .class_ 2), (0, u "java/lang/constant/Constable"), (0, .class_ 4), (0, u "java/lang/Object")] 6

/-- java/lang/constant/Constable -/
def k2 : Class := { plain "java/lang/constant/Constable" (some 0) with
  accessFlags := 1537
  interfaces := #[]
  cf := some (fileOf pool2 1 #[] #[] 1537 3 #[] #[])
  fields := #[]
  methods := #[]
  instanceTypes := #[]
  staticTypes := #[]
  resolved := Array.replicate 11 none
  statics := none }

def pool3 : Array CpInfo := pool [(1, .class_ 2), (0, u "java/lang/Comparable"), (0, .class_ 4), (0, u "java/lang/Object")] 7

/-- java/lang/Comparable -/
def k3 : Class := { plain "java/lang/Comparable" (some 0) with
  accessFlags := 1537
  interfaces := #[]
  cf := some (fileOf pool3 1 #[] #[] 1537 3 #[] #[])
  fields := #[]
  methods := #[]
  instanceTypes := #[]
  staticTypes := #[]
  resolved := Array.replicate 12 none
  statics := none }

def pool4 : Array CpInfo := pool [(1, .class_ 2), (0, u "java/io/Serializable"), (0, .class_ 4), (0, u "java/lang/Object")] 2

/-- java/io/Serializable -/
def k4 : Class := { plain "java/io/Serializable" (some 0) with
  accessFlags := 1537
  interfaces := #[]
  cf := some (fileOf pool4 1 #[] #[] 1537 3 #[] #[])
  fields := #[]
  methods := #[]
  instanceTypes := #[]
  staticTypes := #[]
  resolved := Array.replicate 7 none
  statics := none }

def pool5 : Array CpInfo := pool [(2, .class_ 4), (1, u "java/lang/Enum"), (0, u "name"), (0, u "Ljava/lang/String;"), (0, .fieldref 2 8), (0, .nameAndType 9 10), (0, u "ordinal"), (0, u "I"), (1, .class_ 14), (1, u "java/lang/Object"), (4, u "hash"), (86, .class_ 108), (1, u "java/lang/Enum$EnumDesc"), (2, .class_ 112), (0, u "java/lang/constant/Constable"), (0, .class_ 114), (0, u "java/lang/Comparable"), (0, .class_ 116), (0, u "java/io/Serializable"), (9, u "()I")] 77

def k5c0 : Code := { maxStack := 1, maxLocals := 1, code := jdk_37_method_2_code, exceptionTable := #[], attributes := #[] }
def k5m0 : Method := { name := "ordinal", desc := "()I", sig := { parameters := [], returnType := some .int }, accessFlags := 17, code := some k5c0 }
/-- java/lang/Enum -/
def k5 : Class := { plain "java/lang/Enum" (some 0) with
  accessFlags := 1057
  interfaces := #[2, 3, 4]
  cf := some (fileOf pool5 2 #[.nestMembers #[106]] #[{ accessFlags := 17, nameIndex := 9, descriptorIndex := 126, attributes := #[] }] 1057 12 #[111, 113, 115] #[{ accessFlags := 18, nameIndex := 5, descriptorIndex := 6, attributes := #[] }, { accessFlags := 18, nameIndex := 9, descriptorIndex := 10, attributes := #[] }, { accessFlags := 2, nameIndex := 19, descriptorIndex := 10, attributes := #[] }])
  fields := #[{ name := "name", type := (.object "java/lang/String"), accessFlags := 18, slot := 0, constantValue := 0 }, { name := "ordinal", type := .int, accessFlags := 18, slot := 1, constantValue := 0 }, { name := "hash", type := .int, accessFlags := 2, slot := 2, constantValue := 0 }]
  methods := #[k5m0]
  instanceTypes := #[(.object "java/lang/String"), .int, .int]
  staticTypes := #[]
  resolved := Array.replicate 204 none
  statics := none }

def pool6 : Array CpInfo := pool [(1, .class_ 2), (0, u "com/example/muster/muster/Consistency"), (2, u "ONE"), (0, u "Lcom/example/muster/muster/Consistency;"), (2, u "MAJORITY"), (2, u "ALL"), (2, u "$VALUES"), (0, u "[Lcom/example/muster/muster/Consistency;"), (6, .class_ 25), (1, u "java/lang/Enum"), (8, u "text"), (0, u "Ljava/lang/String;"), (0, .methodref 1 37), (0, .nameAndType 38 39), (0, u "ordinal"), (0, u "()I"), (7, u "DEFAULT"), (39, u "required"), (0, u "(I)I")] 23

def k6c0 : Code := { maxStack := 4, maxLocals := 2, code := prog_17_method_4_code, exceptionTable := #[], attributes := #[] }
def k6m0 : Method := { name := "required", desc := "(I)I", sig := { parameters := [.int], returnType := some .int }, accessFlags := 0, code := some k6c0 }
/-- com/example/muster/muster/Consistency -/
def k6 : Class := { plain "com/example/muster/muster/Consistency" (some 5) with
  accessFlags := 16432
  interfaces := #[]
  cf := some (fileOf pool6 1 #[] #[{ accessFlags := 0, nameIndex := 87, descriptorIndex := 88, attributes := #[] }] 16432 23 #[] #[{ accessFlags := 16409, nameIndex := 5, descriptorIndex := 6, attributes := #[] }, { accessFlags := 16409, nameIndex := 9, descriptorIndex := 6, attributes := #[] }, { accessFlags := 16409, nameIndex := 12, descriptorIndex := 6, attributes := #[] }, { accessFlags := 24, nameIndex := 47, descriptorIndex := 6, attributes := #[] }, { accessFlags := 18, nameIndex := 34, descriptorIndex := 35, attributes := #[] }, { accessFlags := 4122, nameIndex := 15, descriptorIndex := 16, attributes := #[] }])
  fields := #[{ name := "ONE", type := (.object "com/example/muster/muster/Consistency"), accessFlags := 16409, slot := 0, constantValue := 0 }, { name := "MAJORITY", type := (.object "com/example/muster/muster/Consistency"), accessFlags := 16409, slot := 1, constantValue := 0 }, { name := "ALL", type := (.object "com/example/muster/muster/Consistency"), accessFlags := 16409, slot := 2, constantValue := 0 }, { name := "DEFAULT", type := (.object "com/example/muster/muster/Consistency"), accessFlags := 24, slot := 3, constantValue := 0 }, { name := "text", type := (.object "java/lang/String"), accessFlags := 18, slot := 3, constantValue := 0 }, { name := "$VALUES", type := (.array (.object "com/example/muster/muster/Consistency")), accessFlags := 4122, slot := 4, constantValue := 0 }]
  methods := #[k6m0]
  instanceTypes := #[(.object "java/lang/String"), .int, .int, (.object "java/lang/String")]
  staticTypes := #[(.object "com/example/muster/muster/Consistency"), (.object "com/example/muster/muster/Consistency"), (.object "com/example/muster/muster/Consistency"), (.object "com/example/muster/muster/Consistency"), (.array (.object "com/example/muster/muster/Consistency"))]
  resolved := Array.replicate 112 none
  statics := some 0 }

def pool7 : Array CpInfo := pool [(1, u "java/lang/Cloneable"), (0, .class_ 1), (0, u "java/lang/Object"), (0, .class_ 3)] 3

/-- java/lang/Cloneable -/
def k7 : Class := { plain "java/lang/Cloneable" (some 0) with
  accessFlags := 1537
  interfaces := #[]
  cf := some (fileOf pool7 2 #[] #[] 1537 4 #[] #[])
  fields := #[]
  methods := #[]
  instanceTypes := #[]
  staticTypes := #[]
  resolved := Array.replicate 8 none
  statics := none }

/-- the primitive byte -/
def k8 : Class := { plain "byte" none with kind := .primitive 'B', accessFlags := 0x411 }
/-- [B -/
def k9 : Class := { plain "[B" (some 0) with kind := .array 8 .byte, interfaces := #[7, 4], accessFlags := 1041 }

/-- the primitive int -/
def k10 : Class := { plain "int" none with kind := .primitive 'I', accessFlags := 0x411 }
/-- [I -/
def k11 : Class := { plain "[I" (some 0) with kind := .array 10 .int, interfaces := #[7, 4], accessFlags := 1041 }

def heap : Heap := #[{ cls := 6, slots := #[.ref 1, .ref 2, .ref 3, .null, .null], vm := .statics 6 },
  { cls := 6, slots := #[.null, .int 0, .int 0, .null], vm := .none },
  { cls := 6, slots := #[.null, .int 1, .int 0, .null], vm := .none },
  { cls := 6, slots := #[.null, .int 2, .int 0, .null], vm := .none }]
def classes : Array Class := #[k0, k1, k2, k3, k4, k5, k6, k7, k8, k9, k10, k11]
def interned : List (Array UInt16 × Addr) := []
def slotsUsed : Nat := 17
def theMethod : MethodId := ⟨1, 1⟩
def args0 : Array Value := #[.int 5]
def aboutOver (below : List Frame) : State where
  vm := { classes := classes, interned := interned.toArray }
  heap := heap
  slotsUsed := slotsUsed
  threads := #[{ frames := .invoking theMethod args0 :: below }]
def below0 : List Frame := [.native { method := ⟨0, 0⟩, args := #[] }]
def about1 : State := aboutOver below0
def p0 : Program := .bare "" "" ""
def e0 : Env := launch0.env 0 0 0
theorem w_frames : about1.frames = Frame.invoking theMethod args0 :: below0 := rfl
set_option maxRecDepth 65536 in
theorem w_args : argsFit about1.vm theMethod args0 = true := by decide +kernel
set_option maxRecDepth 65536 in
theorem w_heap : heapFits about1 = true := by decide +kernel
set_option maxRecDepth 65536 in
theorem w_runnable : about1.curStatus? = some .runnable := by decide +kernel
set_option maxRecDepth 65536 in
theorem w_alone : about1.alone = true := by decide +kernel
set_option maxRecDepth 65536 in
theorem w_named : about1.methodNamed? x = some theMethod := by decide +kernel
set_option maxRecDepth 65536 in
theorem w_hears : about1.hears theMethod below0 = true := by decide +kernel
set_option maxRecDepth 65536 in
theorem w_ripe : about1.ripe theMethod args0 below0 = true := by decide +kernel
theorem w_running : about1.status = .running := rfl
set_option maxRecDepth 65536 in
theorem w_room : about1.hasRoom e0.platform room_1 = true :=
  launch0.hasRoom_least _ room_1 (by decide +kernel) (by decide +kernel) (by decide +kernel) (by decide +kernel) (by decide +kernel) (by decide +kernel)
theorem allAtoms_all (ts : List Jvm.Cond) (a : Array Jvm.Value) (st : Jvm.State) : (allAtoms ts).before a st = ts.all (fun c => c.before a st) := by
  induction ts with
  | nil => rfl
  | cons c t ih =>
    show (Jvm.Cond.and c (allAtoms t)).before a st = _
    rw [Jvm.Cond.before_and, ih, List.all_cons]
def words1 : List Jvm.Cond := Jvm.Cond.code x code maxLocals ret :: tables_1
/-- a 'code' word, met by the world's own term for the bytes: nothing is compared byte by byte -/
theorem code_word {y : MethodName} {bytes : ByteArray} {mx : Nat} {rt : Option FieldType} {a : Array Value} {s : State} {m : MethodId} {meth : Method} {c : Code} (h1 : s.methodNamed? y = some m) (h2 : s.vm.method? m = some meth) (h3 : meth.code = some c) (h4 : c.code = bytes)
    (h5 : (c.maxLocals == mx && c.exceptionTable.isEmpty && decide (c.maxStack ≤ mostOperands) && decide (meth.sig.returnType = rt) && !meth.locks && decide (parseMethodDescriptor y.desc = some meth.sig)) = true) : (Jvm.Cond.code y bytes mx rt).before a s = true := by
  simp only [Bool.and_eq_true, beq_iff_eq, Bool.not_eq_true', decide_eq_true_eq] at h5
  obtain ⟨⟨⟨⟨⟨g1, g2⟩, g3⟩, g4⟩, g5⟩, g6⟩ := h5
  simp [Cond.before, Cond.holds, Cond.value, h1, h2, h3, h4, g1, g2, g3, g4, g5, g6]
def isCode : Jvm.Cond → Bool
  | .code _ _ _ _ => true
  | _ => false
theorem all_split {L : List Jvm.Cond} {P : Jvm.Cond → Bool} (h1 : L.all (fun c => isCode c || P c) = true) (h2 : ∀ c ∈ L.filter isCode, P c = true) : L.all P = true := by
  refine List.all_eq_true.mpr fun c hc => ?_
  have h := List.all_eq_true.mp h1 c hc
  rcases Bool.eq_false_or_eq_true (isCode c) with hi | hi
  · exact h2 c (List.mem_filter.mpr ⟨hc, hi⟩)
  · simpa [hi] using h
set_option maxRecDepth 65536 in
theorem w_c0 : (Jvm.Cond.code x code maxLocals ret).before args0 about1 = true := code_word (m := ⟨1, 1⟩) (meth := k1m1) (c := k1c1) (by decide +kernel) rfl rfl rfl (by decide +kernel)
set_option maxRecDepth 65536 in
theorem w_c1 : (Jvm.Cond.code ({ cls := "com/example/muster/muster/Consistency", name := "required", desc := "(I)I" } : Jvm.MethodName) prog_17_method_4_code (2 : Nat) (Option.some Jvm.ClassFile.FieldType.int)).before args0 about1 = true := code_word (m := ⟨6, 0⟩) (meth := k6m0) (c := k6c0) (by decide +kernel) rfl rfl rfl (by decide +kernel)
set_option maxRecDepth 65536 in
theorem w_c2 : (Jvm.Cond.code ({ cls := "java/lang/Enum", name := "ordinal", desc := "()I" } : Jvm.MethodName) jdk_37_method_2_code (1 : Nat) (Option.some Jvm.ClassFile.FieldType.int)).before args0 about1 = true := code_word (m := ⟨5, 0⟩) (meth := k5m0) (c := k5c0) (by decide +kernel) rfl rfl rfl (by decide +kernel)
def codes1 : List Jvm.Cond := [Jvm.Cond.code x code maxLocals ret, Jvm.Cond.code ({ cls := "com/example/muster/muster/Consistency", name := "required", desc := "(I)I" } : Jvm.MethodName) prog_17_method_4_code (2 : Nat) (Option.some Jvm.ClassFile.FieldType.int), Jvm.Cond.code ({ cls := "java/lang/Enum", name := "ordinal", desc := "()I" } : Jvm.MethodName) jdk_37_method_2_code (1 : Nat) (Option.some Jvm.ClassFile.FieldType.int)]
set_option maxRecDepth 65536 in
theorem codes_eq : words1.filter isCode = codes1 := rfl
theorem w_codes : ∀ c ∈ words1.filter isCode, c.before args0 about1 = true := by
  rw [codes_eq]
  intro c hc
  simp only [codes1, List.mem_cons, List.not_mem_nil, or_false] at hc
  rcases hc with rfl | rfl | rfl
  · exact w_c0
  · exact w_c1
  · exact w_c2
set_option maxRecDepth 65536 in
theorem w_t1 : words1.all (fun c => isCode c || c.before args0 about1) = true := by decide +kernel
theorem w_tables : (allAtoms (Jvm.Cond.code x code maxLocals ret :: tables_1)).before args0 about1 = true := by
  rw [allAtoms_all]
  show words1.all (fun c => c.before args0 about1) = true
  refine all_split ?_ w_codes
  rw [w_t1]
set_option maxRecDepth 65536 in
theorem w_case : (Jvm.Cond.and given_1 narrow_1).before args0 about1 = true := by decide +kernel
theorem w_applies : (headSpec (Jvm.Cond.code x code maxLocals ret :: tables_1) room_1).applies x e0.platform about1 = true :=
  (Spec.applies_iff w_frames).mpr ⟨w_running, w_runnable, w_alone, w_named, w_hears, w_ripe, w_room, w_tables⟩
theorem atStart : AtStart classFile x code maxLocals ret World_1 tables_1 room_1 Calls_1 rest_1 Pre_1 launch0 p0 e0 about1 theMethod args0 below0 :=
  ⟨lists_1, trivial, launch0.admits_env _ _ _, launch0.least_env, fairChoices_fair.cas, fairChoices_fair.clock, w_frames, w_args, w_heap, w_applies, trivial, trivial, w_case⟩
end start1
theorem witness_1 : WitnessClaimed_1 := ⟨start1.p0, start1.e0, start1.about1, start1.theMethod, start1.args0, start1.below0, start1.atStart⟩
end Jvm.Pilot.@@N@@
