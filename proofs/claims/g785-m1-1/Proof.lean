import JvmDerived
import JvmDerived.Pilot.@@N@@Statement
import JvmDerived.Pilot.@@N@@Code
set_option linter.unusedVariables false
set_option linter.unusedSimpArgs false
namespace Jvm.Pilot.@@N@@
open Jvm Jvm.ClassFile Sem Op Lib Jvm.Free Jvm.Stand Jvm.LawKit Jvm.RoadKit Bundle Jvm.Pilot.@@N@@.Jvm.D
section Own
variable {p : Program} {l : Launch} {e : Env} {R : Room} {s : State} {m : MethodId} {args : Array Value} {below : List Frame} {meth : Method} {c : Code} {T T' : State} {locs : List Loc} {cells slots C N : Nat} {Q : Option Value → Heap → List Loc → Prop} {g g' : JFrame}
/-- from T with the frame g on top the invocation of s comes to its end: it returns, and Q holds of what it returns, of the heap and of the places written -/
def Go (p : Program) (e : Env) (below : List Frame) (s : State) (C N : Nat) (Q : Option Value → Heap → List Loc → Prop) (T : State) (g : JFrame) : Prop :=
  ∃ s₂ o, Steps p.tables e below (T.setTop g) s₂ ∧ s₂.status = .running ∧ Ended s₂ below o ∧ ∃ v L, o = .returned v ∧ Q v s₂.heap L ∧ FrameEnd s o s₂ L C N
theorem Go.st (h : ∀ t, Steps p.tables e below (T'.setTop g') t → Steps p.tables e below (T.setTop g) t) (k : Go p e below s C N Q T' g') : Go p e below s C N Q T g := by
  obtain ⟨s2, o, h1, h2⟩ := k
  exact ⟨s2, o, h _ h1, h2⟩
theorem Go.enter (q : g = g') (k : Go p e below s C N Q T g') : ∃ s₂ o, Steps p.tables e below (T.setTop g) s₂ ∧ s₂.status = .running ∧ Ended s₂ below o ∧ ∃ v L, o = .returned v ∧ Q v s₂.heap L ∧ FrameEnd s o s₂ L C N := by
  subst q; exact k
theorem Go.fin (X : Stand p l e R s m args below meth c T locs cells slots) (hlk : meth.locks = false) {v : Option Value} (hv : meth.sig.returnType = none → v = none) (hC : cells ≤ C) (hN : slots ≤ N) (hq : Q v T.heap locs)
    (hs : ∀ fs, (∀ (f : JFrame) (acts : List Action), f.method = m → f.locked = none → f.entered = [] → (doReturn e (T.setTop f) acts v).1 = T.setFrames fs) → Steps p.tables e below (T.setTop g) (T.setFrames fs)) : Go p e below s C N Q T g := by
  obtain ⟨fs, hr, hrun, hended, hW, hsame⟩ := X.leave hv hlk
  exact ⟨_, _, hs fs hr, hrun, hended, _, _, rfl, hq, ⟨_, rfl⟩, hW, hsame.mono hC hN⟩
end Own

section OwnG
variable {p : Program} {l : Launch} {e : Env} {R : Room} {s : State} {m : MethodId} {args : Array Value} {below : List Frame} {meth : Method} {c : Code} {T : State} {locs : List Loc} {cells slots C N : Nat} {Q : Option Value → Heap → List Loc → Prop} {pc pc' : Nat} {L L' : Array Slot} {S : List Value}
theorem G_iloadN (X : Stand p l e R s m args below meth c T locs cells slots) (hx : p.tables.exec = Jvm.exec) {k : Fin 4} {v : Int32} (hp : pc + 1 = pc') (hd : decode c.code pc = .ok (.iload_n k, 1)) (hl : L[k.val]? = some (.val (.int v))) (h : Go p e below s C N Q T (mkF m pc' L (.int v :: S))) : Go p e below s C N Q T (mkF m pc L S) := by
  subst hp; exact Go.st (fun _ k => XS.iloadN X.here hx rfl hd hl k) h
theorem G_iload (X : Stand p l e R s m args below meth c T locs cells slots) (hx : p.tables.exec = Jvm.exec) {k : Nat} {v : Int32} (hp : pc + 2 = pc') (hd : decode c.code pc = .ok (.iload k, 2)) (hl : L[k]? = some (.val (.int v))) (h : Go p e below s C N Q T (mkF m pc' L (.int v :: S))) : Go p e below s C N Q T (mkF m pc L S) := by
  subst hp; exact Go.st (fun _ k => XS.iload X.here hx rfl hd hl k) h
theorem G_istoreN (X : Stand p l e R s m args below meth c T locs cells slots) (hx : p.tables.exec = Jvm.exec) {k : Fin 4} {v : Int32} (hp : pc + 1 = pc') (hd : decode c.code pc = .ok (.istore_n k, 1)) (hl : storeLocals L k.val (.int v) = some L') (h : Go p e below s C N Q T (mkF m pc' L' S)) : Go p e below s C N Q T (mkF m pc L (.int v :: S)) := by
  subst hp; exact Go.st (fun _ k => XS.istoreN X.here hx rfl hd rfl hl k) h
theorem G_istore (X : Stand p l e R s m args below meth c T locs cells slots) (hx : p.tables.exec = Jvm.exec) {k : Nat} {v : Int32} (hp : pc + 2 = pc') (hd : decode c.code pc = .ok (.istore k, 2)) (hl : storeLocals L k (.int v) = some L') (h : Go p e below s C N Q T (mkF m pc' L' S)) : Go p e below s C N Q T (mkF m pc L (.int v :: S)) := by
  subst hp; exact Go.st (fun _ k => XS.istore X.here hx rfl hd rfl hl k) h
theorem G_lloadN (X : Stand p l e R s m args below meth c T locs cells slots) (hx : p.tables.exec = Jvm.exec) {k : Fin 4} {v : Int64} (hp : pc + 1 = pc') (hd : decode c.code pc = .ok (.lload_n k, 1)) (hl : L[k.val]? = some (.val (.long v))) (h : Go p e below s C N Q T (mkF m pc' L (.long v :: S))) : Go p e below s C N Q T (mkF m pc L S) := by
  subst hp; exact Go.st (fun _ k => XS.lloadN X.here hx rfl hd hl k) h
theorem G_lload (X : Stand p l e R s m args below meth c T locs cells slots) (hx : p.tables.exec = Jvm.exec) {k : Nat} {v : Int64} (hp : pc + 2 = pc') (hd : decode c.code pc = .ok (.lload k, 2)) (hl : L[k]? = some (.val (.long v))) (h : Go p e below s C N Q T (mkF m pc' L (.long v :: S))) : Go p e below s C N Q T (mkF m pc L S) := by
  subst hp; exact Go.st (fun _ k => XS.lload X.here hx rfl hd hl k) h
theorem G_lstoreN (X : Stand p l e R s m args below meth c T locs cells slots) (hx : p.tables.exec = Jvm.exec) {k : Fin 4} {v : Int64} (hp : pc + 1 = pc') (hd : decode c.code pc = .ok (.lstore_n k, 1)) (hl : storeLocals L k.val (.long v) = some L') (h : Go p e below s C N Q T (mkF m pc' L' S)) : Go p e below s C N Q T (mkF m pc L (.long v :: S)) := by
  subst hp; exact Go.st (fun _ k => XS.lstoreN X.here hx rfl hd rfl hl k) h
theorem G_lstore (X : Stand p l e R s m args below meth c T locs cells slots) (hx : p.tables.exec = Jvm.exec) {k : Nat} {v : Int64} (hp : pc + 2 = pc') (hd : decode c.code pc = .ok (.lstore k, 2)) (hl : storeLocals L k (.long v) = some L') (h : Go p e below s C N Q T (mkF m pc' L' S)) : Go p e below s C N Q T (mkF m pc L (.long v :: S)) := by
  subst hp; exact Go.st (fun _ k => XS.lstore X.here hx rfl hd rfl hl k) h
theorem G_aloadN (X : Stand p l e R s m args below meth c T locs cells slots) (hx : p.tables.exec = Jvm.exec) {k : Fin 4} {v : Value} (hp : pc + 1 = pc') (hd : decode c.code pc = .ok (.aload_n k, 1)) (hl : L[k.val]? = some (.val v)) (hv : v.isRef = true) (h : Go p e below s C N Q T (mkF m pc' L (v :: S))) : Go p e below s C N Q T (mkF m pc L S) := by
  subst hp; exact Go.st (fun _ k => XS.aloadN X.here hx rfl hd hl hv k) h
theorem G_aload (X : Stand p l e R s m args below meth c T locs cells slots) (hx : p.tables.exec = Jvm.exec) {k : Nat} {v : Value} (hp : pc + 2 = pc') (hd : decode c.code pc = .ok (.aload k, 2)) (hl : L[k]? = some (.val v)) (hv : v.isRef = true) (h : Go p e below s C N Q T (mkF m pc' L (v :: S))) : Go p e below s C N Q T (mkF m pc L S) := by
  subst hp; exact Go.st (fun _ k => XS.aload X.here hx rfl hd hl hv k) h
theorem G_astoreN (X : Stand p l e R s m args below meth c T locs cells slots) (hx : p.tables.exec = Jvm.exec) {k : Fin 4} {v : Value} (hp : pc + 1 = pc') (hd : decode c.code pc = .ok (.astore_n k, 1)) (hv : v.isRef = true) (hl : storeLocals L k.val v = some L') (h : Go p e below s C N Q T (mkF m pc' L' S)) : Go p e below s C N Q T (mkF m pc L (v :: S)) := by
  subst hp; exact Go.st (fun _ k => XS.astoreN X.here hx rfl hd rfl hv hl k) h
theorem G_astore (X : Stand p l e R s m args below meth c T locs cells slots) (hx : p.tables.exec = Jvm.exec) {k : Nat} {v : Value} (hp : pc + 2 = pc') (hd : decode c.code pc = .ok (.astore k, 2)) (hv : v.isRef = true) (hl : storeLocals L k v = some L') (h : Go p e below s C N Q T (mkF m pc' L' S)) : Go p e below s C N Q T (mkF m pc L (v :: S)) := by
  subst hp; exact Go.st (fun _ k => XS.astore X.here hx rfl hd rfl hv hl k) h
theorem G_iconst (X : Stand p l e R s m args below meth c T locs cells slots) (hx : p.tables.exec = Jvm.exec) {i : Int} {z : Int32} (hp : pc + 1 = pc') (hd : decode c.code pc = .ok (.iconst i, 1)) (hz : Int32.ofInt i = z) (h : Go p e below s C N Q T (mkF m pc' L (.int z :: S))) : Go p e below s C N Q T (mkF m pc L S) := by
  subst hp; exact Go.st (fun _ k => XS.iconst X.here hx rfl hd (by rw [hz]; exact k)) h
theorem G_bipush (X : Stand p l e R s m args below meth c T locs cells slots) (hx : p.tables.exec = Jvm.exec) {i : Int} {z : Int32} (hp : pc + 2 = pc') (hd : decode c.code pc = .ok (.bipush i, 2)) (hz : (Int8.ofInt i).toInt32 = z) (h : Go p e below s C N Q T (mkF m pc' L (.int z :: S))) : Go p e below s C N Q T (mkF m pc L S) := by
  subst hp; exact Go.st (fun _ k => XS.bipush X.here hx rfl hd (by rw [hz]; exact k)) h
theorem G_sipush (X : Stand p l e R s m args below meth c T locs cells slots) (hx : p.tables.exec = Jvm.exec) {i : Int} {z : Int32} (hp : pc + 3 = pc') (hd : decode c.code pc = .ok (.sipush i, 3)) (hz : (Int16.ofInt i).toInt32 = z) (h : Go p e below s C N Q T (mkF m pc' L (.int z :: S))) : Go p e below s C N Q T (mkF m pc L S) := by
  subst hp; exact Go.st (fun _ k => XS.sipush X.here hx rfl hd (by rw [hz]; exact k)) h
theorem G_lconst (X : Stand p l e R s m args below meth c T locs cells slots) (hx : p.tables.exec = Jvm.exec) {i : Fin 2} {z : Int64} (hp : pc + 1 = pc') (hd : decode c.code pc = .ok (.lconst i, 1)) (hz : Int64.ofNat i = z) (h : Go p e below s C N Q T (mkF m pc' L (.long z :: S))) : Go p e below s C N Q T (mkF m pc L S) := by
  subst hp; exact Go.st (fun _ k => XS.lconst X.here hx rfl hd (by rw [hz]; exact k)) h
theorem G_aconstNull (X : Stand p l e R s m args below meth c T locs cells slots) (hx : p.tables.exec = Jvm.exec)  (hp : pc + 1 = pc') (hd : decode c.code pc = .ok (.aconst_null, 1))  (h : Go p e below s C N Q T (mkF m pc' L (.null :: S))) : Go p e below s C N Q T (mkF m pc L S) := by
  subst hp; exact Go.st (fun _ k => XS.aconstNull X.here hx rfl hd k) h
theorem G_iadd (X : Stand p l e R s m args below meth c T locs cells slots) (hx : p.tables.exec = Jvm.exec) {x y : Int32} (hp : pc + 1 = pc') (hd : decode c.code pc = .ok (.iadd, 1))  (h : Go p e below s C N Q T (mkF m pc' L (.int (x + y) :: S))) : Go p e below s C N Q T (mkF m pc L (.int y :: .int x :: S)) := by
  subst hp; exact Go.st (fun _ k => XS.iadd X.here hx rfl hd rfl k) h
theorem G_isub (X : Stand p l e R s m args below meth c T locs cells slots) (hx : p.tables.exec = Jvm.exec) {x y : Int32} (hp : pc + 1 = pc') (hd : decode c.code pc = .ok (.isub, 1))  (h : Go p e below s C N Q T (mkF m pc' L (.int (x - y) :: S))) : Go p e below s C N Q T (mkF m pc L (.int y :: .int x :: S)) := by
  subst hp; exact Go.st (fun _ k => XS.isub X.here hx rfl hd rfl k) h
theorem G_imul (X : Stand p l e R s m args below meth c T locs cells slots) (hx : p.tables.exec = Jvm.exec) {x y : Int32} (hp : pc + 1 = pc') (hd : decode c.code pc = .ok (.imul, 1))  (h : Go p e below s C N Q T (mkF m pc' L (.int (x * y) :: S))) : Go p e below s C N Q T (mkF m pc L (.int y :: .int x :: S)) := by
  subst hp; exact Go.st (fun _ k => XS.imul X.here hx rfl hd rfl k) h
theorem G_iand (X : Stand p l e R s m args below meth c T locs cells slots) (hx : p.tables.exec = Jvm.exec) {x y : Int32} (hp : pc + 1 = pc') (hd : decode c.code pc = .ok (.iand, 1))  (h : Go p e below s C N Q T (mkF m pc' L (.int (x &&& y) :: S))) : Go p e below s C N Q T (mkF m pc L (.int y :: .int x :: S)) := by
  subst hp; exact Go.st (fun _ k => XS.iand X.here hx rfl hd rfl k) h
theorem G_ior (X : Stand p l e R s m args below meth c T locs cells slots) (hx : p.tables.exec = Jvm.exec) {x y : Int32} (hp : pc + 1 = pc') (hd : decode c.code pc = .ok (.ior, 1))  (h : Go p e below s C N Q T (mkF m pc' L (.int (x ||| y) :: S))) : Go p e below s C N Q T (mkF m pc L (.int y :: .int x :: S)) := by
  subst hp; exact Go.st (fun _ k => XS.ior X.here hx rfl hd rfl k) h
theorem G_ixor (X : Stand p l e R s m args below meth c T locs cells slots) (hx : p.tables.exec = Jvm.exec) {x y : Int32} (hp : pc + 1 = pc') (hd : decode c.code pc = .ok (.ixor, 1))  (h : Go p e below s C N Q T (mkF m pc' L (.int (x ^^^ y) :: S))) : Go p e below s C N Q T (mkF m pc L (.int y :: .int x :: S)) := by
  subst hp; exact Go.st (fun _ k => XS.ixor X.here hx rfl hd rfl k) h
theorem G_ishl (X : Stand p l e R s m args below meth c T locs cells slots) (hx : p.tables.exec = Jvm.exec) {x y : Int32} (hp : pc + 1 = pc') (hd : decode c.code pc = .ok (.ishl, 1))  (h : Go p e below s C N Q T (mkF m pc' L (.int (x <<< (y &&& 31)) :: S))) : Go p e below s C N Q T (mkF m pc L (.int y :: .int x :: S)) := by
  subst hp; exact Go.st (fun _ k => XS.ishl X.here hx rfl hd rfl k) h
theorem G_ishr (X : Stand p l e R s m args below meth c T locs cells slots) (hx : p.tables.exec = Jvm.exec) {x y : Int32} (hp : pc + 1 = pc') (hd : decode c.code pc = .ok (.ishr, 1))  (h : Go p e below s C N Q T (mkF m pc' L (.int (x >>> (y &&& 31)) :: S))) : Go p e below s C N Q T (mkF m pc L (.int y :: .int x :: S)) := by
  subst hp; exact Go.st (fun _ k => XS.ishr X.here hx rfl hd rfl k) h
theorem G_iushr (X : Stand p l e R s m args below meth c T locs cells slots) (hx : p.tables.exec = Jvm.exec) {x y : Int32} (hp : pc + 1 = pc') (hd : decode c.code pc = .ok (.iushr, 1))  (h : Go p e below s C N Q T (mkF m pc' L (.int ((x.toUInt32 >>> (y &&& 31).toUInt32).toInt32) :: S))) : Go p e below s C N Q T (mkF m pc L (.int y :: .int x :: S)) := by
  subst hp; exact Go.st (fun _ k => XS.iushr X.here hx rfl hd rfl k) h
theorem G_ladd (X : Stand p l e R s m args below meth c T locs cells slots) (hx : p.tables.exec = Jvm.exec) {x y : Int64} (hp : pc + 1 = pc') (hd : decode c.code pc = .ok (.ladd, 1))  (h : Go p e below s C N Q T (mkF m pc' L (.long (x + y) :: S))) : Go p e below s C N Q T (mkF m pc L (.long y :: .long x :: S)) := by
  subst hp; exact Go.st (fun _ k => XS.ladd X.here hx rfl hd rfl k) h
theorem G_lsub (X : Stand p l e R s m args below meth c T locs cells slots) (hx : p.tables.exec = Jvm.exec) {x y : Int64} (hp : pc + 1 = pc') (hd : decode c.code pc = .ok (.lsub, 1))  (h : Go p e below s C N Q T (mkF m pc' L (.long (x - y) :: S))) : Go p e below s C N Q T (mkF m pc L (.long y :: .long x :: S)) := by
  subst hp; exact Go.st (fun _ k => XS.lsub X.here hx rfl hd rfl k) h
theorem G_lmul (X : Stand p l e R s m args below meth c T locs cells slots) (hx : p.tables.exec = Jvm.exec) {x y : Int64} (hp : pc + 1 = pc') (hd : decode c.code pc = .ok (.lmul, 1))  (h : Go p e below s C N Q T (mkF m pc' L (.long (x * y) :: S))) : Go p e below s C N Q T (mkF m pc L (.long y :: .long x :: S)) := by
  subst hp; exact Go.st (fun _ k => XS.lmul X.here hx rfl hd rfl k) h
theorem G_land (X : Stand p l e R s m args below meth c T locs cells slots) (hx : p.tables.exec = Jvm.exec) {x y : Int64} (hp : pc + 1 = pc') (hd : decode c.code pc = .ok (.land, 1))  (h : Go p e below s C N Q T (mkF m pc' L (.long (x &&& y) :: S))) : Go p e below s C N Q T (mkF m pc L (.long y :: .long x :: S)) := by
  subst hp; exact Go.st (fun _ k => XS.land X.here hx rfl hd rfl k) h
theorem G_lor (X : Stand p l e R s m args below meth c T locs cells slots) (hx : p.tables.exec = Jvm.exec) {x y : Int64} (hp : pc + 1 = pc') (hd : decode c.code pc = .ok (.lor, 1))  (h : Go p e below s C N Q T (mkF m pc' L (.long (x ||| y) :: S))) : Go p e below s C N Q T (mkF m pc L (.long y :: .long x :: S)) := by
  subst hp; exact Go.st (fun _ k => XS.lor X.here hx rfl hd rfl k) h
theorem G_lxor (X : Stand p l e R s m args below meth c T locs cells slots) (hx : p.tables.exec = Jvm.exec) {x y : Int64} (hp : pc + 1 = pc') (hd : decode c.code pc = .ok (.lxor, 1))  (h : Go p e below s C N Q T (mkF m pc' L (.long (x ^^^ y) :: S))) : Go p e below s C N Q T (mkF m pc L (.long y :: .long x :: S)) := by
  subst hp; exact Go.st (fun _ k => XS.lxor X.here hx rfl hd rfl k) h
theorem G_lshl (X : Stand p l e R s m args below meth c T locs cells slots) (hx : p.tables.exec = Jvm.exec) {x : Int64} {y : Int32} (hp : pc + 1 = pc') (hd : decode c.code pc = .ok (.lshl, 1))  (h : Go p e below s C N Q T (mkF m pc' L (.long (x <<< (y &&& 0x3f).toInt64) :: S))) : Go p e below s C N Q T (mkF m pc L (.int y :: .long x :: S)) := by
  subst hp; exact Go.st (fun _ k => XS.lshl X.here hx rfl hd rfl k) h
theorem G_lshr (X : Stand p l e R s m args below meth c T locs cells slots) (hx : p.tables.exec = Jvm.exec) {x : Int64} {y : Int32} (hp : pc + 1 = pc') (hd : decode c.code pc = .ok (.lshr, 1))  (h : Go p e below s C N Q T (mkF m pc' L (.long (x >>> (y &&& 0x3f).toInt64) :: S))) : Go p e below s C N Q T (mkF m pc L (.int y :: .long x :: S)) := by
  subst hp; exact Go.st (fun _ k => XS.lshr X.here hx rfl hd rfl k) h
theorem G_lushr (X : Stand p l e R s m args below meth c T locs cells slots) (hx : p.tables.exec = Jvm.exec) {x : Int64} {y : Int32} (hp : pc + 1 = pc') (hd : decode c.code pc = .ok (.lushr, 1))  (h : Go p e below s C N Q T (mkF m pc' L (.long ((x.toUInt64 >>> (y &&& 0x3f).toInt64.toUInt64).toInt64) :: S))) : Go p e below s C N Q T (mkF m pc L (.int y :: .long x :: S)) := by
  subst hp; exact Go.st (fun _ k => XS.lushr X.here hx rfl hd rfl k) h
theorem G_idiv (X : Stand p l e R s m args below meth c T locs cells slots) (hx : p.tables.exec = Jvm.exec) {x y : Int32} (hp : pc + 1 = pc') (hd : decode c.code pc = .ok (.idiv, 1)) (hy : y ≠ 0) (h : Go p e below s C N Q T (mkF m pc' L (.int (x / y) :: S))) : Go p e below s C N Q T (mkF m pc L (.int y :: .int x :: S)) := by
  subst hp; exact Go.st (fun _ k => XS.idiv X.here hx rfl hd rfl hy k) h
theorem G_irem (X : Stand p l e R s m args below meth c T locs cells slots) (hx : p.tables.exec = Jvm.exec) {x y : Int32} (hp : pc + 1 = pc') (hd : decode c.code pc = .ok (.irem, 1)) (hy : y ≠ 0) (h : Go p e below s C N Q T (mkF m pc' L (.int (x % y) :: S))) : Go p e below s C N Q T (mkF m pc L (.int y :: .int x :: S)) := by
  subst hp; exact Go.st (fun _ k => iremM X hx rfl hd rfl hy k) h
theorem G_ldiv (X : Stand p l e R s m args below meth c T locs cells slots) (hx : p.tables.exec = Jvm.exec) {x y : Int64} (hp : pc + 1 = pc') (hd : decode c.code pc = .ok (.ldiv, 1)) (hy : y ≠ 0) (h : Go p e below s C N Q T (mkF m pc' L (.long (x / y) :: S))) : Go p e below s C N Q T (mkF m pc L (.long y :: .long x :: S)) := by
  subst hp; exact Go.st (fun _ k => XS.ldiv X.here hx rfl hd rfl hy k) h
theorem G_lrem (X : Stand p l e R s m args below meth c T locs cells slots) (hx : p.tables.exec = Jvm.exec) {x y : Int64} (hp : pc + 1 = pc') (hd : decode c.code pc = .ok (.lrem, 1)) (hy : y ≠ 0) (h : Go p e below s C N Q T (mkF m pc' L (.long (x % y) :: S))) : Go p e below s C N Q T (mkF m pc L (.long y :: .long x :: S)) := by
  subst hp; exact Go.st (fun _ k => XS.lrem X.here hx rfl hd rfl hy (by rw [lrem_mod]; exact k)) h
theorem G_ineg (X : Stand p l e R s m args below meth c T locs cells slots) (hx : p.tables.exec = Jvm.exec) {x : Int32} (hp : pc + 1 = pc') (hd : decode c.code pc = .ok (.ineg, 1))  (h : Go p e below s C N Q T (mkF m pc' L (.int (-x) :: S))) : Go p e below s C N Q T (mkF m pc L (.int x :: S)) := by
  subst hp; exact Go.st (fun _ k => XS.ineg X.here hx rfl hd rfl k) h
theorem G_lneg (X : Stand p l e R s m args below meth c T locs cells slots) (hx : p.tables.exec = Jvm.exec) {x : Int64} (hp : pc + 1 = pc') (hd : decode c.code pc = .ok (.lneg, 1))  (h : Go p e below s C N Q T (mkF m pc' L (.long (-x) :: S))) : Go p e below s C N Q T (mkF m pc L (.long x :: S)) := by
  subst hp; exact Go.st (fun _ k => XS.lneg X.here hx rfl hd rfl k) h
theorem G_i2l (X : Stand p l e R s m args below meth c T locs cells slots) (hx : p.tables.exec = Jvm.exec) {x : Int32} (hp : pc + 1 = pc') (hd : decode c.code pc = .ok (.i2l, 1))  (h : Go p e below s C N Q T (mkF m pc' L (.long (x.toInt64) :: S))) : Go p e below s C N Q T (mkF m pc L (.int x :: S)) := by
  subst hp; exact Go.st (fun _ k => XS.i2l X.here hx rfl hd rfl k) h
theorem G_l2i (X : Stand p l e R s m args below meth c T locs cells slots) (hx : p.tables.exec = Jvm.exec) {x : Int64} (hp : pc + 1 = pc') (hd : decode c.code pc = .ok (.l2i, 1))  (h : Go p e below s C N Q T (mkF m pc' L (.int (x.toInt32) :: S))) : Go p e below s C N Q T (mkF m pc L (.long x :: S)) := by
  subst hp; exact Go.st (fun _ k => XS.l2i X.here hx rfl hd rfl k) h
theorem G_i2b (X : Stand p l e R s m args below meth c T locs cells slots) (hx : p.tables.exec = Jvm.exec) {x : Int32} (hp : pc + 1 = pc') (hd : decode c.code pc = .ok (.i2b, 1))  (h : Go p e below s C N Q T (mkF m pc' L (.int (x.toInt8.toInt32) :: S))) : Go p e below s C N Q T (mkF m pc L (.int x :: S)) := by
  subst hp; exact Go.st (fun _ k => XS.i2b X.here hx rfl hd rfl k) h
theorem G_i2s (X : Stand p l e R s m args below meth c T locs cells slots) (hx : p.tables.exec = Jvm.exec) {x : Int32} (hp : pc + 1 = pc') (hd : decode c.code pc = .ok (.i2s, 1))  (h : Go p e below s C N Q T (mkF m pc' L (.int (x.toInt16.toInt32) :: S))) : Go p e below s C N Q T (mkF m pc L (.int x :: S)) := by
  subst hp; exact Go.st (fun _ k => XS.i2s X.here hx rfl hd rfl k) h
theorem G_i2c (X : Stand p l e R s m args below meth c T locs cells slots) (hx : p.tables.exec = Jvm.exec) {x : Int32} (hp : pc + 1 = pc') (hd : decode c.code pc = .ok (.i2c, 1))  (h : Go p e below s C N Q T (mkF m pc' L (.int (x.toUInt32.toUInt16.toUInt32.toInt32) :: S))) : Go p e below s C N Q T (mkF m pc L (.int x :: S)) := by
  subst hp; exact Go.st (fun _ k => XS.i2c X.here hx rfl hd rfl k) h
theorem G_lcmp (X : Stand p l e R s m args below meth c T locs cells slots) (hx : p.tables.exec = Jvm.exec) {x y : Int64} (hp : pc + 1 = pc') (hd : decode c.code pc = .ok (.lcmp, 1))  (h : Go p e below s C N Q T (mkF m pc' L (.int (lcmpW x y) :: S))) : Go p e below s C N Q T (mkF m pc L (.long y :: .long x :: S)) := by
  subst hp; exact Go.st (fun _ k => XS.lcmp X.here hx rfl hd rfl k) h
theorem G_iinc (X : Stand p l e R s m args below meth c T locs cells slots) (hx : p.tables.exec = Jvm.exec) {k : Nat} {cst : Int} {x z : Int32} (hp : pc + 3 = pc') (hd : decode c.code pc = .ok (.iinc k cst, 3)) (hl : L[k]? = some (.val (.int x))) (hz : x + Int32.ofInt cst = z) (hl' : storeLocals L k (.int z) = some L') (h : Go p e below s C N Q T (mkF m pc' L' S)) : Go p e below s C N Q T (mkF m pc L S) := by
  subst hp; exact Go.st (fun _ k => XS.iinc X.here hx rfl hd hl (by rw [hz]; exact hl') k) h
theorem G_dup (X : Stand p l e R s m args below meth c T locs cells slots) (hx : p.tables.exec = Jvm.exec) {x : Value} (hp : pc + 1 = pc') (hd : decode c.code pc = .ok (.dup, 1)) (hc : x.category = 1) (h : Go p e below s C N Q T (mkF m pc' L (x :: x :: S))) : Go p e below s C N Q T (mkF m pc L (x :: S)) := by
  subst hp; exact Go.st (fun _ k => XS.dup X.here hx rfl hd rfl hc k) h
theorem G_pop (X : Stand p l e R s m args below meth c T locs cells slots) (hx : p.tables.exec = Jvm.exec) {x : Value} (hp : pc + 1 = pc') (hd : decode c.code pc = .ok (.pop, 1)) (hc : x.category = 1) (h : Go p e below s C N Q T (mkF m pc' L S)) : Go p e below s C N Q T (mkF m pc L (x :: S)) := by
  subst hp; exact Go.st (fun _ k => XS.pop X.here hx rfl hd rfl hc k) h
theorem G_dupX1 (X : Stand p l e R s m args below meth c T locs cells slots) (hx : p.tables.exec = Jvm.exec) {x y : Value} (hp : pc + 1 = pc') (hd : decode c.code pc = .ok (.dup_x1, 1)) (hc : x.category = 1) (hc' : y.category = 1) (h : Go p e below s C N Q T (mkF m pc' L (x :: y :: x :: S))) : Go p e below s C N Q T (mkF m pc L (x :: y :: S)) := by
  subst hp; exact Go.st (fun _ k => XS.dupX1 X.here hx rfl hd rfl hc hc' k) h
theorem G_goto (X : Stand p l e R s m args below meth c T locs cells slots) (hx : p.tables.exec = Jvm.exec)  {o : Int} (hd : decode c.code pc = .ok (.goto o, 3))  (ho : 0 ≤ (pc : Int) + o) (hp : ((pc : Int) + o).toNat = pc') (h : Go p e below s C N Q T (mkF m pc' L S)) : Go p e below s C N Q T (mkF m pc L S) :=
  Go.st (fun _ k => XS.goto X.here hx rfl rfl hd ho hp k) h
theorem G_ifYes (X : Stand p l e R s m args below meth c T locs cells slots) (hx : p.tables.exec = Jvm.exec) {cd : ClassFile.Cond} {x : Int32} {o : Int} (hd : decode c.code pc = .ok (.ifCond cd o, 3)) (hc : ifCond.holds cd x = true) (ho : 0 ≤ (pc : Int) + o) (hp : ((pc : Int) + o).toNat = pc') (h : Go p e below s C N Q T (mkF m pc' L S)) : Go p e below s C N Q T (mkF m pc L (.int x :: S)) :=
  Go.st (fun _ k => XS.ifYes X.here hx rfl rfl hd rfl hc ho hp k) h
theorem G_icmpYes (X : Stand p l e R s m args below meth c T locs cells slots) (hx : p.tables.exec = Jvm.exec) {cd : ClassFile.Cond} {x y : Int32} {o : Int} (hd : decode c.code pc = .ok (.if_icmp cd o, 3)) (hc : if_icmp.holds cd x y = true) (ho : 0 ≤ (pc : Int) + o) (hp : ((pc : Int) + o).toNat = pc') (h : Go p e below s C N Q T (mkF m pc' L S)) : Go p e below s C N Q T (mkF m pc L (.int y :: .int x :: S)) :=
  Go.st (fun _ k => XS.icmpYes X.here hx rfl rfl hd rfl hc ho hp k) h
theorem G_ifnullYes (X : Stand p l e R s m args below meth c T locs cells slots) (hx : p.tables.exec = Jvm.exec)  {o : Int} (hd : decode c.code pc = .ok (.ifnull o, 3))  (ho : 0 ≤ (pc : Int) + o) (hp : ((pc : Int) + o).toNat = pc') (h : Go p e below s C N Q T (mkF m pc' L S)) : Go p e below s C N Q T (mkF m pc L (.null :: S)) :=
  Go.st (fun _ k => XS.ifnullYes X.here hx rfl rfl hd rfl ho hp k) h
theorem G_ifnonnullYes (X : Stand p l e R s m args below meth c T locs cells slots) (hx : p.tables.exec = Jvm.exec) {b : Addr} {o : Int} (hd : decode c.code pc = .ok (.ifnonnull o, 3))  (ho : 0 ≤ (pc : Int) + o) (hp : ((pc : Int) + o).toNat = pc') (h : Go p e below s C N Q T (mkF m pc' L S)) : Go p e below s C N Q T (mkF m pc L (.ref b :: S)) :=
  Go.st (fun _ k => XS.ifnonnullYes X.here hx rfl rfl hd rfl ho hp k) h
theorem G_ifNo (X : Stand p l e R s m args below meth c T locs cells slots) (hx : p.tables.exec = Jvm.exec) {cd : ClassFile.Cond} {x : Int32} {o : Int} (hp : pc + 3 = pc') (hd : decode c.code pc = .ok (.ifCond cd o, 3)) (hc : ifCond.holds cd x = false) (h : Go p e below s C N Q T (mkF m pc' L S)) : Go p e below s C N Q T (mkF m pc L (.int x :: S)) := by
  subst hp; exact Go.st (fun _ k => XS.ifNo X.here hx rfl hd rfl hc k) h
theorem G_icmpNo (X : Stand p l e R s m args below meth c T locs cells slots) (hx : p.tables.exec = Jvm.exec) {cd : ClassFile.Cond} {x y : Int32} {o : Int} (hp : pc + 3 = pc') (hd : decode c.code pc = .ok (.if_icmp cd o, 3)) (hc : if_icmp.holds cd x y = false) (h : Go p e below s C N Q T (mkF m pc' L S)) : Go p e below s C N Q T (mkF m pc L (.int y :: .int x :: S)) := by
  subst hp; exact Go.st (fun _ k => XS.icmpNo X.here hx rfl hd rfl hc k) h
theorem G_ifnullNo (X : Stand p l e R s m args below meth c T locs cells slots) (hx : p.tables.exec = Jvm.exec) {b : Addr} {o : Int} (hp : pc + 3 = pc') (hd : decode c.code pc = .ok (.ifnull o, 3))  (h : Go p e below s C N Q T (mkF m pc' L S)) : Go p e below s C N Q T (mkF m pc L (.ref b :: S)) := by
  subst hp; exact Go.st (fun _ k => XS.ifnullNo X.here hx rfl hd rfl k) h
theorem G_ifnonnullNo (X : Stand p l e R s m args below meth c T locs cells slots) (hx : p.tables.exec = Jvm.exec) {o : Int} (hp : pc + 3 = pc') (hd : decode c.code pc = .ok (.ifnonnull o, 3))  (h : Go p e below s C N Q T (mkF m pc' L S)) : Go p e below s C N Q T (mkF m pc L (.null :: S)) := by
  subst hp; exact Go.st (fun _ k => XS.ifnonnullNo X.here hx rfl hd rfl k) h
theorem G_ldc (X : Stand p l e R s m args below meth c T locs cells slots) (hx : p.tables.exec = Jvm.exec) (hp : pc + 2 = pc') {own : String} {index : Nat} {v : Int32} (hown : s.vm.findClass own = some m.cls) (hw : (Cond.constant own index v).before args s = true) (hd : decode c.code pc = .ok (.ldc index, 2)) (h : Go p e below s C N Q T (mkF m pc' L (.int v :: S))) : Go p e below s C N Q T (mkF m pc L S) := by
  subst hp; exact Go.st (X.ldcInt hx hown hw (g := mkF m pc L S) rfl hd) h
theorem G_ldc2 (X : Stand p l e R s m args below meth c T locs cells slots) (hx : p.tables.exec = Jvm.exec) (hp : pc + 3 = pc') {own : String} {index : Nat} {v : Int64} (hown : s.vm.findClass own = some m.cls) (hw : (Cond.constantLong own index v).before args s = true) (hd : decode c.code pc = .ok (.ldc2_w index, 3)) (h : Go p e below s C N Q T (mkF m pc' L (.long v :: S))) : Go p e below s C N Q T (mkF m pc L S) := by
  subst hp; exact Go.st (X.ldc2Long hx hown hw (g := mkF m pc L S) rfl hd) h
end OwnG


theorem d_isChar_0 : decode prog_107_method_2_code 0 = .ok (.iload_n 0, 1) := by decide +kernel
theorem d_isChar_1 : decode prog_107_method_2_code 1 = .ok (.bipush 32, 2) := by decide +kernel
theorem d_isChar_3 : decode prog_107_method_2_code 3 = .ok (.if_icmp .ge 38, 3) := by decide +kernel
theorem d_isChar_6 : decode prog_107_method_2_code 6 = .ok (.iload_n 0, 1) := by decide +kernel
theorem d_isChar_7 : decode prog_107_method_2_code 7 = .ok (.bipush 9, 2) := by decide +kernel
theorem d_isChar_9 : decode prog_107_method_2_code 9 = .ok (.if_icmp .eq 23, 3) := by decide +kernel
theorem d_isChar_32 : decode prog_107_method_2_code 32 = .ok (.iconst 1, 1) := by decide +kernel
theorem d_isChar_33 : decode prog_107_method_2_code 33 = .ok (.goto 4, 3) := by decide +kernel
theorem d_isChar_37 : decode prog_107_method_2_code 37 = .ok (.istore_n 2, 1) := by decide +kernel
theorem d_isChar_38 : decode prog_107_method_2_code 38 = .ok (.goto 33, 3) := by decide +kernel
theorem d_isChar_71 : decode prog_107_method_2_code 71 = .ok (.iload_n 2, 1) := by decide +kernel
theorem d_isChar_72 : decode prog_107_method_2_code 72 = .ok (.ireturn, 1) := by decide +kernel
theorem d_isChar_12 : decode prog_107_method_2_code 12 = .ok (.iload_n 0, 1) := by decide +kernel
theorem d_isChar_13 : decode prog_107_method_2_code 13 = .ok (.bipush 10, 2) := by decide +kernel
theorem d_isChar_15 : decode prog_107_method_2_code 15 = .ok (.if_icmp .eq 17, 3) := by decide +kernel
theorem d_isChar_18 : decode prog_107_method_2_code 18 = .ok (.iload_n 0, 1) := by decide +kernel
theorem d_isChar_19 : decode prog_107_method_2_code 19 = .ok (.bipush 13, 2) := by decide +kernel
theorem d_isChar_21 : decode prog_107_method_2_code 21 = .ok (.if_icmp .eq 11, 3) := by decide +kernel
theorem d_isChar_24 : decode prog_107_method_2_code 24 = .ok (.iload_n 1, 1) := by decide +kernel
theorem d_isChar_25 : decode prog_107_method_2_code 25 = .ok (.ifCond .eq 11, 3) := by decide +kernel
theorem d_isChar_36 : decode prog_107_method_2_code 36 = .ok (.iconst 0, 1) := by decide +kernel
theorem d_isChar_28 : decode prog_107_method_2_code 28 = .ok (.iload_n 0, 1) := by decide +kernel
theorem d_isChar_29 : decode prog_107_method_2_code 29 = .ok (.ifCond .eq 7, 3) := by decide +kernel
theorem d_isChar_41 : decode prog_107_method_2_code 41 = .ok (.iload_n 0, 1) := by decide +kernel
theorem d_isChar_42 : decode prog_107_method_2_code 42 = .ok (.ldc 7, 2) := by decide +kernel
theorem d_isChar_44 : decode prog_107_method_2_code 44 = .ok (.if_icmp .le 21, 3) := by decide +kernel
theorem d_isChar_47 : decode prog_107_method_2_code 47 = .ok (.iload_n 0, 1) := by decide +kernel
theorem d_isChar_48 : decode prog_107_method_2_code 48 = .ok (.ldc 8, 2) := by decide +kernel
theorem d_isChar_50 : decode prog_107_method_2_code 50 = .ok (.if_icmp .lt 9, 3) := by decide +kernel
theorem d_isChar_59 : decode prog_107_method_2_code 59 = .ok (.iload_n 0, 1) := by decide +kernel
theorem d_isChar_60 : decode prog_107_method_2_code 60 = .ok (.ldc 10, 2) := by decide +kernel
theorem d_isChar_62 : decode prog_107_method_2_code 62 = .ok (.if_icmp .lt 7, 3) := by decide +kernel
theorem d_isChar_69 : decode prog_107_method_2_code 69 = .ok (.iconst 0, 1) := by decide +kernel
theorem d_isChar_70 : decode prog_107_method_2_code 70 = .ok (.istore_n 2, 1) := by decide +kernel
theorem d_isChar_65 : decode prog_107_method_2_code 65 = .ok (.iconst 1, 1) := by decide +kernel
theorem d_isChar_66 : decode prog_107_method_2_code 66 = .ok (.goto 4, 3) := by decide +kernel
theorem d_isChar_53 : decode prog_107_method_2_code 53 = .ok (.iload_n 0, 1) := by decide +kernel
theorem d_isChar_54 : decode prog_107_method_2_code 54 = .ok (.ldc 9, 2) := by decide +kernel
theorem d_isChar_56 : decode prog_107_method_2_code 56 = .ok (.if_icmp .le 9, 3) := by decide +kernel
def f_isChar (v0 : Int32) (v1 : Int32) : Int32 := (if v0 < (32 : Int32) then (if v0 = (9 : Int32) then (1 : Int32) else (if v0 = (10 : Int32) then (1 : Int32) else (if v0 = (13 : Int32) then (1 : Int32) else (if v1 = (0 : Int32) then (0 : Int32) else (if v0 = (0 : Int32) then (0 : Int32) else (1 : Int32)))))) else (if (55295 : Int32) < v0 then (if v0 < (57344 : Int32) then (if v0 < (65536 : Int32) then (0 : Int32) else (1 : Int32)) else (if (65533 : Int32) < v0 then (if v0 < (65536 : Int32) then (0 : Int32) else (1 : Int32)) else (1 : Int32))) else (1 : Int32)))
theorem ef_isChar (m : MethodId) (v0 : Int32) (v1 : Int32) : entryFrame m #[(.int v0), (.int v1)] 3 = mkF m 0 #[.val (.int v0), .val (.int v1), .unset] [] := by first | (simp [entryFrame, mkF, argsToLocals, Value.category]; done) | rfl
def Q_isChar (Z : State) (v0 : Int32) (v1 : Int32) (h0 : Heap) (n0 : Nat) (v : Option Value) (h : Heap) (L : List Loc) : Prop := v = some (.int (f_isChar v0 v1)) ∧ Fr n0 L ∧ h = h0
set_option maxRecDepth 65536 in
set_option maxHeartbeats 40000000 in
theorem rm_isChar (l : Launch) (Z : State) (a0 : Array Value) (hw : ∀ d ∈ tables_1, d.before a0 Z = true) (ws : List Jvm.Cond) (v0 : Int32) (v1 : Int32) (h0 : Heap) (n0 : Nat) (Z0 : n0 ≤ h0.size) :
    MetFree l (⟨"com/example/bound_prefix/boundprefix/XmlCharacters", "isCharacter", "(IZ)Z"⟩ : MethodName) (head1 (Jvm.Cond.code (⟨"com/example/bound_prefix/boundprefix/XmlCharacters", "isCharacter", "(IZ)Z"⟩ : MethodName) prog_107_method_2_code 3 (some .boolean) :: ws) ({ frames := 0, cells := 0, slots := 0, locals := 0 } : Room)) (fun a U => a = #[(.int v0), (.int v1)] ∧ Z.Warmed39 U.vm ∧ U.heap = h0) (fun _ _ _ _ _ => True) (fun _ U o U' => ∃ v L, o = .returned v ∧ Q_isChar Z v0 v1 h0 n0 v U'.heap L ∧ FrameEnd U o U' L ({ frames := 0, cells := 0, slots := 0, locals := 0 } : Room).cells ({ frames := 0, cells := 0, slots := 0, locals := 0 } : Room).slots) := by
  refine MetFree.of_bodySF (plainFor_of_name (by first | (simp [plainName, overriddenIn]; done) | decide +kernel)) hisR ?_
  intro p e s m args below meth c s₁ Bd hml0 hP hK
  obtain ⟨rfl, hZ, hh⟩ := hP
  have hx := Bd.exec
  have hby := Bd.bytes
  have hml : c.maxLocals = 3 := hml0
  have hown : s.vm.findClass "com/example/bound_prefix/boundprefix/XmlCharacters" = some m.cls := findClass_of_methodNamed Bd.named
  have hnm := (name_of_methodNamed Bd.named Bd.method).1
  have hlk : meth.locks = false := Bd.notSynchronized
  have X0 : Stand p l e ({ frames := 0, cells := 0, slots := 0, locals := 0 } : Room) s m #[(.int v0), (.int v1)] below meth c s₁ [] 0 0 := Stand.of_body Bd
  have e0 : s₁.heap = h0 := by rw [← hh, Bd.state]; rfl
  have N0 := Fr.nil n0
  refine Go.enter (Q := Q_isChar Z v0 v1 h0 n0) (C := ({ frames := 0, cells := 0, slots := 0, locals := 0 } : Room).cells) (N := ({ frames := 0, cells := 0, slots := 0, locals := 0 } : Room).slots) (ef_isChar m v0 v1) ?_
  show Go p e below s _ _ _ s₁ (mkF m 0 #[.val (.int v0), .val (.int v1), .unset] [])
  refine G_iloadN X0 hx (pc' := 1) rfl (hb hby d_isChar_0) rfl ?_
  refine G_bipush X0 hx (pc' := 3) rfl (hb hby d_isChar_1) (z := (32 : Int32)) rfl ?_
  by_cases hc3_1 : v0 < (32 : Int32)
  · refine G_icmpNo X0 hx (pc' := 6) rfl (hb hby d_isChar_3) (tlt hc3_1).2.1 ?_
    refine G_iloadN X0 hx (pc' := 7) rfl (hb hby d_isChar_6) rfl ?_
    refine G_bipush X0 hx (pc' := 9) rfl (hb hby d_isChar_7) (z := (9 : Int32)) rfl ?_
    by_cases hc9_2 : v0 = (9 : Int32)
    · refine G_icmpYes X0 hx (pc' := 32) (hb hby d_isChar_9) (teq hc9_2).1 (by decide) (by decide) ?_
      refine G_iconst X0 hx (pc' := 33) rfl (hb hby d_isChar_32) (z := (1 : Int32)) rfl ?_
      refine G_goto X0 hx (pc' := 37) (hb hby d_isChar_33)  (by decide) (by decide) ?_
      refine G_istoreN X0 hx (pc' := 38) rfl (hb hby d_isChar_37) (L' := #[.val (.int v0), .val (.int v1), .val (.int (1 : Int32))]) rfl ?_
      refine G_goto X0 hx (pc' := 71) (hb hby d_isChar_38)  (by decide) (by decide) ?_
      refine G_iloadN X0 hx (pc' := 72) rfl (hb hby d_isChar_71) rfl ?_
      refine Go.fin X0 hlk (v := some (.int (1 : Int32))) (fun h => by rw [Bd.returns] at h; cases h) (by decide) (by decide) ?_ (fun fs hr => retN X0 hx (t := .boolean) Bd.returns (by simp) (hb hby d_isChar_72) hr)
      show Q_isChar Z v0 v1 h0 n0 _ s₁.heap _
      rw [e0]
      exact ⟨congrArg (fun z => some (Value.int z)) (by rw [f_isChar]; rw [if_pos hc3_1, if_pos hc9_2]), N0, rfl⟩
    · refine G_icmpNo X0 hx (pc' := 12) rfl (hb hby d_isChar_9) (feq hc9_2).1 ?_
      refine G_iloadN X0 hx (pc' := 13) rfl (hb hby d_isChar_12) rfl ?_
      refine G_bipush X0 hx (pc' := 15) rfl (hb hby d_isChar_13) (z := (10 : Int32)) rfl ?_
      by_cases hc15_3 : v0 = (10 : Int32)
      · refine G_icmpYes X0 hx (pc' := 32) (hb hby d_isChar_15) (teq hc15_3).1 (by decide) (by decide) ?_
        refine G_iconst X0 hx (pc' := 33) rfl (hb hby d_isChar_32) (z := (1 : Int32)) rfl ?_
        refine G_goto X0 hx (pc' := 37) (hb hby d_isChar_33)  (by decide) (by decide) ?_
        refine G_istoreN X0 hx (pc' := 38) rfl (hb hby d_isChar_37) (L' := #[.val (.int v0), .val (.int v1), .val (.int (1 : Int32))]) rfl ?_
        refine G_goto X0 hx (pc' := 71) (hb hby d_isChar_38)  (by decide) (by decide) ?_
        refine G_iloadN X0 hx (pc' := 72) rfl (hb hby d_isChar_71) rfl ?_
        refine Go.fin X0 hlk (v := some (.int (1 : Int32))) (fun h => by rw [Bd.returns] at h; cases h) (by decide) (by decide) ?_ (fun fs hr => retN X0 hx (t := .boolean) Bd.returns (by simp) (hb hby d_isChar_72) hr)
        show Q_isChar Z v0 v1 h0 n0 _ s₁.heap _
        rw [e0]
        exact ⟨congrArg (fun z => some (Value.int z)) (by rw [f_isChar]; rw [if_pos hc3_1, if_neg hc9_2, if_pos hc15_3]), N0, rfl⟩
      · refine G_icmpNo X0 hx (pc' := 18) rfl (hb hby d_isChar_15) (feq hc15_3).1 ?_
        refine G_iloadN X0 hx (pc' := 19) rfl (hb hby d_isChar_18) rfl ?_
        refine G_bipush X0 hx (pc' := 21) rfl (hb hby d_isChar_19) (z := (13 : Int32)) rfl ?_
        by_cases hc21_4 : v0 = (13 : Int32)
        · refine G_icmpYes X0 hx (pc' := 32) (hb hby d_isChar_21) (teq hc21_4).1 (by decide) (by decide) ?_
          refine G_iconst X0 hx (pc' := 33) rfl (hb hby d_isChar_32) (z := (1 : Int32)) rfl ?_
          refine G_goto X0 hx (pc' := 37) (hb hby d_isChar_33)  (by decide) (by decide) ?_
          refine G_istoreN X0 hx (pc' := 38) rfl (hb hby d_isChar_37) (L' := #[.val (.int v0), .val (.int v1), .val (.int (1 : Int32))]) rfl ?_
          refine G_goto X0 hx (pc' := 71) (hb hby d_isChar_38)  (by decide) (by decide) ?_
          refine G_iloadN X0 hx (pc' := 72) rfl (hb hby d_isChar_71) rfl ?_
          refine Go.fin X0 hlk (v := some (.int (1 : Int32))) (fun h => by rw [Bd.returns] at h; cases h) (by decide) (by decide) ?_ (fun fs hr => retN X0 hx (t := .boolean) Bd.returns (by simp) (hb hby d_isChar_72) hr)
          show Q_isChar Z v0 v1 h0 n0 _ s₁.heap _
          rw [e0]
          exact ⟨congrArg (fun z => some (Value.int z)) (by rw [f_isChar]; rw [if_pos hc3_1, if_neg hc9_2, if_neg hc15_3, if_pos hc21_4]), N0, rfl⟩
        · refine G_icmpNo X0 hx (pc' := 24) rfl (hb hby d_isChar_21) (feq hc21_4).1 ?_
          refine G_iloadN X0 hx (pc' := 25) rfl (hb hby d_isChar_24) rfl ?_
          by_cases hc25_5 : v1 = (0 : Int32)
          · refine G_ifYes X0 hx (pc' := 36) (hb hby d_isChar_25) ((if0 _ _).trans (teq hc25_5).1) (by decide) (by decide) ?_
            refine G_iconst X0 hx (pc' := 37) rfl (hb hby d_isChar_36) (z := (0 : Int32)) rfl ?_
            refine G_istoreN X0 hx (pc' := 38) rfl (hb hby d_isChar_37) (L' := #[.val (.int v0), .val (.int v1), .val (.int (0 : Int32))]) rfl ?_
            refine G_goto X0 hx (pc' := 71) (hb hby d_isChar_38)  (by decide) (by decide) ?_
            refine G_iloadN X0 hx (pc' := 72) rfl (hb hby d_isChar_71) rfl ?_
            refine Go.fin X0 hlk (v := some (.int (0 : Int32))) (fun h => by rw [Bd.returns] at h; cases h) (by decide) (by decide) ?_ (fun fs hr => retN X0 hx (t := .boolean) Bd.returns (by simp) (hb hby d_isChar_72) hr)
            show Q_isChar Z v0 v1 h0 n0 _ s₁.heap _
            rw [e0]
            exact ⟨congrArg (fun z => some (Value.int z)) (by rw [f_isChar]; rw [if_pos hc3_1, if_neg hc9_2, if_neg hc15_3, if_neg hc21_4, if_pos hc25_5]), N0, rfl⟩
          · refine G_ifNo X0 hx (pc' := 28) rfl (hb hby d_isChar_25) ((if0 _ _).trans (feq hc25_5).1) ?_
            refine G_iloadN X0 hx (pc' := 29) rfl (hb hby d_isChar_28) rfl ?_
            by_cases hc29_6 : v0 = (0 : Int32)
            · refine G_ifYes X0 hx (pc' := 36) (hb hby d_isChar_29) ((if0 _ _).trans (teq hc29_6).1) (by decide) (by decide) ?_
              refine G_iconst X0 hx (pc' := 37) rfl (hb hby d_isChar_36) (z := (0 : Int32)) rfl ?_
              refine G_istoreN X0 hx (pc' := 38) rfl (hb hby d_isChar_37) (L' := #[.val (.int v0), .val (.int v1), .val (.int (0 : Int32))]) rfl ?_
              refine G_goto X0 hx (pc' := 71) (hb hby d_isChar_38)  (by decide) (by decide) ?_
              refine G_iloadN X0 hx (pc' := 72) rfl (hb hby d_isChar_71) rfl ?_
              refine Go.fin X0 hlk (v := some (.int (0 : Int32))) (fun h => by rw [Bd.returns] at h; cases h) (by decide) (by decide) ?_ (fun fs hr => retN X0 hx (t := .boolean) Bd.returns (by simp) (hb hby d_isChar_72) hr)
              show Q_isChar Z v0 v1 h0 n0 _ s₁.heap _
              rw [e0]
              exact ⟨congrArg (fun z => some (Value.int z)) (by rw [f_isChar]; rw [if_pos hc3_1, if_neg hc9_2, if_neg hc15_3, if_neg hc21_4, if_neg hc25_5, if_pos hc29_6]), N0, rfl⟩
            · refine G_ifNo X0 hx (pc' := 32) rfl (hb hby d_isChar_29) ((if0 _ _).trans (feq hc29_6).1) ?_
              refine G_iconst X0 hx (pc' := 33) rfl (hb hby d_isChar_32) (z := (1 : Int32)) rfl ?_
              refine G_goto X0 hx (pc' := 37) (hb hby d_isChar_33)  (by decide) (by decide) ?_
              refine G_istoreN X0 hx (pc' := 38) rfl (hb hby d_isChar_37) (L' := #[.val (.int v0), .val (.int v1), .val (.int (1 : Int32))]) rfl ?_
              refine G_goto X0 hx (pc' := 71) (hb hby d_isChar_38)  (by decide) (by decide) ?_
              refine G_iloadN X0 hx (pc' := 72) rfl (hb hby d_isChar_71) rfl ?_
              refine Go.fin X0 hlk (v := some (.int (1 : Int32))) (fun h => by rw [Bd.returns] at h; cases h) (by decide) (by decide) ?_ (fun fs hr => retN X0 hx (t := .boolean) Bd.returns (by simp) (hb hby d_isChar_72) hr)
              show Q_isChar Z v0 v1 h0 n0 _ s₁.heap _
              rw [e0]
              exact ⟨congrArg (fun z => some (Value.int z)) (by rw [f_isChar]; rw [if_pos hc3_1, if_neg hc9_2, if_neg hc15_3, if_neg hc21_4, if_neg hc25_5, if_neg hc29_6]), N0, rfl⟩
  · refine G_icmpYes X0 hx (pc' := 41) (hb hby d_isChar_3) (flt hc3_1).2.1 (by decide) (by decide) ?_
    refine G_iloadN X0 hx (pc' := 42) rfl (hb hby d_isChar_41) rfl ?_
    refine G_ldc X0 hx (pc' := 44) rfl hown (mvT hZ (hw _ (List.mem_of_getElem? (i := 13) rfl))) (hb hby d_isChar_42) ?_
    by_cases hc44_7 : (55295 : Int32) < v0
    · refine G_icmpNo X0 hx (pc' := 47) rfl (hb hby d_isChar_44) (tlt hc44_7).2.2.2 ?_
      refine G_iloadN X0 hx (pc' := 48) rfl (hb hby d_isChar_47) rfl ?_
      refine G_ldc X0 hx (pc' := 50) rfl hown (mvT hZ (hw _ (List.mem_of_getElem? (i := 19) rfl))) (hb hby d_isChar_48) ?_
      by_cases hc50_8 : v0 < (57344 : Int32)
      · refine G_icmpYes X0 hx (pc' := 59) (hb hby d_isChar_50) (tlt hc50_8).1 (by decide) (by decide) ?_
        refine G_iloadN X0 hx (pc' := 60) rfl (hb hby d_isChar_59) rfl ?_
        refine G_ldc X0 hx (pc' := 62) rfl hown (mvT hZ (hw _ (List.mem_of_getElem? (i := 21) rfl))) (hb hby d_isChar_60) ?_
        by_cases hc62_9 : v0 < (65536 : Int32)
        · refine G_icmpYes X0 hx (pc' := 69) (hb hby d_isChar_62) (tlt hc62_9).1 (by decide) (by decide) ?_
          refine G_iconst X0 hx (pc' := 70) rfl (hb hby d_isChar_69) (z := (0 : Int32)) rfl ?_
          refine G_istoreN X0 hx (pc' := 71) rfl (hb hby d_isChar_70) (L' := #[.val (.int v0), .val (.int v1), .val (.int (0 : Int32))]) rfl ?_
          refine G_iloadN X0 hx (pc' := 72) rfl (hb hby d_isChar_71) rfl ?_
          refine Go.fin X0 hlk (v := some (.int (0 : Int32))) (fun h => by rw [Bd.returns] at h; cases h) (by decide) (by decide) ?_ (fun fs hr => retN X0 hx (t := .boolean) Bd.returns (by simp) (hb hby d_isChar_72) hr)
          show Q_isChar Z v0 v1 h0 n0 _ s₁.heap _
          rw [e0]
          exact ⟨congrArg (fun z => some (Value.int z)) (by rw [f_isChar]; rw [if_neg hc3_1, if_pos hc44_7, if_pos hc50_8, if_pos hc62_9]), N0, rfl⟩
        · refine G_icmpNo X0 hx (pc' := 65) rfl (hb hby d_isChar_62) (flt hc62_9).1 ?_
          refine G_iconst X0 hx (pc' := 66) rfl (hb hby d_isChar_65) (z := (1 : Int32)) rfl ?_
          refine G_goto X0 hx (pc' := 70) (hb hby d_isChar_66)  (by decide) (by decide) ?_
          refine G_istoreN X0 hx (pc' := 71) rfl (hb hby d_isChar_70) (L' := #[.val (.int v0), .val (.int v1), .val (.int (1 : Int32))]) rfl ?_
          refine G_iloadN X0 hx (pc' := 72) rfl (hb hby d_isChar_71) rfl ?_
          refine Go.fin X0 hlk (v := some (.int (1 : Int32))) (fun h => by rw [Bd.returns] at h; cases h) (by decide) (by decide) ?_ (fun fs hr => retN X0 hx (t := .boolean) Bd.returns (by simp) (hb hby d_isChar_72) hr)
          show Q_isChar Z v0 v1 h0 n0 _ s₁.heap _
          rw [e0]
          exact ⟨congrArg (fun z => some (Value.int z)) (by rw [f_isChar]; rw [if_neg hc3_1, if_pos hc44_7, if_pos hc50_8, if_neg hc62_9]), N0, rfl⟩
      · refine G_icmpNo X0 hx (pc' := 53) rfl (hb hby d_isChar_50) (flt hc50_8).1 ?_
        refine G_iloadN X0 hx (pc' := 54) rfl (hb hby d_isChar_53) rfl ?_
        refine G_ldc X0 hx (pc' := 56) rfl hown (mvT hZ (hw _ (List.mem_of_getElem? (i := 20) rfl))) (hb hby d_isChar_54) ?_
        by_cases hc56_10 : (65533 : Int32) < v0
        · refine G_icmpNo X0 hx (pc' := 59) rfl (hb hby d_isChar_56) (tlt hc56_10).2.2.2 ?_
          refine G_iloadN X0 hx (pc' := 60) rfl (hb hby d_isChar_59) rfl ?_
          refine G_ldc X0 hx (pc' := 62) rfl hown (mvT hZ (hw _ (List.mem_of_getElem? (i := 21) rfl))) (hb hby d_isChar_60) ?_
          by_cases hc62_11 : v0 < (65536 : Int32)
          · refine G_icmpYes X0 hx (pc' := 69) (hb hby d_isChar_62) (tlt hc62_11).1 (by decide) (by decide) ?_
            refine G_iconst X0 hx (pc' := 70) rfl (hb hby d_isChar_69) (z := (0 : Int32)) rfl ?_
            refine G_istoreN X0 hx (pc' := 71) rfl (hb hby d_isChar_70) (L' := #[.val (.int v0), .val (.int v1), .val (.int (0 : Int32))]) rfl ?_
            refine G_iloadN X0 hx (pc' := 72) rfl (hb hby d_isChar_71) rfl ?_
            refine Go.fin X0 hlk (v := some (.int (0 : Int32))) (fun h => by rw [Bd.returns] at h; cases h) (by decide) (by decide) ?_ (fun fs hr => retN X0 hx (t := .boolean) Bd.returns (by simp) (hb hby d_isChar_72) hr)
            show Q_isChar Z v0 v1 h0 n0 _ s₁.heap _
            rw [e0]
            exact ⟨congrArg (fun z => some (Value.int z)) (by rw [f_isChar]; rw [if_neg hc3_1, if_pos hc44_7, if_neg hc50_8, if_pos hc56_10, if_pos hc62_11]), N0, rfl⟩
          · refine G_icmpNo X0 hx (pc' := 65) rfl (hb hby d_isChar_62) (flt hc62_11).1 ?_
            refine G_iconst X0 hx (pc' := 66) rfl (hb hby d_isChar_65) (z := (1 : Int32)) rfl ?_
            refine G_goto X0 hx (pc' := 70) (hb hby d_isChar_66)  (by decide) (by decide) ?_
            refine G_istoreN X0 hx (pc' := 71) rfl (hb hby d_isChar_70) (L' := #[.val (.int v0), .val (.int v1), .val (.int (1 : Int32))]) rfl ?_
            refine G_iloadN X0 hx (pc' := 72) rfl (hb hby d_isChar_71) rfl ?_
            refine Go.fin X0 hlk (v := some (.int (1 : Int32))) (fun h => by rw [Bd.returns] at h; cases h) (by decide) (by decide) ?_ (fun fs hr => retN X0 hx (t := .boolean) Bd.returns (by simp) (hb hby d_isChar_72) hr)
            show Q_isChar Z v0 v1 h0 n0 _ s₁.heap _
            rw [e0]
            exact ⟨congrArg (fun z => some (Value.int z)) (by rw [f_isChar]; rw [if_neg hc3_1, if_pos hc44_7, if_neg hc50_8, if_pos hc56_10, if_neg hc62_11]), N0, rfl⟩
        · refine G_icmpYes X0 hx (pc' := 65) (hb hby d_isChar_56) (flt hc56_10).2.2.2 (by decide) (by decide) ?_
          refine G_iconst X0 hx (pc' := 66) rfl (hb hby d_isChar_65) (z := (1 : Int32)) rfl ?_
          refine G_goto X0 hx (pc' := 70) (hb hby d_isChar_66)  (by decide) (by decide) ?_
          refine G_istoreN X0 hx (pc' := 71) rfl (hb hby d_isChar_70) (L' := #[.val (.int v0), .val (.int v1), .val (.int (1 : Int32))]) rfl ?_
          refine G_iloadN X0 hx (pc' := 72) rfl (hb hby d_isChar_71) rfl ?_
          refine Go.fin X0 hlk (v := some (.int (1 : Int32))) (fun h => by rw [Bd.returns] at h; cases h) (by decide) (by decide) ?_ (fun fs hr => retN X0 hx (t := .boolean) Bd.returns (by simp) (hb hby d_isChar_72) hr)
          show Q_isChar Z v0 v1 h0 n0 _ s₁.heap _
          rw [e0]
          exact ⟨congrArg (fun z => some (Value.int z)) (by rw [f_isChar]; rw [if_neg hc3_1, if_pos hc44_7, if_neg hc50_8, if_neg hc56_10]), N0, rfl⟩
    · refine G_icmpYes X0 hx (pc' := 65) (hb hby d_isChar_44) (flt hc44_7).2.2.2 (by decide) (by decide) ?_
      refine G_iconst X0 hx (pc' := 66) rfl (hb hby d_isChar_65) (z := (1 : Int32)) rfl ?_
      refine G_goto X0 hx (pc' := 70) (hb hby d_isChar_66)  (by decide) (by decide) ?_
      refine G_istoreN X0 hx (pc' := 71) rfl (hb hby d_isChar_70) (L' := #[.val (.int v0), .val (.int v1), .val (.int (1 : Int32))]) rfl ?_
      refine G_iloadN X0 hx (pc' := 72) rfl (hb hby d_isChar_71) rfl ?_
      refine Go.fin X0 hlk (v := some (.int (1 : Int32))) (fun h => by rw [Bd.returns] at h; cases h) (by decide) (by decide) ?_ (fun fs hr => retN X0 hx (t := .boolean) Bd.returns (by simp) (hb hby d_isChar_72) hr)
      show Q_isChar Z v0 v1 h0 n0 _ s₁.heap _
      rw [e0]
      exact ⟨congrArg (fun z => some (Value.int z)) (by rw [f_isChar]; rw [if_neg hc3_1, if_neg hc44_7]), N0, rfl⟩
theorem d_c11_0 : decode method_4_code 0 = .ok (.iload_n 0, 1) := by decide +kernel
theorem d_c11_1 : decode method_4_code 1 = .ok (.iconst 1, 1) := by decide +kernel
theorem d_c11_2 : decode method_4_code 2 = .ok (.if_icmp .lt 11, 3) := by decide +kernel
theorem d_c11_13 : decode method_4_code 13 = .ok (.iload_n 0, 1) := by decide +kernel
theorem d_c11_14 : decode method_4_code 14 = .ok (.ldc 25, 2) := by decide +kernel
theorem d_c11_16 : decode method_4_code 16 = .ok (.if_icmp .lt 11, 3) := by decide +kernel
theorem d_c11_27 : decode method_4_code 27 = .ok (.iload_n 0, 1) := by decide +kernel
theorem d_c11_28 : decode method_4_code 28 = .ok (.ldc 27, 2) := by decide +kernel
theorem d_c11_30 : decode method_4_code 30 = .ok (.if_icmp .lt 13, 3) := by decide +kernel
theorem d_c11_43 : decode method_4_code 43 = .ok (.iconst 0, 1) := by decide +kernel
theorem d_c11_44 : decode method_4_code 44 = .ok (.ireturn, 1) := by decide +kernel
theorem d_c11_33 : decode method_4_code 33 = .ok (.iload_n 0, 1) := by decide +kernel
theorem d_c11_34 : decode method_4_code 34 = .ok (.ldc 28, 2) := by decide +kernel
theorem d_c11_36 : decode method_4_code 36 = .ok (.if_icmp .gt 7, 3) := by decide +kernel
theorem d_c11_39 : decode method_4_code 39 = .ok (.iconst 1, 1) := by decide +kernel
theorem d_c11_40 : decode method_4_code 40 = .ok (.goto 4, 3) := by decide +kernel
theorem d_c11_19 : decode method_4_code 19 = .ok (.iload_n 0, 1) := by decide +kernel
theorem d_c11_20 : decode method_4_code 20 = .ok (.ldc 26, 2) := by decide +kernel
theorem d_c11_22 : decode method_4_code 22 = .ok (.if_icmp .gt 5, 3) := by decide +kernel
theorem d_c11_25 : decode method_4_code 25 = .ok (.iconst 1, 1) := by decide +kernel
theorem d_c11_26 : decode method_4_code 26 = .ok (.ireturn, 1) := by decide +kernel
theorem d_c11_5 : decode method_4_code 5 = .ok (.iload_n 0, 1) := by decide +kernel
theorem d_c11_6 : decode method_4_code 6 = .ok (.ldc 24, 2) := by decide +kernel
theorem d_c11_8 : decode method_4_code 8 = .ok (.if_icmp .gt 5, 3) := by decide +kernel
theorem d_c11_11 : decode method_4_code 11 = .ok (.iconst 1, 1) := by decide +kernel
theorem d_c11_12 : decode method_4_code 12 = .ok (.ireturn, 1) := by decide +kernel
def f_c11 (v0 : Int32) : Int32 := (if v0 < (1 : Int32) then (if v0 < (57344 : Int32) then (if v0 < (65536 : Int32) then (0 : Int32) else (if (1114111 : Int32) < v0 then (0 : Int32) else (1 : Int32))) else (if (65533 : Int32) < v0 then (if v0 < (65536 : Int32) then (0 : Int32) else (if (1114111 : Int32) < v0 then (0 : Int32) else (1 : Int32))) else (1 : Int32))) else (if (55295 : Int32) < v0 then (if v0 < (57344 : Int32) then (if v0 < (65536 : Int32) then (0 : Int32) else (if (1114111 : Int32) < v0 then (0 : Int32) else (1 : Int32))) else (if (65533 : Int32) < v0 then (if v0 < (65536 : Int32) then (0 : Int32) else (if (1114111 : Int32) < v0 then (0 : Int32) else (1 : Int32))) else (1 : Int32))) else (1 : Int32)))
theorem ef_c11 (m : MethodId) (v0 : Int32) : entryFrame m #[(.int v0)] 1 = mkF m 0 #[.val (.int v0)] [] := by first | (simp [entryFrame, mkF, argsToLocals, Value.category]; done) | rfl
def Q_c11 (Z : State) (v0 : Int32) (h0 : Heap) (n0 : Nat) (v : Option Value) (h : Heap) (L : List Loc) : Prop := v = some (.int (f_c11 v0)) ∧ Fr n0 L ∧ h = h0
set_option maxRecDepth 65536 in
set_option maxHeartbeats 40000000 in
theorem rm_c11 (l : Launch) (Z : State) (a0 : Array Value) (hw : ∀ d ∈ tables_1, d.before a0 Z = true) (ws : List Jvm.Cond) (v0 : Int32) (h0 : Heap) (n0 : Nat) (Z0 : n0 ≤ h0.size) :
    MetFree l (⟨"com/example/bound_prefix/boundprefix/XmlCharactersIsCharacterPinLaw", "charXml11", "(I)Z"⟩ : MethodName) (head1 (Jvm.Cond.code (⟨"com/example/bound_prefix/boundprefix/XmlCharactersIsCharacterPinLaw", "charXml11", "(I)Z"⟩ : MethodName) method_4_code 1 (some .boolean) :: ws) ({ frames := 0, cells := 0, slots := 0, locals := 0 } : Room)) (fun a U => a = #[(.int v0)] ∧ Z.Warmed39 U.vm ∧ U.heap = h0) (fun _ _ _ _ _ => True) (fun _ U o U' => ∃ v L, o = .returned v ∧ Q_c11 Z v0 h0 n0 v U'.heap L ∧ FrameEnd U o U' L ({ frames := 0, cells := 0, slots := 0, locals := 0 } : Room).cells ({ frames := 0, cells := 0, slots := 0, locals := 0 } : Room).slots) := by
  refine MetFree.of_bodySF (plainFor_of_name (by first | (simp [plainName, overriddenIn]; done) | decide +kernel)) hisR ?_
  intro p e s m args below meth c s₁ Bd hml0 hP hK
  obtain ⟨rfl, hZ, hh⟩ := hP
  have hx := Bd.exec
  have hby := Bd.bytes
  have hml : c.maxLocals = 1 := hml0
  have hown : s.vm.findClass "com/example/bound_prefix/boundprefix/XmlCharactersIsCharacterPinLaw" = some m.cls := findClass_of_methodNamed Bd.named
  have hnm := (name_of_methodNamed Bd.named Bd.method).1
  have hlk : meth.locks = false := Bd.notSynchronized
  have X0 : Stand p l e ({ frames := 0, cells := 0, slots := 0, locals := 0 } : Room) s m #[(.int v0)] below meth c s₁ [] 0 0 := Stand.of_body Bd
  have e0 : s₁.heap = h0 := by rw [← hh, Bd.state]; rfl
  have N0 := Fr.nil n0
  refine Go.enter (Q := Q_c11 Z v0 h0 n0) (C := ({ frames := 0, cells := 0, slots := 0, locals := 0 } : Room).cells) (N := ({ frames := 0, cells := 0, slots := 0, locals := 0 } : Room).slots) (ef_c11 m v0) ?_
  show Go p e below s _ _ _ s₁ (mkF m 0 #[.val (.int v0)] [])
  refine G_iloadN X0 hx (pc' := 1) rfl (hb hby d_c11_0) rfl ?_
  refine G_iconst X0 hx (pc' := 2) rfl (hb hby d_c11_1) (z := (1 : Int32)) rfl ?_
  by_cases hc2_1 : v0 < (1 : Int32)
  · refine G_icmpYes X0 hx (pc' := 13) (hb hby d_c11_2) (tlt hc2_1).1 (by decide) (by decide) ?_
    refine G_iloadN X0 hx (pc' := 14) rfl (hb hby d_c11_13) rfl ?_
    refine G_ldc X0 hx (pc' := 16) rfl hown (mvT hZ (hw _ (List.mem_of_getElem? (i := 6) rfl))) (hb hby d_c11_14) ?_
    by_cases hc16_2 : v0 < (57344 : Int32)
    · refine G_icmpYes X0 hx (pc' := 27) (hb hby d_c11_16) (tlt hc16_2).1 (by decide) (by decide) ?_
      refine G_iloadN X0 hx (pc' := 28) rfl (hb hby d_c11_27) rfl ?_
      refine G_ldc X0 hx (pc' := 30) rfl hown (mvT hZ (hw _ (List.mem_of_getElem? (i := 7) rfl))) (hb hby d_c11_28) ?_
      by_cases hc30_3 : v0 < (65536 : Int32)
      · refine G_icmpYes X0 hx (pc' := 43) (hb hby d_c11_30) (tlt hc30_3).1 (by decide) (by decide) ?_
        refine G_iconst X0 hx (pc' := 44) rfl (hb hby d_c11_43) (z := (0 : Int32)) rfl ?_
        refine Go.fin X0 hlk (v := some (.int (0 : Int32))) (fun h => by rw [Bd.returns] at h; cases h) (by decide) (by decide) ?_ (fun fs hr => retN X0 hx (t := .boolean) Bd.returns (by simp) (hb hby d_c11_44) hr)
        show Q_c11 Z v0 h0 n0 _ s₁.heap _
        rw [e0]
        exact ⟨congrArg (fun z => some (Value.int z)) (by rw [f_c11]; rw [if_pos hc2_1, if_pos hc16_2, if_pos hc30_3]), N0, rfl⟩
      · refine G_icmpNo X0 hx (pc' := 33) rfl (hb hby d_c11_30) (flt hc30_3).1 ?_
        refine G_iloadN X0 hx (pc' := 34) rfl (hb hby d_c11_33) rfl ?_
        refine G_ldc X0 hx (pc' := 36) rfl hown (mvT hZ (hw _ (List.mem_of_getElem? (i := 18) rfl))) (hb hby d_c11_34) ?_
        by_cases hc36_4 : (1114111 : Int32) < v0
        · refine G_icmpYes X0 hx (pc' := 43) (hb hby d_c11_36) (tlt hc36_4).2.2.1 (by decide) (by decide) ?_
          refine G_iconst X0 hx (pc' := 44) rfl (hb hby d_c11_43) (z := (0 : Int32)) rfl ?_
          refine Go.fin X0 hlk (v := some (.int (0 : Int32))) (fun h => by rw [Bd.returns] at h; cases h) (by decide) (by decide) ?_ (fun fs hr => retN X0 hx (t := .boolean) Bd.returns (by simp) (hb hby d_c11_44) hr)
          show Q_c11 Z v0 h0 n0 _ s₁.heap _
          rw [e0]
          exact ⟨congrArg (fun z => some (Value.int z)) (by rw [f_c11]; rw [if_pos hc2_1, if_pos hc16_2, if_neg hc30_3, if_pos hc36_4]), N0, rfl⟩
        · refine G_icmpNo X0 hx (pc' := 39) rfl (hb hby d_c11_36) (flt hc36_4).2.2.1 ?_
          refine G_iconst X0 hx (pc' := 40) rfl (hb hby d_c11_39) (z := (1 : Int32)) rfl ?_
          refine G_goto X0 hx (pc' := 44) (hb hby d_c11_40)  (by decide) (by decide) ?_
          refine Go.fin X0 hlk (v := some (.int (1 : Int32))) (fun h => by rw [Bd.returns] at h; cases h) (by decide) (by decide) ?_ (fun fs hr => retN X0 hx (t := .boolean) Bd.returns (by simp) (hb hby d_c11_44) hr)
          show Q_c11 Z v0 h0 n0 _ s₁.heap _
          rw [e0]
          exact ⟨congrArg (fun z => some (Value.int z)) (by rw [f_c11]; rw [if_pos hc2_1, if_pos hc16_2, if_neg hc30_3, if_neg hc36_4]), N0, rfl⟩
    · refine G_icmpNo X0 hx (pc' := 19) rfl (hb hby d_c11_16) (flt hc16_2).1 ?_
      refine G_iloadN X0 hx (pc' := 20) rfl (hb hby d_c11_19) rfl ?_
      refine G_ldc X0 hx (pc' := 22) rfl hown (mvT hZ (hw _ (List.mem_of_getElem? (i := 17) rfl))) (hb hby d_c11_20) ?_
      by_cases hc22_5 : (65533 : Int32) < v0
      · refine G_icmpYes X0 hx (pc' := 27) (hb hby d_c11_22) (tlt hc22_5).2.2.1 (by decide) (by decide) ?_
        refine G_iloadN X0 hx (pc' := 28) rfl (hb hby d_c11_27) rfl ?_
        refine G_ldc X0 hx (pc' := 30) rfl hown (mvT hZ (hw _ (List.mem_of_getElem? (i := 7) rfl))) (hb hby d_c11_28) ?_
        by_cases hc30_6 : v0 < (65536 : Int32)
        · refine G_icmpYes X0 hx (pc' := 43) (hb hby d_c11_30) (tlt hc30_6).1 (by decide) (by decide) ?_
          refine G_iconst X0 hx (pc' := 44) rfl (hb hby d_c11_43) (z := (0 : Int32)) rfl ?_
          refine Go.fin X0 hlk (v := some (.int (0 : Int32))) (fun h => by rw [Bd.returns] at h; cases h) (by decide) (by decide) ?_ (fun fs hr => retN X0 hx (t := .boolean) Bd.returns (by simp) (hb hby d_c11_44) hr)
          show Q_c11 Z v0 h0 n0 _ s₁.heap _
          rw [e0]
          exact ⟨congrArg (fun z => some (Value.int z)) (by rw [f_c11]; rw [if_pos hc2_1, if_neg hc16_2, if_pos hc22_5, if_pos hc30_6]), N0, rfl⟩
        · refine G_icmpNo X0 hx (pc' := 33) rfl (hb hby d_c11_30) (flt hc30_6).1 ?_
          refine G_iloadN X0 hx (pc' := 34) rfl (hb hby d_c11_33) rfl ?_
          refine G_ldc X0 hx (pc' := 36) rfl hown (mvT hZ (hw _ (List.mem_of_getElem? (i := 18) rfl))) (hb hby d_c11_34) ?_
          by_cases hc36_7 : (1114111 : Int32) < v0
          · refine G_icmpYes X0 hx (pc' := 43) (hb hby d_c11_36) (tlt hc36_7).2.2.1 (by decide) (by decide) ?_
            refine G_iconst X0 hx (pc' := 44) rfl (hb hby d_c11_43) (z := (0 : Int32)) rfl ?_
            refine Go.fin X0 hlk (v := some (.int (0 : Int32))) (fun h => by rw [Bd.returns] at h; cases h) (by decide) (by decide) ?_ (fun fs hr => retN X0 hx (t := .boolean) Bd.returns (by simp) (hb hby d_c11_44) hr)
            show Q_c11 Z v0 h0 n0 _ s₁.heap _
            rw [e0]
            exact ⟨congrArg (fun z => some (Value.int z)) (by rw [f_c11]; rw [if_pos hc2_1, if_neg hc16_2, if_pos hc22_5, if_neg hc30_6, if_pos hc36_7]), N0, rfl⟩
          · refine G_icmpNo X0 hx (pc' := 39) rfl (hb hby d_c11_36) (flt hc36_7).2.2.1 ?_
            refine G_iconst X0 hx (pc' := 40) rfl (hb hby d_c11_39) (z := (1 : Int32)) rfl ?_
            refine G_goto X0 hx (pc' := 44) (hb hby d_c11_40)  (by decide) (by decide) ?_
            refine Go.fin X0 hlk (v := some (.int (1 : Int32))) (fun h => by rw [Bd.returns] at h; cases h) (by decide) (by decide) ?_ (fun fs hr => retN X0 hx (t := .boolean) Bd.returns (by simp) (hb hby d_c11_44) hr)
            show Q_c11 Z v0 h0 n0 _ s₁.heap _
            rw [e0]
            exact ⟨congrArg (fun z => some (Value.int z)) (by rw [f_c11]; rw [if_pos hc2_1, if_neg hc16_2, if_pos hc22_5, if_neg hc30_6, if_neg hc36_7]), N0, rfl⟩
      · refine G_icmpNo X0 hx (pc' := 25) rfl (hb hby d_c11_22) (flt hc22_5).2.2.1 ?_
        refine G_iconst X0 hx (pc' := 26) rfl (hb hby d_c11_25) (z := (1 : Int32)) rfl ?_
        refine Go.fin X0 hlk (v := some (.int (1 : Int32))) (fun h => by rw [Bd.returns] at h; cases h) (by decide) (by decide) ?_ (fun fs hr => retN X0 hx (t := .boolean) Bd.returns (by simp) (hb hby d_c11_26) hr)
        show Q_c11 Z v0 h0 n0 _ s₁.heap _
        rw [e0]
        exact ⟨congrArg (fun z => some (Value.int z)) (by rw [f_c11]; rw [if_pos hc2_1, if_neg hc16_2, if_neg hc22_5]), N0, rfl⟩
  · refine G_icmpNo X0 hx (pc' := 5) rfl (hb hby d_c11_2) (flt hc2_1).1 ?_
    refine G_iloadN X0 hx (pc' := 6) rfl (hb hby d_c11_5) rfl ?_
    refine G_ldc X0 hx (pc' := 8) rfl hown (mvT hZ (hw _ (List.mem_of_getElem? (i := 12) rfl))) (hb hby d_c11_6) ?_
    by_cases hc8_8 : (55295 : Int32) < v0
    · refine G_icmpYes X0 hx (pc' := 13) (hb hby d_c11_8) (tlt hc8_8).2.2.1 (by decide) (by decide) ?_
      refine G_iloadN X0 hx (pc' := 14) rfl (hb hby d_c11_13) rfl ?_
      refine G_ldc X0 hx (pc' := 16) rfl hown (mvT hZ (hw _ (List.mem_of_getElem? (i := 6) rfl))) (hb hby d_c11_14) ?_
      by_cases hc16_9 : v0 < (57344 : Int32)
      · refine G_icmpYes X0 hx (pc' := 27) (hb hby d_c11_16) (tlt hc16_9).1 (by decide) (by decide) ?_
        refine G_iloadN X0 hx (pc' := 28) rfl (hb hby d_c11_27) rfl ?_
        refine G_ldc X0 hx (pc' := 30) rfl hown (mvT hZ (hw _ (List.mem_of_getElem? (i := 7) rfl))) (hb hby d_c11_28) ?_
        by_cases hc30_10 : v0 < (65536 : Int32)
        · refine G_icmpYes X0 hx (pc' := 43) (hb hby d_c11_30) (tlt hc30_10).1 (by decide) (by decide) ?_
          refine G_iconst X0 hx (pc' := 44) rfl (hb hby d_c11_43) (z := (0 : Int32)) rfl ?_
          refine Go.fin X0 hlk (v := some (.int (0 : Int32))) (fun h => by rw [Bd.returns] at h; cases h) (by decide) (by decide) ?_ (fun fs hr => retN X0 hx (t := .boolean) Bd.returns (by simp) (hb hby d_c11_44) hr)
          show Q_c11 Z v0 h0 n0 _ s₁.heap _
          rw [e0]
          exact ⟨congrArg (fun z => some (Value.int z)) (by rw [f_c11]; rw [if_neg hc2_1, if_pos hc8_8, if_pos hc16_9, if_pos hc30_10]), N0, rfl⟩
        · refine G_icmpNo X0 hx (pc' := 33) rfl (hb hby d_c11_30) (flt hc30_10).1 ?_
          refine G_iloadN X0 hx (pc' := 34) rfl (hb hby d_c11_33) rfl ?_
          refine G_ldc X0 hx (pc' := 36) rfl hown (mvT hZ (hw _ (List.mem_of_getElem? (i := 18) rfl))) (hb hby d_c11_34) ?_
          by_cases hc36_11 : (1114111 : Int32) < v0
          · refine G_icmpYes X0 hx (pc' := 43) (hb hby d_c11_36) (tlt hc36_11).2.2.1 (by decide) (by decide) ?_
            refine G_iconst X0 hx (pc' := 44) rfl (hb hby d_c11_43) (z := (0 : Int32)) rfl ?_
            refine Go.fin X0 hlk (v := some (.int (0 : Int32))) (fun h => by rw [Bd.returns] at h; cases h) (by decide) (by decide) ?_ (fun fs hr => retN X0 hx (t := .boolean) Bd.returns (by simp) (hb hby d_c11_44) hr)
            show Q_c11 Z v0 h0 n0 _ s₁.heap _
            rw [e0]
            exact ⟨congrArg (fun z => some (Value.int z)) (by rw [f_c11]; rw [if_neg hc2_1, if_pos hc8_8, if_pos hc16_9, if_neg hc30_10, if_pos hc36_11]), N0, rfl⟩
          · refine G_icmpNo X0 hx (pc' := 39) rfl (hb hby d_c11_36) (flt hc36_11).2.2.1 ?_
            refine G_iconst X0 hx (pc' := 40) rfl (hb hby d_c11_39) (z := (1 : Int32)) rfl ?_
            refine G_goto X0 hx (pc' := 44) (hb hby d_c11_40)  (by decide) (by decide) ?_
            refine Go.fin X0 hlk (v := some (.int (1 : Int32))) (fun h => by rw [Bd.returns] at h; cases h) (by decide) (by decide) ?_ (fun fs hr => retN X0 hx (t := .boolean) Bd.returns (by simp) (hb hby d_c11_44) hr)
            show Q_c11 Z v0 h0 n0 _ s₁.heap _
            rw [e0]
            exact ⟨congrArg (fun z => some (Value.int z)) (by rw [f_c11]; rw [if_neg hc2_1, if_pos hc8_8, if_pos hc16_9, if_neg hc30_10, if_neg hc36_11]), N0, rfl⟩
      · refine G_icmpNo X0 hx (pc' := 19) rfl (hb hby d_c11_16) (flt hc16_9).1 ?_
        refine G_iloadN X0 hx (pc' := 20) rfl (hb hby d_c11_19) rfl ?_
        refine G_ldc X0 hx (pc' := 22) rfl hown (mvT hZ (hw _ (List.mem_of_getElem? (i := 17) rfl))) (hb hby d_c11_20) ?_
        by_cases hc22_12 : (65533 : Int32) < v0
        · refine G_icmpYes X0 hx (pc' := 27) (hb hby d_c11_22) (tlt hc22_12).2.2.1 (by decide) (by decide) ?_
          refine G_iloadN X0 hx (pc' := 28) rfl (hb hby d_c11_27) rfl ?_
          refine G_ldc X0 hx (pc' := 30) rfl hown (mvT hZ (hw _ (List.mem_of_getElem? (i := 7) rfl))) (hb hby d_c11_28) ?_
          by_cases hc30_13 : v0 < (65536 : Int32)
          · refine G_icmpYes X0 hx (pc' := 43) (hb hby d_c11_30) (tlt hc30_13).1 (by decide) (by decide) ?_
            refine G_iconst X0 hx (pc' := 44) rfl (hb hby d_c11_43) (z := (0 : Int32)) rfl ?_
            refine Go.fin X0 hlk (v := some (.int (0 : Int32))) (fun h => by rw [Bd.returns] at h; cases h) (by decide) (by decide) ?_ (fun fs hr => retN X0 hx (t := .boolean) Bd.returns (by simp) (hb hby d_c11_44) hr)
            show Q_c11 Z v0 h0 n0 _ s₁.heap _
            rw [e0]
            exact ⟨congrArg (fun z => some (Value.int z)) (by rw [f_c11]; rw [if_neg hc2_1, if_pos hc8_8, if_neg hc16_9, if_pos hc22_12, if_pos hc30_13]), N0, rfl⟩
          · refine G_icmpNo X0 hx (pc' := 33) rfl (hb hby d_c11_30) (flt hc30_13).1 ?_
            refine G_iloadN X0 hx (pc' := 34) rfl (hb hby d_c11_33) rfl ?_
            refine G_ldc X0 hx (pc' := 36) rfl hown (mvT hZ (hw _ (List.mem_of_getElem? (i := 18) rfl))) (hb hby d_c11_34) ?_
            by_cases hc36_14 : (1114111 : Int32) < v0
            · refine G_icmpYes X0 hx (pc' := 43) (hb hby d_c11_36) (tlt hc36_14).2.2.1 (by decide) (by decide) ?_
              refine G_iconst X0 hx (pc' := 44) rfl (hb hby d_c11_43) (z := (0 : Int32)) rfl ?_
              refine Go.fin X0 hlk (v := some (.int (0 : Int32))) (fun h => by rw [Bd.returns] at h; cases h) (by decide) (by decide) ?_ (fun fs hr => retN X0 hx (t := .boolean) Bd.returns (by simp) (hb hby d_c11_44) hr)
              show Q_c11 Z v0 h0 n0 _ s₁.heap _
              rw [e0]
              exact ⟨congrArg (fun z => some (Value.int z)) (by rw [f_c11]; rw [if_neg hc2_1, if_pos hc8_8, if_neg hc16_9, if_pos hc22_12, if_neg hc30_13, if_pos hc36_14]), N0, rfl⟩
            · refine G_icmpNo X0 hx (pc' := 39) rfl (hb hby d_c11_36) (flt hc36_14).2.2.1 ?_
              refine G_iconst X0 hx (pc' := 40) rfl (hb hby d_c11_39) (z := (1 : Int32)) rfl ?_
              refine G_goto X0 hx (pc' := 44) (hb hby d_c11_40)  (by decide) (by decide) ?_
              refine Go.fin X0 hlk (v := some (.int (1 : Int32))) (fun h => by rw [Bd.returns] at h; cases h) (by decide) (by decide) ?_ (fun fs hr => retN X0 hx (t := .boolean) Bd.returns (by simp) (hb hby d_c11_44) hr)
              show Q_c11 Z v0 h0 n0 _ s₁.heap _
              rw [e0]
              exact ⟨congrArg (fun z => some (Value.int z)) (by rw [f_c11]; rw [if_neg hc2_1, if_pos hc8_8, if_neg hc16_9, if_pos hc22_12, if_neg hc30_13, if_neg hc36_14]), N0, rfl⟩
        · refine G_icmpNo X0 hx (pc' := 25) rfl (hb hby d_c11_22) (flt hc22_12).2.2.1 ?_
          refine G_iconst X0 hx (pc' := 26) rfl (hb hby d_c11_25) (z := (1 : Int32)) rfl ?_
          refine Go.fin X0 hlk (v := some (.int (1 : Int32))) (fun h => by rw [Bd.returns] at h; cases h) (by decide) (by decide) ?_ (fun fs hr => retN X0 hx (t := .boolean) Bd.returns (by simp) (hb hby d_c11_26) hr)
          show Q_c11 Z v0 h0 n0 _ s₁.heap _
          rw [e0]
          exact ⟨congrArg (fun z => some (Value.int z)) (by rw [f_c11]; rw [if_neg hc2_1, if_pos hc8_8, if_neg hc16_9, if_neg hc22_12]), N0, rfl⟩
    · refine G_icmpNo X0 hx (pc' := 11) rfl (hb hby d_c11_8) (flt hc8_8).2.2.1 ?_
      refine G_iconst X0 hx (pc' := 12) rfl (hb hby d_c11_11) (z := (1 : Int32)) rfl ?_
      refine Go.fin X0 hlk (v := some (.int (1 : Int32))) (fun h => by rw [Bd.returns] at h; cases h) (by decide) (by decide) ?_ (fun fs hr => retN X0 hx (t := .boolean) Bd.returns (by simp) (hb hby d_c11_12) hr)
      show Q_c11 Z v0 h0 n0 _ s₁.heap _
      rw [e0]
      exact ⟨congrArg (fun z => some (Value.int z)) (by rw [f_c11]; rw [if_neg hc2_1, if_neg hc8_8]), N0, rfl⟩
theorem d_c10_0 : decode method_3_code 0 = .ok (.iload_n 0, 1) := by decide +kernel
theorem d_c10_1 : decode method_3_code 1 = .ok (.bipush 9, 2) := by decide +kernel
theorem d_c10_3 : decode method_3_code 3 = .ok (.if_icmp .eq 15, 3) := by decide +kernel
theorem d_c10_18 : decode method_3_code 18 = .ok (.iconst 1, 1) := by decide +kernel
theorem d_c10_19 : decode method_3_code 19 = .ok (.ireturn, 1) := by decide +kernel
theorem d_c10_6 : decode method_3_code 6 = .ok (.iload_n 0, 1) := by decide +kernel
theorem d_c10_7 : decode method_3_code 7 = .ok (.bipush 10, 2) := by decide +kernel
theorem d_c10_9 : decode method_3_code 9 = .ok (.if_icmp .eq 9, 3) := by decide +kernel
theorem d_c10_12 : decode method_3_code 12 = .ok (.iload_n 0, 1) := by decide +kernel
theorem d_c10_13 : decode method_3_code 13 = .ok (.bipush 13, 2) := by decide +kernel
theorem d_c10_15 : decode method_3_code 15 = .ok (.if_icmp .ne 5, 3) := by decide +kernel
theorem d_c10_20 : decode method_3_code 20 = .ok (.iload_n 0, 1) := by decide +kernel
theorem d_c10_21 : decode method_3_code 21 = .ok (.bipush 32, 2) := by decide +kernel
theorem d_c10_23 : decode method_3_code 23 = .ok (.if_icmp .lt 11, 3) := by decide +kernel
theorem d_c10_34 : decode method_3_code 34 = .ok (.iload_n 0, 1) := by decide +kernel
theorem d_c10_35 : decode method_3_code 35 = .ok (.ldc 25, 2) := by decide +kernel
theorem d_c10_37 : decode method_3_code 37 = .ok (.if_icmp .lt 11, 3) := by decide +kernel
theorem d_c10_48 : decode method_3_code 48 = .ok (.iload_n 0, 1) := by decide +kernel
theorem d_c10_49 : decode method_3_code 49 = .ok (.ldc 27, 2) := by decide +kernel
theorem d_c10_51 : decode method_3_code 51 = .ok (.if_icmp .lt 13, 3) := by decide +kernel
theorem d_c10_64 : decode method_3_code 64 = .ok (.iconst 0, 1) := by decide +kernel
theorem d_c10_65 : decode method_3_code 65 = .ok (.ireturn, 1) := by decide +kernel
theorem d_c10_54 : decode method_3_code 54 = .ok (.iload_n 0, 1) := by decide +kernel
theorem d_c10_55 : decode method_3_code 55 = .ok (.ldc 28, 2) := by decide +kernel
theorem d_c10_57 : decode method_3_code 57 = .ok (.if_icmp .gt 7, 3) := by decide +kernel
theorem d_c10_60 : decode method_3_code 60 = .ok (.iconst 1, 1) := by decide +kernel
theorem d_c10_61 : decode method_3_code 61 = .ok (.goto 4, 3) := by decide +kernel
theorem d_c10_40 : decode method_3_code 40 = .ok (.iload_n 0, 1) := by decide +kernel
theorem d_c10_41 : decode method_3_code 41 = .ok (.ldc 26, 2) := by decide +kernel
theorem d_c10_43 : decode method_3_code 43 = .ok (.if_icmp .gt 5, 3) := by decide +kernel
theorem d_c10_46 : decode method_3_code 46 = .ok (.iconst 1, 1) := by decide +kernel
theorem d_c10_47 : decode method_3_code 47 = .ok (.ireturn, 1) := by decide +kernel
theorem d_c10_26 : decode method_3_code 26 = .ok (.iload_n 0, 1) := by decide +kernel
theorem d_c10_27 : decode method_3_code 27 = .ok (.ldc 24, 2) := by decide +kernel
theorem d_c10_29 : decode method_3_code 29 = .ok (.if_icmp .gt 5, 3) := by decide +kernel
theorem d_c10_32 : decode method_3_code 32 = .ok (.iconst 1, 1) := by decide +kernel
theorem d_c10_33 : decode method_3_code 33 = .ok (.ireturn, 1) := by decide +kernel
def f_c10 (v0 : Int32) : Int32 := (if v0 = (9 : Int32) then (1 : Int32) else (if v0 = (10 : Int32) then (1 : Int32) else (if v0 = (13 : Int32) then (1 : Int32) else (if v0 < (32 : Int32) then (if v0 < (57344 : Int32) then (if v0 < (65536 : Int32) then (0 : Int32) else (if (1114111 : Int32) < v0 then (0 : Int32) else (1 : Int32))) else (if (65533 : Int32) < v0 then (if v0 < (65536 : Int32) then (0 : Int32) else (if (1114111 : Int32) < v0 then (0 : Int32) else (1 : Int32))) else (1 : Int32))) else (if (55295 : Int32) < v0 then (if v0 < (57344 : Int32) then (if v0 < (65536 : Int32) then (0 : Int32) else (if (1114111 : Int32) < v0 then (0 : Int32) else (1 : Int32))) else (if (65533 : Int32) < v0 then (if v0 < (65536 : Int32) then (0 : Int32) else (if (1114111 : Int32) < v0 then (0 : Int32) else (1 : Int32))) else (1 : Int32))) else (1 : Int32))))))
theorem ef_c10 (m : MethodId) (v0 : Int32) : entryFrame m #[(.int v0)] 1 = mkF m 0 #[.val (.int v0)] [] := by first | (simp [entryFrame, mkF, argsToLocals, Value.category]; done) | rfl
def Q_c10 (Z : State) (v0 : Int32) (h0 : Heap) (n0 : Nat) (v : Option Value) (h : Heap) (L : List Loc) : Prop := v = some (.int (f_c10 v0)) ∧ Fr n0 L ∧ h = h0
set_option maxRecDepth 65536 in
set_option maxHeartbeats 40000000 in
theorem rm_c10 (l : Launch) (Z : State) (a0 : Array Value) (hw : ∀ d ∈ tables_1, d.before a0 Z = true) (ws : List Jvm.Cond) (v0 : Int32) (h0 : Heap) (n0 : Nat) (Z0 : n0 ≤ h0.size) :
    MetFree l (⟨"com/example/bound_prefix/boundprefix/XmlCharactersIsCharacterPinLaw", "charXml10", "(I)Z"⟩ : MethodName) (head1 (Jvm.Cond.code (⟨"com/example/bound_prefix/boundprefix/XmlCharactersIsCharacterPinLaw", "charXml10", "(I)Z"⟩ : MethodName) method_3_code 1 (some .boolean) :: ws) ({ frames := 0, cells := 0, slots := 0, locals := 0 } : Room)) (fun a U => a = #[(.int v0)] ∧ Z.Warmed39 U.vm ∧ U.heap = h0) (fun _ _ _ _ _ => True) (fun _ U o U' => ∃ v L, o = .returned v ∧ Q_c10 Z v0 h0 n0 v U'.heap L ∧ FrameEnd U o U' L ({ frames := 0, cells := 0, slots := 0, locals := 0 } : Room).cells ({ frames := 0, cells := 0, slots := 0, locals := 0 } : Room).slots) := by
  refine MetFree.of_bodySF (plainFor_of_name (by first | (simp [plainName, overriddenIn]; done) | decide +kernel)) hisR ?_
  intro p e s m args below meth c s₁ Bd hml0 hP hK
  obtain ⟨rfl, hZ, hh⟩ := hP
  have hx := Bd.exec
  have hby := Bd.bytes
  have hml : c.maxLocals = 1 := hml0
  have hown : s.vm.findClass "com/example/bound_prefix/boundprefix/XmlCharactersIsCharacterPinLaw" = some m.cls := findClass_of_methodNamed Bd.named
  have hnm := (name_of_methodNamed Bd.named Bd.method).1
  have hlk : meth.locks = false := Bd.notSynchronized
  have X0 : Stand p l e ({ frames := 0, cells := 0, slots := 0, locals := 0 } : Room) s m #[(.int v0)] below meth c s₁ [] 0 0 := Stand.of_body Bd
  have e0 : s₁.heap = h0 := by rw [← hh, Bd.state]; rfl
  have N0 := Fr.nil n0
  refine Go.enter (Q := Q_c10 Z v0 h0 n0) (C := ({ frames := 0, cells := 0, slots := 0, locals := 0 } : Room).cells) (N := ({ frames := 0, cells := 0, slots := 0, locals := 0 } : Room).slots) (ef_c10 m v0) ?_
  show Go p e below s _ _ _ s₁ (mkF m 0 #[.val (.int v0)] [])
  refine G_iloadN X0 hx (pc' := 1) rfl (hb hby d_c10_0) rfl ?_
  refine G_bipush X0 hx (pc' := 3) rfl (hb hby d_c10_1) (z := (9 : Int32)) rfl ?_
  by_cases hc3_1 : v0 = (9 : Int32)
  · refine G_icmpYes X0 hx (pc' := 18) (hb hby d_c10_3) (teq hc3_1).1 (by decide) (by decide) ?_
    refine G_iconst X0 hx (pc' := 19) rfl (hb hby d_c10_18) (z := (1 : Int32)) rfl ?_
    refine Go.fin X0 hlk (v := some (.int (1 : Int32))) (fun h => by rw [Bd.returns] at h; cases h) (by decide) (by decide) ?_ (fun fs hr => retN X0 hx (t := .boolean) Bd.returns (by simp) (hb hby d_c10_19) hr)
    show Q_c10 Z v0 h0 n0 _ s₁.heap _
    rw [e0]
    exact ⟨congrArg (fun z => some (Value.int z)) (by rw [f_c10]; rw [if_pos hc3_1]), N0, rfl⟩
  · refine G_icmpNo X0 hx (pc' := 6) rfl (hb hby d_c10_3) (feq hc3_1).1 ?_
    refine G_iloadN X0 hx (pc' := 7) rfl (hb hby d_c10_6) rfl ?_
    refine G_bipush X0 hx (pc' := 9) rfl (hb hby d_c10_7) (z := (10 : Int32)) rfl ?_
    by_cases hc9_2 : v0 = (10 : Int32)
    · refine G_icmpYes X0 hx (pc' := 18) (hb hby d_c10_9) (teq hc9_2).1 (by decide) (by decide) ?_
      refine G_iconst X0 hx (pc' := 19) rfl (hb hby d_c10_18) (z := (1 : Int32)) rfl ?_
      refine Go.fin X0 hlk (v := some (.int (1 : Int32))) (fun h => by rw [Bd.returns] at h; cases h) (by decide) (by decide) ?_ (fun fs hr => retN X0 hx (t := .boolean) Bd.returns (by simp) (hb hby d_c10_19) hr)
      show Q_c10 Z v0 h0 n0 _ s₁.heap _
      rw [e0]
      exact ⟨congrArg (fun z => some (Value.int z)) (by rw [f_c10]; rw [if_neg hc3_1, if_pos hc9_2]), N0, rfl⟩
    · refine G_icmpNo X0 hx (pc' := 12) rfl (hb hby d_c10_9) (feq hc9_2).1 ?_
      refine G_iloadN X0 hx (pc' := 13) rfl (hb hby d_c10_12) rfl ?_
      refine G_bipush X0 hx (pc' := 15) rfl (hb hby d_c10_13) (z := (13 : Int32)) rfl ?_
      by_cases hc15_3 : v0 = (13 : Int32)
      · refine G_icmpNo X0 hx (pc' := 18) rfl (hb hby d_c10_15) (teq hc15_3).2 ?_
        refine G_iconst X0 hx (pc' := 19) rfl (hb hby d_c10_18) (z := (1 : Int32)) rfl ?_
        refine Go.fin X0 hlk (v := some (.int (1 : Int32))) (fun h => by rw [Bd.returns] at h; cases h) (by decide) (by decide) ?_ (fun fs hr => retN X0 hx (t := .boolean) Bd.returns (by simp) (hb hby d_c10_19) hr)
        show Q_c10 Z v0 h0 n0 _ s₁.heap _
        rw [e0]
        exact ⟨congrArg (fun z => some (Value.int z)) (by rw [f_c10]; rw [if_neg hc3_1, if_neg hc9_2, if_pos hc15_3]), N0, rfl⟩
      · refine G_icmpYes X0 hx (pc' := 20) (hb hby d_c10_15) (feq hc15_3).2 (by decide) (by decide) ?_
        refine G_iloadN X0 hx (pc' := 21) rfl (hb hby d_c10_20) rfl ?_
        refine G_bipush X0 hx (pc' := 23) rfl (hb hby d_c10_21) (z := (32 : Int32)) rfl ?_
        by_cases hc23_4 : v0 < (32 : Int32)
        · refine G_icmpYes X0 hx (pc' := 34) (hb hby d_c10_23) (tlt hc23_4).1 (by decide) (by decide) ?_
          refine G_iloadN X0 hx (pc' := 35) rfl (hb hby d_c10_34) rfl ?_
          refine G_ldc X0 hx (pc' := 37) rfl hown (mvT hZ (hw _ (List.mem_of_getElem? (i := 6) rfl))) (hb hby d_c10_35) ?_
          by_cases hc37_5 : v0 < (57344 : Int32)
          · refine G_icmpYes X0 hx (pc' := 48) (hb hby d_c10_37) (tlt hc37_5).1 (by decide) (by decide) ?_
            refine G_iloadN X0 hx (pc' := 49) rfl (hb hby d_c10_48) rfl ?_
            refine G_ldc X0 hx (pc' := 51) rfl hown (mvT hZ (hw _ (List.mem_of_getElem? (i := 7) rfl))) (hb hby d_c10_49) ?_
            by_cases hc51_6 : v0 < (65536 : Int32)
            · refine G_icmpYes X0 hx (pc' := 64) (hb hby d_c10_51) (tlt hc51_6).1 (by decide) (by decide) ?_
              refine G_iconst X0 hx (pc' := 65) rfl (hb hby d_c10_64) (z := (0 : Int32)) rfl ?_
              refine Go.fin X0 hlk (v := some (.int (0 : Int32))) (fun h => by rw [Bd.returns] at h; cases h) (by decide) (by decide) ?_ (fun fs hr => retN X0 hx (t := .boolean) Bd.returns (by simp) (hb hby d_c10_65) hr)
              show Q_c10 Z v0 h0 n0 _ s₁.heap _
              rw [e0]
              exact ⟨congrArg (fun z => some (Value.int z)) (by rw [f_c10]; rw [if_neg hc3_1, if_neg hc9_2, if_neg hc15_3, if_pos hc23_4, if_pos hc37_5, if_pos hc51_6]), N0, rfl⟩
            · refine G_icmpNo X0 hx (pc' := 54) rfl (hb hby d_c10_51) (flt hc51_6).1 ?_
              refine G_iloadN X0 hx (pc' := 55) rfl (hb hby d_c10_54) rfl ?_
              refine G_ldc X0 hx (pc' := 57) rfl hown (mvT hZ (hw _ (List.mem_of_getElem? (i := 18) rfl))) (hb hby d_c10_55) ?_
              by_cases hc57_7 : (1114111 : Int32) < v0
              · refine G_icmpYes X0 hx (pc' := 64) (hb hby d_c10_57) (tlt hc57_7).2.2.1 (by decide) (by decide) ?_
                refine G_iconst X0 hx (pc' := 65) rfl (hb hby d_c10_64) (z := (0 : Int32)) rfl ?_
                refine Go.fin X0 hlk (v := some (.int (0 : Int32))) (fun h => by rw [Bd.returns] at h; cases h) (by decide) (by decide) ?_ (fun fs hr => retN X0 hx (t := .boolean) Bd.returns (by simp) (hb hby d_c10_65) hr)
                show Q_c10 Z v0 h0 n0 _ s₁.heap _
                rw [e0]
                exact ⟨congrArg (fun z => some (Value.int z)) (by rw [f_c10]; rw [if_neg hc3_1, if_neg hc9_2, if_neg hc15_3, if_pos hc23_4, if_pos hc37_5, if_neg hc51_6, if_pos hc57_7]), N0, rfl⟩
              · refine G_icmpNo X0 hx (pc' := 60) rfl (hb hby d_c10_57) (flt hc57_7).2.2.1 ?_
                refine G_iconst X0 hx (pc' := 61) rfl (hb hby d_c10_60) (z := (1 : Int32)) rfl ?_
                refine G_goto X0 hx (pc' := 65) (hb hby d_c10_61)  (by decide) (by decide) ?_
                refine Go.fin X0 hlk (v := some (.int (1 : Int32))) (fun h => by rw [Bd.returns] at h; cases h) (by decide) (by decide) ?_ (fun fs hr => retN X0 hx (t := .boolean) Bd.returns (by simp) (hb hby d_c10_65) hr)
                show Q_c10 Z v0 h0 n0 _ s₁.heap _
                rw [e0]
                exact ⟨congrArg (fun z => some (Value.int z)) (by rw [f_c10]; rw [if_neg hc3_1, if_neg hc9_2, if_neg hc15_3, if_pos hc23_4, if_pos hc37_5, if_neg hc51_6, if_neg hc57_7]), N0, rfl⟩
          · refine G_icmpNo X0 hx (pc' := 40) rfl (hb hby d_c10_37) (flt hc37_5).1 ?_
            refine G_iloadN X0 hx (pc' := 41) rfl (hb hby d_c10_40) rfl ?_
            refine G_ldc X0 hx (pc' := 43) rfl hown (mvT hZ (hw _ (List.mem_of_getElem? (i := 17) rfl))) (hb hby d_c10_41) ?_
            by_cases hc43_8 : (65533 : Int32) < v0
            · refine G_icmpYes X0 hx (pc' := 48) (hb hby d_c10_43) (tlt hc43_8).2.2.1 (by decide) (by decide) ?_
              refine G_iloadN X0 hx (pc' := 49) rfl (hb hby d_c10_48) rfl ?_
              refine G_ldc X0 hx (pc' := 51) rfl hown (mvT hZ (hw _ (List.mem_of_getElem? (i := 7) rfl))) (hb hby d_c10_49) ?_
              by_cases hc51_9 : v0 < (65536 : Int32)
              · refine G_icmpYes X0 hx (pc' := 64) (hb hby d_c10_51) (tlt hc51_9).1 (by decide) (by decide) ?_
                refine G_iconst X0 hx (pc' := 65) rfl (hb hby d_c10_64) (z := (0 : Int32)) rfl ?_
                refine Go.fin X0 hlk (v := some (.int (0 : Int32))) (fun h => by rw [Bd.returns] at h; cases h) (by decide) (by decide) ?_ (fun fs hr => retN X0 hx (t := .boolean) Bd.returns (by simp) (hb hby d_c10_65) hr)
                show Q_c10 Z v0 h0 n0 _ s₁.heap _
                rw [e0]
                exact ⟨congrArg (fun z => some (Value.int z)) (by rw [f_c10]; rw [if_neg hc3_1, if_neg hc9_2, if_neg hc15_3, if_pos hc23_4, if_neg hc37_5, if_pos hc43_8, if_pos hc51_9]), N0, rfl⟩
              · refine G_icmpNo X0 hx (pc' := 54) rfl (hb hby d_c10_51) (flt hc51_9).1 ?_
                refine G_iloadN X0 hx (pc' := 55) rfl (hb hby d_c10_54) rfl ?_
                refine G_ldc X0 hx (pc' := 57) rfl hown (mvT hZ (hw _ (List.mem_of_getElem? (i := 18) rfl))) (hb hby d_c10_55) ?_
                by_cases hc57_10 : (1114111 : Int32) < v0
                · refine G_icmpYes X0 hx (pc' := 64) (hb hby d_c10_57) (tlt hc57_10).2.2.1 (by decide) (by decide) ?_
                  refine G_iconst X0 hx (pc' := 65) rfl (hb hby d_c10_64) (z := (0 : Int32)) rfl ?_
                  refine Go.fin X0 hlk (v := some (.int (0 : Int32))) (fun h => by rw [Bd.returns] at h; cases h) (by decide) (by decide) ?_ (fun fs hr => retN X0 hx (t := .boolean) Bd.returns (by simp) (hb hby d_c10_65) hr)
                  show Q_c10 Z v0 h0 n0 _ s₁.heap _
                  rw [e0]
                  exact ⟨congrArg (fun z => some (Value.int z)) (by rw [f_c10]; rw [if_neg hc3_1, if_neg hc9_2, if_neg hc15_3, if_pos hc23_4, if_neg hc37_5, if_pos hc43_8, if_neg hc51_9, if_pos hc57_10]), N0, rfl⟩
                · refine G_icmpNo X0 hx (pc' := 60) rfl (hb hby d_c10_57) (flt hc57_10).2.2.1 ?_
                  refine G_iconst X0 hx (pc' := 61) rfl (hb hby d_c10_60) (z := (1 : Int32)) rfl ?_
                  refine G_goto X0 hx (pc' := 65) (hb hby d_c10_61)  (by decide) (by decide) ?_
                  refine Go.fin X0 hlk (v := some (.int (1 : Int32))) (fun h => by rw [Bd.returns] at h; cases h) (by decide) (by decide) ?_ (fun fs hr => retN X0 hx (t := .boolean) Bd.returns (by simp) (hb hby d_c10_65) hr)
                  show Q_c10 Z v0 h0 n0 _ s₁.heap _
                  rw [e0]
                  exact ⟨congrArg (fun z => some (Value.int z)) (by rw [f_c10]; rw [if_neg hc3_1, if_neg hc9_2, if_neg hc15_3, if_pos hc23_4, if_neg hc37_5, if_pos hc43_8, if_neg hc51_9, if_neg hc57_10]), N0, rfl⟩
            · refine G_icmpNo X0 hx (pc' := 46) rfl (hb hby d_c10_43) (flt hc43_8).2.2.1 ?_
              refine G_iconst X0 hx (pc' := 47) rfl (hb hby d_c10_46) (z := (1 : Int32)) rfl ?_
              refine Go.fin X0 hlk (v := some (.int (1 : Int32))) (fun h => by rw [Bd.returns] at h; cases h) (by decide) (by decide) ?_ (fun fs hr => retN X0 hx (t := .boolean) Bd.returns (by simp) (hb hby d_c10_47) hr)
              show Q_c10 Z v0 h0 n0 _ s₁.heap _
              rw [e0]
              exact ⟨congrArg (fun z => some (Value.int z)) (by rw [f_c10]; rw [if_neg hc3_1, if_neg hc9_2, if_neg hc15_3, if_pos hc23_4, if_neg hc37_5, if_neg hc43_8]), N0, rfl⟩
        · refine G_icmpNo X0 hx (pc' := 26) rfl (hb hby d_c10_23) (flt hc23_4).1 ?_
          refine G_iloadN X0 hx (pc' := 27) rfl (hb hby d_c10_26) rfl ?_
          refine G_ldc X0 hx (pc' := 29) rfl hown (mvT hZ (hw _ (List.mem_of_getElem? (i := 12) rfl))) (hb hby d_c10_27) ?_
          by_cases hc29_11 : (55295 : Int32) < v0
          · refine G_icmpYes X0 hx (pc' := 34) (hb hby d_c10_29) (tlt hc29_11).2.2.1 (by decide) (by decide) ?_
            refine G_iloadN X0 hx (pc' := 35) rfl (hb hby d_c10_34) rfl ?_
            refine G_ldc X0 hx (pc' := 37) rfl hown (mvT hZ (hw _ (List.mem_of_getElem? (i := 6) rfl))) (hb hby d_c10_35) ?_
            by_cases hc37_12 : v0 < (57344 : Int32)
            · refine G_icmpYes X0 hx (pc' := 48) (hb hby d_c10_37) (tlt hc37_12).1 (by decide) (by decide) ?_
              refine G_iloadN X0 hx (pc' := 49) rfl (hb hby d_c10_48) rfl ?_
              refine G_ldc X0 hx (pc' := 51) rfl hown (mvT hZ (hw _ (List.mem_of_getElem? (i := 7) rfl))) (hb hby d_c10_49) ?_
              by_cases hc51_13 : v0 < (65536 : Int32)
              · refine G_icmpYes X0 hx (pc' := 64) (hb hby d_c10_51) (tlt hc51_13).1 (by decide) (by decide) ?_
                refine G_iconst X0 hx (pc' := 65) rfl (hb hby d_c10_64) (z := (0 : Int32)) rfl ?_
                refine Go.fin X0 hlk (v := some (.int (0 : Int32))) (fun h => by rw [Bd.returns] at h; cases h) (by decide) (by decide) ?_ (fun fs hr => retN X0 hx (t := .boolean) Bd.returns (by simp) (hb hby d_c10_65) hr)
                show Q_c10 Z v0 h0 n0 _ s₁.heap _
                rw [e0]
                exact ⟨congrArg (fun z => some (Value.int z)) (by rw [f_c10]; rw [if_neg hc3_1, if_neg hc9_2, if_neg hc15_3, if_neg hc23_4, if_pos hc29_11, if_pos hc37_12, if_pos hc51_13]), N0, rfl⟩
              · refine G_icmpNo X0 hx (pc' := 54) rfl (hb hby d_c10_51) (flt hc51_13).1 ?_
                refine G_iloadN X0 hx (pc' := 55) rfl (hb hby d_c10_54) rfl ?_
                refine G_ldc X0 hx (pc' := 57) rfl hown (mvT hZ (hw _ (List.mem_of_getElem? (i := 18) rfl))) (hb hby d_c10_55) ?_
                by_cases hc57_14 : (1114111 : Int32) < v0
                · refine G_icmpYes X0 hx (pc' := 64) (hb hby d_c10_57) (tlt hc57_14).2.2.1 (by decide) (by decide) ?_
                  refine G_iconst X0 hx (pc' := 65) rfl (hb hby d_c10_64) (z := (0 : Int32)) rfl ?_
                  refine Go.fin X0 hlk (v := some (.int (0 : Int32))) (fun h => by rw [Bd.returns] at h; cases h) (by decide) (by decide) ?_ (fun fs hr => retN X0 hx (t := .boolean) Bd.returns (by simp) (hb hby d_c10_65) hr)
                  show Q_c10 Z v0 h0 n0 _ s₁.heap _
                  rw [e0]
                  exact ⟨congrArg (fun z => some (Value.int z)) (by rw [f_c10]; rw [if_neg hc3_1, if_neg hc9_2, if_neg hc15_3, if_neg hc23_4, if_pos hc29_11, if_pos hc37_12, if_neg hc51_13, if_pos hc57_14]), N0, rfl⟩
                · refine G_icmpNo X0 hx (pc' := 60) rfl (hb hby d_c10_57) (flt hc57_14).2.2.1 ?_
                  refine G_iconst X0 hx (pc' := 61) rfl (hb hby d_c10_60) (z := (1 : Int32)) rfl ?_
                  refine G_goto X0 hx (pc' := 65) (hb hby d_c10_61)  (by decide) (by decide) ?_
                  refine Go.fin X0 hlk (v := some (.int (1 : Int32))) (fun h => by rw [Bd.returns] at h; cases h) (by decide) (by decide) ?_ (fun fs hr => retN X0 hx (t := .boolean) Bd.returns (by simp) (hb hby d_c10_65) hr)
                  show Q_c10 Z v0 h0 n0 _ s₁.heap _
                  rw [e0]
                  exact ⟨congrArg (fun z => some (Value.int z)) (by rw [f_c10]; rw [if_neg hc3_1, if_neg hc9_2, if_neg hc15_3, if_neg hc23_4, if_pos hc29_11, if_pos hc37_12, if_neg hc51_13, if_neg hc57_14]), N0, rfl⟩
            · refine G_icmpNo X0 hx (pc' := 40) rfl (hb hby d_c10_37) (flt hc37_12).1 ?_
              refine G_iloadN X0 hx (pc' := 41) rfl (hb hby d_c10_40) rfl ?_
              refine G_ldc X0 hx (pc' := 43) rfl hown (mvT hZ (hw _ (List.mem_of_getElem? (i := 17) rfl))) (hb hby d_c10_41) ?_
              by_cases hc43_15 : (65533 : Int32) < v0
              · refine G_icmpYes X0 hx (pc' := 48) (hb hby d_c10_43) (tlt hc43_15).2.2.1 (by decide) (by decide) ?_
                refine G_iloadN X0 hx (pc' := 49) rfl (hb hby d_c10_48) rfl ?_
                refine G_ldc X0 hx (pc' := 51) rfl hown (mvT hZ (hw _ (List.mem_of_getElem? (i := 7) rfl))) (hb hby d_c10_49) ?_
                by_cases hc51_16 : v0 < (65536 : Int32)
                · refine G_icmpYes X0 hx (pc' := 64) (hb hby d_c10_51) (tlt hc51_16).1 (by decide) (by decide) ?_
                  refine G_iconst X0 hx (pc' := 65) rfl (hb hby d_c10_64) (z := (0 : Int32)) rfl ?_
                  refine Go.fin X0 hlk (v := some (.int (0 : Int32))) (fun h => by rw [Bd.returns] at h; cases h) (by decide) (by decide) ?_ (fun fs hr => retN X0 hx (t := .boolean) Bd.returns (by simp) (hb hby d_c10_65) hr)
                  show Q_c10 Z v0 h0 n0 _ s₁.heap _
                  rw [e0]
                  exact ⟨congrArg (fun z => some (Value.int z)) (by rw [f_c10]; rw [if_neg hc3_1, if_neg hc9_2, if_neg hc15_3, if_neg hc23_4, if_pos hc29_11, if_neg hc37_12, if_pos hc43_15, if_pos hc51_16]), N0, rfl⟩
                · refine G_icmpNo X0 hx (pc' := 54) rfl (hb hby d_c10_51) (flt hc51_16).1 ?_
                  refine G_iloadN X0 hx (pc' := 55) rfl (hb hby d_c10_54) rfl ?_
                  refine G_ldc X0 hx (pc' := 57) rfl hown (mvT hZ (hw _ (List.mem_of_getElem? (i := 18) rfl))) (hb hby d_c10_55) ?_
                  by_cases hc57_17 : (1114111 : Int32) < v0
                  · refine G_icmpYes X0 hx (pc' := 64) (hb hby d_c10_57) (tlt hc57_17).2.2.1 (by decide) (by decide) ?_
                    refine G_iconst X0 hx (pc' := 65) rfl (hb hby d_c10_64) (z := (0 : Int32)) rfl ?_
                    refine Go.fin X0 hlk (v := some (.int (0 : Int32))) (fun h => by rw [Bd.returns] at h; cases h) (by decide) (by decide) ?_ (fun fs hr => retN X0 hx (t := .boolean) Bd.returns (by simp) (hb hby d_c10_65) hr)
                    show Q_c10 Z v0 h0 n0 _ s₁.heap _
                    rw [e0]
                    exact ⟨congrArg (fun z => some (Value.int z)) (by rw [f_c10]; rw [if_neg hc3_1, if_neg hc9_2, if_neg hc15_3, if_neg hc23_4, if_pos hc29_11, if_neg hc37_12, if_pos hc43_15, if_neg hc51_16, if_pos hc57_17]), N0, rfl⟩
                  · refine G_icmpNo X0 hx (pc' := 60) rfl (hb hby d_c10_57) (flt hc57_17).2.2.1 ?_
                    refine G_iconst X0 hx (pc' := 61) rfl (hb hby d_c10_60) (z := (1 : Int32)) rfl ?_
                    refine G_goto X0 hx (pc' := 65) (hb hby d_c10_61)  (by decide) (by decide) ?_
                    refine Go.fin X0 hlk (v := some (.int (1 : Int32))) (fun h => by rw [Bd.returns] at h; cases h) (by decide) (by decide) ?_ (fun fs hr => retN X0 hx (t := .boolean) Bd.returns (by simp) (hb hby d_c10_65) hr)
                    show Q_c10 Z v0 h0 n0 _ s₁.heap _
                    rw [e0]
                    exact ⟨congrArg (fun z => some (Value.int z)) (by rw [f_c10]; rw [if_neg hc3_1, if_neg hc9_2, if_neg hc15_3, if_neg hc23_4, if_pos hc29_11, if_neg hc37_12, if_pos hc43_15, if_neg hc51_16, if_neg hc57_17]), N0, rfl⟩
              · refine G_icmpNo X0 hx (pc' := 46) rfl (hb hby d_c10_43) (flt hc43_15).2.2.1 ?_
                refine G_iconst X0 hx (pc' := 47) rfl (hb hby d_c10_46) (z := (1 : Int32)) rfl ?_
                refine Go.fin X0 hlk (v := some (.int (1 : Int32))) (fun h => by rw [Bd.returns] at h; cases h) (by decide) (by decide) ?_ (fun fs hr => retN X0 hx (t := .boolean) Bd.returns (by simp) (hb hby d_c10_47) hr)
                show Q_c10 Z v0 h0 n0 _ s₁.heap _
                rw [e0]
                exact ⟨congrArg (fun z => some (Value.int z)) (by rw [f_c10]; rw [if_neg hc3_1, if_neg hc9_2, if_neg hc15_3, if_neg hc23_4, if_pos hc29_11, if_neg hc37_12, if_neg hc43_15]), N0, rfl⟩
          · refine G_icmpNo X0 hx (pc' := 32) rfl (hb hby d_c10_29) (flt hc29_11).2.2.1 ?_
            refine G_iconst X0 hx (pc' := 33) rfl (hb hby d_c10_32) (z := (1 : Int32)) rfl ?_
            refine Go.fin X0 hlk (v := some (.int (1 : Int32))) (fun h => by rw [Bd.returns] at h; cases h) (by decide) (by decide) ?_ (fun fs hr => retN X0 hx (t := .boolean) Bd.returns (by simp) (hb hby d_c10_33) hr)
            show Q_c10 Z v0 h0 n0 _ s₁.heap _
            rw [e0]
            exact ⟨congrArg (fun z => some (Value.int z)) (by rw [f_c10]; rw [if_neg hc3_1, if_neg hc9_2, if_neg hc15_3, if_neg hc23_4, if_neg hc29_11]), N0, rfl⟩
theorem pd_0 : parseMethodDescriptor "(I)Z" = some ⟨[.int], some .boolean⟩ := by decide +kernel
theorem pd_1 : parseMethodDescriptor "(IZ)Z" = some ⟨[.int, .boolean], some .boolean⟩ := by decide +kernel
def f_law (v0 : Int32) (v1 : Int32) : Int32 := (if (v1 &&& (1 : Int32)) = (0 : Int32) then (if (f_isChar ((v0 &&& (2147483647 : Int32)) % (1114112 : Int32)) (0 : Int32)) = (f_c10 ((v0 &&& (2147483647 : Int32)) % (1114112 : Int32))) then (1 : Int32) else (0 : Int32)) else (if (f_isChar ((v0 &&& (2147483647 : Int32)) % (1114112 : Int32)) (1 : Int32)) = (f_c11 ((v0 &&& (2147483647 : Int32)) % (1114112 : Int32))) then (1 : Int32) else (0 : Int32)))
theorem ef_law (m : MethodId) (v0 : Int32) (v1 : Int32) : entryFrame m #[(.int v0), (.int v1)] maxLocals = mkF m 0 #[.val (.int v0), .val (.int v1), .unset, .unset, .unset] [] := by first | (simp [entryFrame, mkF, argsToLocals, Value.category, maxLocals]; done) | rfl
def Q_law (Z : State) (v0 : Int32) (v1 : Int32) (h0 : Heap) (n0 : Nat) (v : Option Value) (h : Heap) (L : List Loc) : Prop := v = some (.int (f_law v0 v1)) ∧ Fr n0 L
set_option maxRecDepth 65536 in
set_option maxHeartbeats 40000000 in
theorem rm_law (l : Launch) (Z : State) (a0 : Array Value) (hw : ∀ d ∈ tables_1, d.before a0 Z = true) (ws : List Jvm.Cond) (v0 : Int32) (v1 : Int32) (h0 : Heap) (n0 : Nat) (Z0 : n0 ≤ h0.size) :
    MetFree l x (head1 (Jvm.Cond.code x code maxLocals ret :: ws) room_1) (fun a U => a = #[(.int v0), (.int v1)] ∧ Z.Warmed39 U.vm ∧ U.heap = h0) (fun _ _ _ _ _ => True) (fun _ U o U' => ∃ v L, o = .returned v ∧ Q_law Z v0 v1 h0 n0 v U'.heap L ∧ FrameEnd U o U' L room_1.cells room_1.slots) := by
  refine MetFree.of_bodySF (plainFor_of_name (by first | (simp [plainName, overriddenIn]; done) | decide +kernel)) hisR ?_
  intro p e s m args below meth c s₁ Bd hml0 hP hK
  obtain ⟨rfl, hZ, hh⟩ := hP
  have hx := Bd.exec
  have hby := Bd.bytes
  have hml : c.maxLocals = 5 := hml0
  have hown : s.vm.findClass "com/example/bound_prefix/boundprefix/XmlCharactersIsCharacterPinLaw" = some m.cls := findClass_of_methodNamed Bd.named
  have hnm := (name_of_methodNamed Bd.named Bd.method).1
  have hlk : meth.locks = false := Bd.notSynchronized
  have X0 : Stand p l e room_1 s m #[(.int v0), (.int v1)] below meth c s₁ [] 0 0 := Stand.of_body Bd
  have e0 : s₁.heap = h0 := by rw [← hh, Bd.state]; rfl
  have N0 := Fr.nil n0
  refine Go.enter (Q := Q_law Z v0 v1 h0 n0) (C := room_1.cells) (N := room_1.slots) (ef_law m v0 v1) ?_
  show Go p e below s _ _ _ s₁ (mkF m 0 #[.val (.int v0), .val (.int v1), .unset, .unset, .unset] [])
  refine G_iloadN X0 hx (pc' := 1) rfl (hb hby at_0) rfl ?_
  refine G_ldc X0 hx (pc' := 3) rfl hown (mvT hZ (hw _ (List.mem_of_getElem? (i := 0) rfl))) (hb hby at_1) ?_
  refine G_iand X0 hx (pc' := 4) rfl (hb hby at_3)  ?_
  refine G_ldc X0 hx (pc' := 6) rfl hown (mvT hZ (hw _ (List.mem_of_getElem? (i := 1) rfl))) (hb hby at_4) ?_
  refine G_irem X0 hx (pc' := 7) rfl (hb hby at_6) (by decide) ?_
  refine G_istoreN X0 hx (pc' := 8) rfl (hb hby at_7) (L' := #[.val (.int v0), .val (.int v1), .val (.int ((v0 &&& (2147483647 : Int32)) % (1114112 : Int32))), .unset, .unset]) rfl ?_
  refine G_iloadN X0 hx (pc' := 9) rfl (hb hby at_8) rfl ?_
  refine G_iconst X0 hx (pc' := 10) rfl (hb hby at_9) (z := (1 : Int32)) rfl ?_
  refine G_iand X0 hx (pc' := 11) rfl (hb hby at_10)  ?_
  by_cases hc11_1 : (v1 &&& (1 : Int32)) = (0 : Int32)
  · refine G_ifYes X0 hx (pc' := 18) (hb hby at_11) ((if0 _ _).trans (teq hc11_1).1) (by decide) (by decide) ?_
    refine G_iconst X0 hx (pc' := 19) rfl (hb hby at_18) (z := (0 : Int32)) rfl ?_
    refine G_istoreN X0 hx (pc' := 20) rfl (hb hby at_19) (L' := #[.val (.int v0), .val (.int v1), .val (.int ((v0 &&& (2147483647 : Int32)) % (1114112 : Int32))), .val (.int (0 : Int32)), .unset]) rfl ?_
    refine G_iloadN X0 hx (pc' := 21) rfl (hb hby at_20) rfl ?_
    refine G_ifYes X0 hx (pc' := 31) (hb hby at_21) ((if0 _ _).trans (teq (by decide : (0 : Int32) = (0 : Int32))).1) (by decide) (by decide) ?_
    refine G_iloadN X0 hx (pc' := 32) rfl (hb hby at_31) rfl ?_
    obtain ⟨_, _, ⟨T1, L1, k1, n1⟩, -, X1, ⟨Lc1, hQ1, l1, y1, z1⟩, st1⟩ := Jvm.LawKit.callS X0 hx (y := (⟨"com/example/bound_prefix/boundprefix/XmlCharactersIsCharacterPinLaw", "charXml10", "(I)Z"⟩ : MethodName)) hown (mvT hZ (hw _ (List.mem_of_getElem? (i := 14) rfl))) (mvT hZ (hw _ (List.mem_of_getElem? (i := 15) rfl))) (mvT hZ (hw _ (List.mem_of_getElem? (i := 4) rfl))) (mvT hZ (hw _ (List.mem_of_getElem? (i := 16) rfl))) (by decide) (backOf (W := 0) (rm_c10 l Z a0 hw [] ((v0 &&& (2147483647 : Int32)) % (1114112 : Int32)) h0 n0 Z0 ) hZ (hw _ (List.mem_of_getElem? (i := 16) rfl)) (hw _ (List.mem_of_getElem? (i := 4) rfl)) (by decide) (by decide)) (g := (mkF m 32 #[.val (.int v0), .val (.int v1), .val (.int ((v0 &&& (2147483647 : Int32)) % (1114112 : Int32))), .val (.int (0 : Int32)), .unset] [(.int ((v0 &&& (2147483647 : Int32)) % (1114112 : Int32)))])) rfl (by rw [hml]; rfl) (argsL := [(.int ((v0 &&& (2147483647 : Int32)) % (1114112 : Int32)))]) (rest := []) (lenOf pd_0 rfl) rfl (by show 2 * 0 + _ ≤ _; exact Nat.le_of_eq rfl) (hb hby at_32) (fun _ _ => ⟨rfl, e0, (by decide : 0 + 0 ≤ _), (by decide : 0 + 0 ≤ _)⟩)
    dsimp only [Pt.U, Pt.locs, Pt.cells, Pt.slots] at X1 l1 y1 z1 st1 hQ1
    subst l1 y1 z1
    obtain ⟨rfl, N1q, e1⟩ := hQ1
    have N1 := Fr.app N0 N1q
    refine Go.st st1 ?_
    show Go p e below s _ _ _ T1 (mkF m 35 #[.val (.int v0), .val (.int v1), .val (.int ((v0 &&& (2147483647 : Int32)) % (1114112 : Int32))), .val (.int (0 : Int32)), .unset] [(.int (f_c10 ((v0 &&& (2147483647 : Int32)) % (1114112 : Int32))))])
    refine G_istore X1 hx (pc' := 37) rfl (hb hby at_35) (L' := #[.val (.int v0), .val (.int v1), .val (.int ((v0 &&& (2147483647 : Int32)) % (1114112 : Int32))), .val (.int (0 : Int32)), .val (.int (f_c10 ((v0 &&& (2147483647 : Int32)) % (1114112 : Int32))))]) rfl ?_
    refine G_iloadN X1 hx (pc' := 38) rfl (hb hby at_37) rfl ?_
    refine G_iloadN X1 hx (pc' := 39) rfl (hb hby at_38) rfl ?_
    obtain ⟨_, _, ⟨T2, L2, k2, n2⟩, -, X2, ⟨Lc2, hQ2, l2, y2, z2⟩, st2⟩ := Jvm.LawKit.callS X1 hx (y := (⟨"com/example/bound_prefix/boundprefix/XmlCharacters", "isCharacter", "(IZ)Z"⟩ : MethodName)) hown (mvT hZ (hw _ (List.mem_of_getElem? (i := 8) rfl))) (mvT hZ (hw _ (List.mem_of_getElem? (i := 9) rfl))) (mvT hZ (hw _ (List.mem_of_getElem? (i := 10) rfl))) (mvT hZ (hw _ (List.mem_of_getElem? (i := 11) rfl))) (by decide) (backOf (W := 0) (rm_isChar l Z a0 hw [] ((v0 &&& (2147483647 : Int32)) % (1114112 : Int32)) (0 : Int32) h0 n0 Z0 ) hZ (hw _ (List.mem_of_getElem? (i := 11) rfl)) (hw _ (List.mem_of_getElem? (i := 10) rfl)) (by decide) (by decide)) (g := (mkF m 39 #[.val (.int v0), .val (.int v1), .val (.int ((v0 &&& (2147483647 : Int32)) % (1114112 : Int32))), .val (.int (0 : Int32)), .val (.int (f_c10 ((v0 &&& (2147483647 : Int32)) % (1114112 : Int32))))] [(.int (0 : Int32)), (.int ((v0 &&& (2147483647 : Int32)) % (1114112 : Int32)))])) rfl (by rw [hml]; rfl) (argsL := [(.int ((v0 &&& (2147483647 : Int32)) % (1114112 : Int32))), (.int (0 : Int32))]) (rest := []) (lenOf pd_1 rfl) rfl (by show 2 * 0 + _ ≤ _; exact Nat.le_of_eq rfl) (hb hby at_39) (fun _ _ => ⟨rfl, e1, (by decide : 0 + 0 ≤ _), (by decide : 0 + 0 ≤ _)⟩)
    dsimp only [Pt.U, Pt.locs, Pt.cells, Pt.slots] at X2 l2 y2 z2 st2 hQ2
    subst l2 y2 z2
    obtain ⟨rfl, N2q, e2⟩ := hQ2
    have N2 := Fr.app N1 N2q
    refine Go.st st2 ?_
    show Go p e below s _ _ _ T2 (mkF m 42 #[.val (.int v0), .val (.int v1), .val (.int ((v0 &&& (2147483647 : Int32)) % (1114112 : Int32))), .val (.int (0 : Int32)), .val (.int (f_c10 ((v0 &&& (2147483647 : Int32)) % (1114112 : Int32))))] [(.int (f_isChar ((v0 &&& (2147483647 : Int32)) % (1114112 : Int32)) (0 : Int32)))])
    refine G_iload X2 hx (pc' := 44) rfl (hb hby at_42) rfl ?_
    by_cases hc44_2 : (f_isChar ((v0 &&& (2147483647 : Int32)) % (1114112 : Int32)) (0 : Int32)) = (f_c10 ((v0 &&& (2147483647 : Int32)) % (1114112 : Int32)))
    · refine G_icmpNo X2 hx (pc' := 47) rfl (hb hby at_44) (teq hc44_2).2 ?_
      refine G_iconst X2 hx (pc' := 48) rfl (hb hby at_47) (z := (1 : Int32)) rfl ?_
      refine G_goto X2 hx (pc' := 52) (hb hby at_48)  (by decide) (by decide) ?_
      refine Go.fin X2 hlk (v := some (.int (1 : Int32))) (fun h => by rw [Bd.returns] at h; cases h) (by decide) (by decide) ?_ (fun fs hr => retN X2 hx (t := .boolean) Bd.returns (by simp) (hb hby at_52) hr)
      show Q_law Z v0 v1 h0 n0 _ T2.heap _
      rw [e2]
      exact ⟨congrArg (fun z => some (Value.int z)) (by rw [f_law]; rw [if_pos hc11_1, if_pos hc44_2]), N2⟩
    · refine G_icmpYes X2 hx (pc' := 51) (hb hby at_44) (feq hc44_2).2 (by decide) (by decide) ?_
      refine G_iconst X2 hx (pc' := 52) rfl (hb hby at_51) (z := (0 : Int32)) rfl ?_
      refine Go.fin X2 hlk (v := some (.int (0 : Int32))) (fun h => by rw [Bd.returns] at h; cases h) (by decide) (by decide) ?_ (fun fs hr => retN X2 hx (t := .boolean) Bd.returns (by simp) (hb hby at_52) hr)
      show Q_law Z v0 v1 h0 n0 _ T2.heap _
      rw [e2]
      exact ⟨congrArg (fun z => some (Value.int z)) (by rw [f_law]; rw [if_pos hc11_1, if_neg hc44_2]), N2⟩
  · refine G_ifNo X0 hx (pc' := 14) rfl (hb hby at_11) ((if0 _ _).trans (feq hc11_1).1) ?_
    refine G_iconst X0 hx (pc' := 15) rfl (hb hby at_14) (z := (1 : Int32)) rfl ?_
    refine G_goto X0 hx (pc' := 19) (hb hby at_15)  (by decide) (by decide) ?_
    refine G_istoreN X0 hx (pc' := 20) rfl (hb hby at_19) (L' := #[.val (.int v0), .val (.int v1), .val (.int ((v0 &&& (2147483647 : Int32)) % (1114112 : Int32))), .val (.int (1 : Int32)), .unset]) rfl ?_
    refine G_iloadN X0 hx (pc' := 21) rfl (hb hby at_20) rfl ?_
    refine G_ifNo X0 hx (pc' := 24) rfl (hb hby at_21) ((if0 _ _).trans (feq (by decide : ¬ ((1 : Int32) = (0 : Int32)))).1) ?_
    refine G_iloadN X0 hx (pc' := 25) rfl (hb hby at_24) rfl ?_
    obtain ⟨_, _, ⟨T3, L3, k3, n3⟩, -, X3, ⟨Lc3, hQ3, l3, y3, z3⟩, st3⟩ := Jvm.LawKit.callS X0 hx (y := (⟨"com/example/bound_prefix/boundprefix/XmlCharactersIsCharacterPinLaw", "charXml11", "(I)Z"⟩ : MethodName)) hown (mvT hZ (hw _ (List.mem_of_getElem? (i := 2) rfl))) (mvT hZ (hw _ (List.mem_of_getElem? (i := 3) rfl))) (mvT hZ (hw _ (List.mem_of_getElem? (i := 4) rfl))) (mvT hZ (hw _ (List.mem_of_getElem? (i := 5) rfl))) (by decide) (backOf (W := 0) (rm_c11 l Z a0 hw [] ((v0 &&& (2147483647 : Int32)) % (1114112 : Int32)) h0 n0 Z0 ) hZ (hw _ (List.mem_of_getElem? (i := 5) rfl)) (hw _ (List.mem_of_getElem? (i := 4) rfl)) (by decide) (by decide)) (g := (mkF m 25 #[.val (.int v0), .val (.int v1), .val (.int ((v0 &&& (2147483647 : Int32)) % (1114112 : Int32))), .val (.int (1 : Int32)), .unset] [(.int ((v0 &&& (2147483647 : Int32)) % (1114112 : Int32)))])) rfl (by rw [hml]; rfl) (argsL := [(.int ((v0 &&& (2147483647 : Int32)) % (1114112 : Int32)))]) (rest := []) (lenOf pd_0 rfl) rfl (by show 2 * 0 + _ ≤ _; exact Nat.le_of_eq rfl) (hb hby at_25) (fun _ _ => ⟨rfl, e0, (by decide : 0 + 0 ≤ _), (by decide : 0 + 0 ≤ _)⟩)
    dsimp only [Pt.U, Pt.locs, Pt.cells, Pt.slots] at X3 l3 y3 z3 st3 hQ3
    subst l3 y3 z3
    obtain ⟨rfl, N3q, e3⟩ := hQ3
    have N3 := Fr.app N0 N3q
    refine Go.st st3 ?_
    show Go p e below s _ _ _ T3 (mkF m 28 #[.val (.int v0), .val (.int v1), .val (.int ((v0 &&& (2147483647 : Int32)) % (1114112 : Int32))), .val (.int (1 : Int32)), .unset] [(.int (f_c11 ((v0 &&& (2147483647 : Int32)) % (1114112 : Int32))))])
    refine G_goto X3 hx (pc' := 35) (hb hby at_28)  (by decide) (by decide) ?_
    refine G_istore X3 hx (pc' := 37) rfl (hb hby at_35) (L' := #[.val (.int v0), .val (.int v1), .val (.int ((v0 &&& (2147483647 : Int32)) % (1114112 : Int32))), .val (.int (1 : Int32)), .val (.int (f_c11 ((v0 &&& (2147483647 : Int32)) % (1114112 : Int32))))]) rfl ?_
    refine G_iloadN X3 hx (pc' := 38) rfl (hb hby at_37) rfl ?_
    refine G_iloadN X3 hx (pc' := 39) rfl (hb hby at_38) rfl ?_
    obtain ⟨_, _, ⟨T4, L4, k4, n4⟩, -, X4, ⟨Lc4, hQ4, l4, y4, z4⟩, st4⟩ := Jvm.LawKit.callS X3 hx (y := (⟨"com/example/bound_prefix/boundprefix/XmlCharacters", "isCharacter", "(IZ)Z"⟩ : MethodName)) hown (mvT hZ (hw _ (List.mem_of_getElem? (i := 8) rfl))) (mvT hZ (hw _ (List.mem_of_getElem? (i := 9) rfl))) (mvT hZ (hw _ (List.mem_of_getElem? (i := 10) rfl))) (mvT hZ (hw _ (List.mem_of_getElem? (i := 11) rfl))) (by decide) (backOf (W := 0) (rm_isChar l Z a0 hw [] ((v0 &&& (2147483647 : Int32)) % (1114112 : Int32)) (1 : Int32) h0 n0 Z0 ) hZ (hw _ (List.mem_of_getElem? (i := 11) rfl)) (hw _ (List.mem_of_getElem? (i := 10) rfl)) (by decide) (by decide)) (g := (mkF m 39 #[.val (.int v0), .val (.int v1), .val (.int ((v0 &&& (2147483647 : Int32)) % (1114112 : Int32))), .val (.int (1 : Int32)), .val (.int (f_c11 ((v0 &&& (2147483647 : Int32)) % (1114112 : Int32))))] [(.int (1 : Int32)), (.int ((v0 &&& (2147483647 : Int32)) % (1114112 : Int32)))])) rfl (by rw [hml]; rfl) (argsL := [(.int ((v0 &&& (2147483647 : Int32)) % (1114112 : Int32))), (.int (1 : Int32))]) (rest := []) (lenOf pd_1 rfl) rfl (by show 2 * 0 + _ ≤ _; exact Nat.le_of_eq rfl) (hb hby at_39) (fun _ _ => ⟨rfl, e3, (by decide : 0 + 0 ≤ _), (by decide : 0 + 0 ≤ _)⟩)
    dsimp only [Pt.U, Pt.locs, Pt.cells, Pt.slots] at X4 l4 y4 z4 st4 hQ4
    subst l4 y4 z4
    obtain ⟨rfl, N4q, e4⟩ := hQ4
    have N4 := Fr.app N3 N4q
    refine Go.st st4 ?_
    show Go p e below s _ _ _ T4 (mkF m 42 #[.val (.int v0), .val (.int v1), .val (.int ((v0 &&& (2147483647 : Int32)) % (1114112 : Int32))), .val (.int (1 : Int32)), .val (.int (f_c11 ((v0 &&& (2147483647 : Int32)) % (1114112 : Int32))))] [(.int (f_isChar ((v0 &&& (2147483647 : Int32)) % (1114112 : Int32)) (1 : Int32)))])
    refine G_iload X4 hx (pc' := 44) rfl (hb hby at_42) rfl ?_
    by_cases hc44_3 : (f_isChar ((v0 &&& (2147483647 : Int32)) % (1114112 : Int32)) (1 : Int32)) = (f_c11 ((v0 &&& (2147483647 : Int32)) % (1114112 : Int32)))
    · refine G_icmpNo X4 hx (pc' := 47) rfl (hb hby at_44) (teq hc44_3).2 ?_
      refine G_iconst X4 hx (pc' := 48) rfl (hb hby at_47) (z := (1 : Int32)) rfl ?_
      refine G_goto X4 hx (pc' := 52) (hb hby at_48)  (by decide) (by decide) ?_
      refine Go.fin X4 hlk (v := some (.int (1 : Int32))) (fun h => by rw [Bd.returns] at h; cases h) (by decide) (by decide) ?_ (fun fs hr => retN X4 hx (t := .boolean) Bd.returns (by simp) (hb hby at_52) hr)
      show Q_law Z v0 v1 h0 n0 _ T4.heap _
      rw [e4]
      exact ⟨congrArg (fun z => some (Value.int z)) (by rw [f_law]; rw [if_neg hc11_1, if_pos hc44_3]), N4⟩
    · refine G_icmpYes X4 hx (pc' := 51) (hb hby at_44) (feq hc44_3).2 (by decide) (by decide) ?_
      refine G_iconst X4 hx (pc' := 52) rfl (hb hby at_51) (z := (0 : Int32)) rfl ?_
      refine Go.fin X4 hlk (v := some (.int (0 : Int32))) (fun h => by rw [Bd.returns] at h; cases h) (by decide) (by decide) ?_ (fun fs hr => retN X4 hx (t := .boolean) Bd.returns (by simp) (hb hby at_52) hr)
      show Q_law Z v0 v1 h0 n0 _ T4.heap _
      rw [e4]
      exact ⟨congrArg (fun z => some (Value.int z)) (by rw [f_law]; rw [if_neg hc11_1, if_neg hc44_3]), N4⟩
theorem own_mod (x : Int32) : 0 ≤ ((x &&& (2147483647 : Int32)) % (1114112 : Int32)).toInt ∧ ((x &&& (2147483647 : Int32)) % (1114112 : Int32)).toInt < 1114112 := by
  have h1 := c_mask x 2147483647 31 (by decide) (by decide)
  have h2 := (c_irem (x &&& (2147483647 : Int32)) 1114112 1114112 (by decide)).1
  have h3 : 0 ≤ (x &&& (2147483647 : Int32)).toInt := by rw [h1]; omega
  have h4 := h2 h3
  omega
theorem own_ten (c : Int32) (h0 : 0 ≤ c.toInt) (h1 : c.toInt < 1114112) : f_isChar c 0 = f_c10 c := by
  unfold f_isChar f_c10
  have a0 : (0 : Int32).toInt = 0 := by decide
  have a1 : (9 : Int32).toInt = 9 := by decide
  have a2 : (10 : Int32).toInt = 10 := by decide
  have a3 : (13 : Int32).toInt = 13 := by decide
  have a4 : (32 : Int32).toInt = 32 := by decide
  have a5 : (55295 : Int32).toInt = 55295 := by decide
  have a6 : (57344 : Int32).toInt = 57344 := by decide
  have a7 : (65533 : Int32).toInt = 65533 := by decide
  have a8 : (65536 : Int32).toInt = 65536 := by decide
  have a9 : (1114111 : Int32).toInt = 1114111 := by decide
  simp only [Int32.lt_iff_toInt_lt, ← Int32.toInt_inj, a0, a1, a2, a3, a4, a5, a6, a7, a8, a9]
  generalize c.toInt = z at *
  repeat' split
  all_goals first | rfl | contradiction | (exfalso; omega)
theorem own_eleven (c : Int32) (h0 : 0 ≤ c.toInt) (h1 : c.toInt < 1114112) : f_isChar c 1 = f_c11 c := by
  unfold f_isChar f_c11
  have a0 : (0 : Int32).toInt = 0 := by decide
  have a01 : (1 : Int32).toInt = 1 := by decide
  have a1 : (9 : Int32).toInt = 9 := by decide
  have a2 : (10 : Int32).toInt = 10 := by decide
  have a3 : (13 : Int32).toInt = 13 := by decide
  have a4 : (32 : Int32).toInt = 32 := by decide
  have a5 : (55295 : Int32).toInt = 55295 := by decide
  have a6 : (57344 : Int32).toInt = 57344 := by decide
  have a7 : (65533 : Int32).toInt = 65533 := by decide
  have a8 : (65536 : Int32).toInt = 65536 := by decide
  have a9 : (1114111 : Int32).toInt = 1114111 := by decide
  simp only [Int32.lt_iff_toInt_lt, ← Int32.toInt_inj, a0, a01, a1, a2, a3, a4, a5, a6, a7, a8, a9]
  generalize c.toInt = z at *
  repeat' split
  all_goals first | rfl | contradiction | (exfalso; omega)
theorem own_law (a b : Int32) : f_law a b = 1 := by
  unfold f_law
  obtain ⟨h0, h1⟩ := own_mod a
  rw [own_ten _ h0 h1, own_eleven _ h0 h1, if_pos rfl, if_pos rfl]
  split <;> rfl

set_option maxRecDepth 65536 in
set_option maxHeartbeats 40000000 in
theorem comes_1 {Post : Tables → Env → Array Value → State → Outcome → State → Prop} (hpost : ∀ tb e args s v u, (limb_1_1.after args s (.returned v) u = true ∧ limb_1_2.after args s (.returned v) u = true ∧ True) → FrameEnd s (.returned v) u (Jvm.fieldLocs frame_1_writes args s ++ Jvm.arrayLocs frame_1_arrays args s ++ Jvm.staticLocs frame_1_statics s) 0 0 → Post tb e args s (.returned v) u) :
    ArmFor flags0 classFile x code maxLocals ret World_1 tables_1 room_1 Calls_1 rest_1 Pre_1 Post := by
  intro l hfl _ _ p e ha hc hk s m args below hf hA hF happ hP
  obtain ⟨hcalls, hrest, hpre⟩ := hP
  obtain ⟨-, -, -, hnamed, -, -, -, hat⟩ := (Spec.applies_iff hf).mp happ
  obtain ⟨hg, hn⟩ := and_e (Cond.before_iff.mp (show (Jvm.Cond.and given_1 narrow_1).before args s = true from hpre))
  obtain ⟨hcnt, hg0⟩ := and_e hg
  obtain ⟨ha0, hg1⟩ := and_e hg0
  have ha1 := hg1
  obtain ⟨w0, w1, rfl⟩ : ∃ w0 w1 : Value, args = #[w0, w1] := by
    have hs : args.size = 2 := by simpa [Cond.value, given_1] using hcnt
    obtain ⟨L⟩ := args
    match L, hs with
    | [w0, w1], _ => exact ⟨w0, w1, rfl⟩
  have hw := fun d (hd : d ∈ tables_1) => atoms_spec (ws := Jvm.Cond.code x code maxLocals ret :: tables_1) hat d (List.mem_cons_of_mem _ hd)
  have hfit : Fit s := fun {y c} hc i hi => by
    obtain ⟨ha, rfl⟩ := Array.getElem?_eq_some_iff.mp hc
    have q := List.all_eq_true.mp ((Array.all_eq_true_iff_forall_mem.mp hF) _ (Array.getElem_mem ha)) i (List.mem_range.mpr hi)
    simpa [Array.getElem?_eq_getElem hi] using q
  obtain ⟨i0, ei0⟩ := is_v ha0
  obtain rfl : w0 = (.int i0) := Option.some.inj ei0
  obtain ⟨i1, ei1⟩ := is_v ha1
  obtain rfl : w1 = (.int i1) := Option.some.inj ei1
  obtain ⟨n, o, h1, h2, h3, v, L, rfl, ⟨hv, N⟩, hq⟩ := rm_law l s _ hw tables_1 i0 i1  s.heap s.heap.size (Nat.le_refl _)  p e ha hc hk s m _ below hf ((Spec.applies_iff_loose hf).mp happ).1 ⟨rfl, State.Warmed39.refl s, rfl⟩ trivial
  rw [own_law i0 i1] at hv
  subst hv
  refine ⟨n, _, h1, h2, h3, hpost _ _ _ _ _ _ ⟨Cond.after_iff.mpr rfl, Cond.after_iff.mpr (eq_i res_at (Term.int_eval (1)) rfl), trivial⟩ ⟨hq.1, hq.2.1, (hq.2.2.sift fun y hy => Or.inr (N y hy)).mono (by decide) (by decide)⟩⟩
theorem main_1_1 : Claimed_1_1 := comes_1 fun _ _ _ _ _ _ h hF => ⟨h.1, hF⟩
theorem main_1_2 : Claimed_1_2 := comes_1 fun _ _ _ _ _ _ h hF => ⟨h.2.1, hF⟩
end Jvm.Pilot.@@N@@
namespace Jvm.Pilot.@@N@@
open Jvm Jvm.ClassFile Sem Op Lib Jvm.Free Jvm.Stand Jvm.Pilot.@@N@@.Jvm.D
/-! MADE BY PROGRAM (witnessworld.py) out of the Statement's table words and the real class files: 9 classes; the members and pool entries that the words name. The judged class is class 1, her method 1. -/
namespace start1
open Jvm.ClassFile
def u (s : String) : CpInfo := .utf8 (stringToUtf16 s)
/-- a pool by its gaps: so many unusable entries, then the entry; so many at the end -/
def gap : Nat → List CpInfo → List CpInfo
  | 0, r => r
  | n + 1, r => .unusable :: gap n r
def poolList (es : List (Nat × CpInfo)) (last : Nat) : List CpInfo := es.foldr (fun e r => gap e.1 (e.2 :: r)) (gap last [])
def pool (es : List (Nat × CpInfo)) (last : Nat) : Array CpInfo := ⟨poolList es last⟩
def fileOf (pool : Array CpInfo) (this : Nat) (attrs : Array Attribute := #[]) (ms : Array MethodInfo := #[]) (fl : Nat := 33) (sup : Nat := 0) (ifs : Array Nat := #[]) (fds : Array FieldInfo := #[]) : ClassFile where
  minorVersion := 0
  majorVersion := 65
  constantPool := pool
  accessFlags := fl
  thisClass := this
  superClass := sup
  interfaces := ifs
  fields := fds
  methods := ms
  attributes := attrs
def plain (name : String) (sup : Option ClassId) : Class where
  name := name
  kind := .ordinary
  loader := none
  accessFlags := 33
  super := sup
  interfaces := #[]
  cf := none
  fields := #[]
  methods := #[]
  instanceTypes := #[]
  staticTypes := #[]
  resolved := #[]
  callSites := []
  init := .initialized
  statics := none
  mirror := none

def pool0 : Array CpInfo := pool [(5, u "<init>"), (0, u "()V"), (1, .class_ 10), (1, u "java/lang/Object")] 113

def k0m0 : Method := { name := "<init>", desc := "()V", sig := { parameters := [], returnType := none }, accessFlags := 1, code := none }
/-- java/lang/Object -/
def k0 : Class := { plain "java/lang/Object" none with
  accessFlags := 33
  interfaces := #[]
  cf := some (fileOf pool0 8 #[] #[{ accessFlags := 1, nameIndex := 5, descriptorIndex := 6, attributes := #[] }] 33 0 #[] #[])
  fields := #[]
  methods := #[k0m0]
  instanceTypes := #[]
  staticTypes := #[]
  resolved := Array.replicate 124 none
  statics := none }

def pool1 : Array CpInfo := pool [(2, .class_ 4), (1, u "java/lang/Object"), (0, u "<init>"), (0, u "()V"), (0, .integer 2147483647), (0, .integer 1114112), (0, .methodref 10 11), (0, .class_ 12), (0, .nameAndType 13 14), (0, u "com/example/bound_prefix/boundprefix/XmlCharactersIsCharacterPinLaw"), (0, u "charXml11"), (0, u "(I)Z"), (0, .methodref 10 16), (0, .nameAndType 17 14), (0, u "charXml10"), (0, .methodref 19 20), (0, .class_ 21), (0, .nameAndType 22 23), (0, u "com/example/bound_prefix/boundprefix/XmlCharacters"), (0, u "isCharacter"), (0, u "(IZ)Z"), (0, .integer 55295), (0, .integer 57344), (0, .integer 65533), (0, .integer 65536), (0, .integer 1114111), (2, u "law"), (0, u "(II)Z")] 3

def k1m0 : Method := { name := "<init>", desc := "()V", sig := { parameters := [], returnType := none }, accessFlags := 2, code := none }
def k1c1 : Code := { maxStack := 2, maxLocals := 5, code := code, exceptionTable := #[], attributes := #[] }
def k1m1 : Method := { name := "law", desc := "(II)Z", sig := { parameters := [.int, .int], returnType := some .boolean }, accessFlags := 9, code := some k1c1 }
def k1c2 : Code := { maxStack := 2, maxLocals := 1, code := method_3_code, exceptionTable := #[], attributes := #[] }
def k1m2 : Method := { name := "charXml10", desc := "(I)Z", sig := { parameters := [.int], returnType := some .boolean }, accessFlags := 10, code := some k1c2 }
def k1c3 : Code := { maxStack := 2, maxLocals := 1, code := method_4_code, exceptionTable := #[], attributes := #[] }
def k1m3 : Method := { name := "charXml11", desc := "(I)Z", sig := { parameters := [.int], returnType := some .boolean }, accessFlags := 10, code := some k1c3 }
/-- com/example/bound_prefix/boundprefix/XmlCharactersIsCharacterPinLaw -/
def k1 : Class := { plain "com/example/bound_prefix/boundprefix/XmlCharactersIsCharacterPinLaw" (some 0) with
  accessFlags := 49
  interfaces := #[]
  cf := some (fileOf pool1 10 #[] #[{ accessFlags := 2, nameIndex := 5, descriptorIndex := 6, attributes := #[] }, { accessFlags := 9, nameIndex := 31, descriptorIndex := 32, attributes := #[] }, { accessFlags := 10, nameIndex := 17, descriptorIndex := 14, attributes := #[] }, { accessFlags := 10, nameIndex := 13, descriptorIndex := 14, attributes := #[] }] 49 2 #[] #[])
  fields := #[]
  methods := #[k1m0, k1m1, k1m2, k1m3]
  instanceTypes := #[]
  staticTypes := #[]
  resolved := Array.replicate 36 none
  statics := none }

def pool2 : Array CpInfo := pool [(2, .class_ 4), (1, u "java/lang/Object"), (0, u "<init>"), (0, u "()V"), (0, .integer 55295), (0, .integer 57344), (0, .integer 65533), (0, .integer 65536), (1, .class_ 14), (1, u "com/example/bound_prefix/boundprefix/XmlCharacters"), (0, u "isCharacter"), (0, u "(IZ)Z")] 46

def k2m0 : Method := { name := "<init>", desc := "()V", sig := { parameters := [], returnType := none }, accessFlags := 2, code := none }
def k2c1 : Code := { maxStack := 2, maxLocals := 3, code := prog_107_method_2_code, exceptionTable := #[], attributes := #[] }
def k2m1 : Method := { name := "isCharacter", desc := "(IZ)Z", sig := { parameters := [.int, .boolean], returnType := some .boolean }, accessFlags := 8, code := some k2c1 }
/-- com/example/bound_prefix/boundprefix/XmlCharacters -/
def k2 : Class := { plain "com/example/bound_prefix/boundprefix/XmlCharacters" (some 0) with
  accessFlags := 48
  interfaces := #[]
  cf := some (fileOf pool2 12 #[] #[{ accessFlags := 2, nameIndex := 5, descriptorIndex := 6, attributes := #[] }, { accessFlags := 8, nameIndex := 15, descriptorIndex := 16, attributes := #[] }] 48 2 #[] #[])
  fields := #[]
  methods := #[k2m0, k2m1]
  instanceTypes := #[]
  staticTypes := #[]
  resolved := Array.replicate 63 none
  statics := none }

def pool3 : Array CpInfo := pool [(1, u "java/lang/Cloneable"), (0, .class_ 1), (0, u "java/lang/Object"), (0, .class_ 3)] 3

/-- java/lang/Cloneable -/
def k3 : Class := { plain "java/lang/Cloneable" (some 0) with
  accessFlags := 1537
  interfaces := #[]
  cf := some (fileOf pool3 2 #[] #[] 1537 4 #[] #[])
  fields := #[]
  methods := #[]
  instanceTypes := #[]
  staticTypes := #[]
  resolved := Array.replicate 8 none
  statics := none }

def pool4 : Array CpInfo := pool [(1, u "java/io/Serializable"), (0, .class_ 1), (0, u "java/lang/Object"), (0, .class_ 3)] 3

/-- java/io/Serializable -/
def k4 : Class := { plain "java/io/Serializable" (some 0) with
  accessFlags := 1537
  interfaces := #[]
  cf := some (fileOf pool4 2 #[] #[] 1537 4 #[] #[])
  fields := #[]
  methods := #[]
  instanceTypes := #[]
  staticTypes := #[]
  resolved := Array.replicate 8 none
  statics := none }

/-- the primitive byte -/
def k5 : Class := { plain "byte" none with kind := .primitive 'B', accessFlags := 0x411 }
/-- [B -/
def k6 : Class := { plain "[B" (some 0) with kind := .array 5 .byte, interfaces := #[3, 4], accessFlags := 1041 }

/-- the primitive int -/
def k7 : Class := { plain "int" none with kind := .primitive 'I', accessFlags := 0x411 }
/-- [I -/
def k8 : Class := { plain "[I" (some 0) with kind := .array 7 .int, interfaces := #[3, 4], accessFlags := 1041 }

def heap : Heap := #[]
def classes : Array Class := #[k0, k1, k2, k3, k4, k5, k6, k7, k8]
def interned : List (Array UInt16 × Addr) := []
def slotsUsed : Nat := 0
def theMethod : MethodId := ⟨1, 1⟩
def args0 : Array Value := #[.int 5, .int 7]
def aboutOver (below : List Frame) : State where
  vm := { classes := classes, interned := interned.toArray }
  heap := heap
  slotsUsed := slotsUsed
  threads := #[{ frames := .invoking theMethod args0 :: below }]
def below0 : List Frame := [.native { method := ⟨0, 0⟩, args := #[] }]
def about1 : State := aboutOver below0
def p0 : Program := .bare "" "" ""
def e0 : Env := launch0.env 0 0 0
theorem w_frames : about1.frames = Frame.invoking theMethod args0 :: below0 := rfl
set_option maxRecDepth 65536 in
theorem w_args : argsFit about1.vm theMethod args0 = true := by decide +kernel
set_option maxRecDepth 65536 in
theorem w_heap : heapFits about1 = true := by decide +kernel
set_option maxRecDepth 65536 in
theorem w_runnable : about1.curStatus? = some .runnable := by decide +kernel
set_option maxRecDepth 65536 in
theorem w_alone : about1.alone = true := by decide +kernel
set_option maxRecDepth 65536 in
theorem w_named : about1.methodNamed? x = some theMethod := by decide +kernel
set_option maxRecDepth 65536 in
theorem w_hears : about1.hears theMethod below0 = true := by decide +kernel
set_option maxRecDepth 65536 in
theorem w_ripe : about1.ripe theMethod args0 below0 = true := by decide +kernel
theorem w_running : about1.status = .running := rfl
set_option maxRecDepth 65536 in
theorem w_room : about1.hasRoom e0.platform room_1 = true :=
  launch0.hasRoom_least _ room_1 (by decide +kernel) (by decide +kernel) (by decide +kernel) (by decide +kernel) (by decide +kernel) (by decide +kernel)
theorem allAtoms_all (ts : List Jvm.Cond) (a : Array Jvm.Value) (st : Jvm.State) : (allAtoms ts).before a st = ts.all (fun c => c.before a st) := by
  induction ts with
  | nil => rfl
  | cons c t ih =>
    show (Jvm.Cond.and c (allAtoms t)).before a st = _
    rw [Jvm.Cond.before_and, ih, List.all_cons]
def words1 : List Jvm.Cond := Jvm.Cond.code x code maxLocals ret :: tables_1
/-- a 'code' word, met by the world's own term for the bytes: nothing is compared byte by byte -/
theorem code_word {y : MethodName} {bytes : ByteArray} {mx : Nat} {rt : Option FieldType} {a : Array Value} {s : State} {m : MethodId} {meth : Method} {c : Code} (h1 : s.methodNamed? y = some m) (h2 : s.vm.method? m = some meth) (h3 : meth.code = some c) (h4 : c.code = bytes)
    (h5 : (c.maxLocals == mx && c.exceptionTable.isEmpty && decide (c.maxStack ≤ mostOperands) && decide (meth.sig.returnType = rt) && !meth.locks && decide (parseMethodDescriptor y.desc = some meth.sig)) = true) : (Jvm.Cond.code y bytes mx rt).before a s = true := by
  simp only [Bool.and_eq_true, beq_iff_eq, Bool.not_eq_true', decide_eq_true_eq] at h5
  obtain ⟨⟨⟨⟨⟨g1, g2⟩, g3⟩, g4⟩, g5⟩, g6⟩ := h5
  simp [Cond.before, Cond.holds, Cond.value, h1, h2, h3, h4, g1, g2, g3, g4, g5, g6]
def isCode : Jvm.Cond → Bool
  | .code _ _ _ _ => true
  | _ => false
theorem all_split {L : List Jvm.Cond} {P : Jvm.Cond → Bool} (h1 : L.all (fun c => isCode c || P c) = true) (h2 : ∀ c ∈ L.filter isCode, P c = true) : L.all P = true := by
  refine List.all_eq_true.mpr fun c hc => ?_
  have h := List.all_eq_true.mp h1 c hc
  rcases Bool.eq_false_or_eq_true (isCode c) with hi | hi
  · exact h2 c (List.mem_filter.mpr ⟨hc, hi⟩)
  · simpa [hi] using h
set_option maxRecDepth 65536 in
theorem w_c0 : (Jvm.Cond.code x code maxLocals ret).before args0 about1 = true := code_word (m := ⟨1, 1⟩) (meth := k1m1) (c := k1c1) (by decide +kernel) rfl rfl rfl (by decide +kernel)
set_option maxRecDepth 65536 in
theorem w_c1 : (Jvm.Cond.code ({ cls := "com/example/bound_prefix/boundprefix/XmlCharactersIsCharacterPinLaw", name := "charXml11", desc := "(I)Z" } : Jvm.MethodName) method_4_code (1 : Nat) (Option.some Jvm.ClassFile.FieldType.boolean)).before args0 about1 = true := code_word (m := ⟨1, 3⟩) (meth := k1m3) (c := k1c3) (by decide +kernel) rfl rfl rfl (by decide +kernel)
set_option maxRecDepth 65536 in
theorem w_c2 : (Jvm.Cond.code ({ cls := "com/example/bound_prefix/boundprefix/XmlCharacters", name := "isCharacter", desc := "(IZ)Z" } : Jvm.MethodName) prog_107_method_2_code (3 : Nat) (Option.some Jvm.ClassFile.FieldType.boolean)).before args0 about1 = true := code_word (m := ⟨2, 1⟩) (meth := k2m1) (c := k2c1) (by decide +kernel) rfl rfl rfl (by decide +kernel)
set_option maxRecDepth 65536 in
theorem w_c3 : (Jvm.Cond.code ({ cls := "com/example/bound_prefix/boundprefix/XmlCharactersIsCharacterPinLaw", name := "charXml10", desc := "(I)Z" } : Jvm.MethodName) method_3_code (1 : Nat) (Option.some Jvm.ClassFile.FieldType.boolean)).before args0 about1 = true := code_word (m := ⟨1, 2⟩) (meth := k1m2) (c := k1c2) (by decide +kernel) rfl rfl rfl (by decide +kernel)
def codes1 : List Jvm.Cond := [Jvm.Cond.code x code maxLocals ret, Jvm.Cond.code ({ cls := "com/example/bound_prefix/boundprefix/XmlCharactersIsCharacterPinLaw", name := "charXml11", desc := "(I)Z" } : Jvm.MethodName) method_4_code (1 : Nat) (Option.some Jvm.ClassFile.FieldType.boolean), Jvm.Cond.code ({ cls := "com/example/bound_prefix/boundprefix/XmlCharacters", name := "isCharacter", desc := "(IZ)Z" } : Jvm.MethodName) prog_107_method_2_code (3 : Nat) (Option.some Jvm.ClassFile.FieldType.boolean), Jvm.Cond.code ({ cls := "com/example/bound_prefix/boundprefix/XmlCharactersIsCharacterPinLaw", name := "charXml10", desc := "(I)Z" } : Jvm.MethodName) method_3_code (1 : Nat) (Option.some Jvm.ClassFile.FieldType.boolean)]
set_option maxRecDepth 65536 in
theorem codes_eq : words1.filter isCode = codes1 := rfl
theorem w_codes : ∀ c ∈ words1.filter isCode, c.before args0 about1 = true := by
  rw [codes_eq]
  intro c hc
  simp only [codes1, List.mem_cons, List.not_mem_nil, or_false] at hc
  rcases hc with rfl | rfl | rfl | rfl
  · exact w_c0
  · exact w_c1
  · exact w_c2
  · exact w_c3
set_option maxRecDepth 65536 in
theorem w_t1 : words1.all (fun c => isCode c || c.before args0 about1) = true := by decide +kernel
theorem w_tables : (allAtoms (Jvm.Cond.code x code maxLocals ret :: tables_1)).before args0 about1 = true := by
  rw [allAtoms_all]
  show words1.all (fun c => c.before args0 about1) = true
  refine all_split ?_ w_codes
  rw [w_t1]
set_option maxRecDepth 65536 in
theorem w_case : (Jvm.Cond.and given_1 narrow_1).before args0 about1 = true := by decide +kernel
theorem w_applies : (headSpec (Jvm.Cond.code x code maxLocals ret :: tables_1) room_1).applies x e0.platform about1 = true :=
  (Spec.applies_iff w_frames).mpr ⟨w_running, w_runnable, w_alone, w_named, w_hears, w_ripe, w_room, w_tables⟩
theorem atStart : AtStart classFile x code maxLocals ret World_1 tables_1 room_1 Calls_1 rest_1 Pre_1 launch0 p0 e0 about1 theMethod args0 below0 :=
  ⟨lists_1, trivial, launch0.admits_env _ _ _, launch0.least_env, fairChoices_fair.cas, fairChoices_fair.clock, w_frames, w_args, w_heap, w_applies, trivial, trivial, w_case⟩
end start1
theorem witness_1 : WitnessClaimed_1 := ⟨start1.p0, start1.e0, start1.about1, start1.theMethod, start1.args0, start1.below0, start1.atStart⟩
end Jvm.Pilot.@@N@@
