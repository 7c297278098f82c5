import JvmDerived
import JvmDerived.Pilot.@@N@@Statement
import JvmDerived.Pilot.@@N@@Code
set_option linter.unusedVariables false
set_option linter.unusedSimpArgs false
namespace Jvm.Pilot.@@N@@
open Jvm Jvm.ClassFile Sem Op Lib Jvm.Free Jvm.Stand Jvm.LawKit Jvm.RoadKit Bundle Jvm.Pilot.@@N@@.Jvm.D
section Own
variable {p : Program} {l : Launch} {e : Env} {R : Room} {s : State} {m : MethodId} {args : Array Value} {below : List Frame} {meth : Method} {c : Code} {T T' : State} {locs : List Loc} {cells slots C N : Nat} {Q : Option Value → Heap → List Loc → Prop} {g g' : JFrame}
/-- from T with the frame g on top the invocation of s comes to its end: it returns, and Q holds of what it returns, of the heap and of the places written -/
def Go (p : Program) (e : Env) (below : List Frame) (s : State) (C N : Nat) (Q : Option Value → Heap → List Loc → Prop) (T : State) (g : JFrame) : Prop :=
  ∃ s₂ o, Steps p.tables e below (T.setTop g) s₂ ∧ s₂.status = .running ∧ Ended s₂ below o ∧ ∃ v L, o = .returned v ∧ Q v s₂.heap L ∧ FrameEnd s o s₂ L C N
theorem Go.st (h : ∀ t, Steps p.tables e below (T'.setTop g') t → Steps p.tables e below (T.setTop g) t) (k : Go p e below s C N Q T' g') : Go p e below s C N Q T g := by
  obtain ⟨s2, o, h1, h2⟩ := k
  exact ⟨s2, o, h _ h1, h2⟩
theorem Go.enter (q : g = g') (k : Go p e below s C N Q T g') : ∃ s₂ o, Steps p.tables e below (T.setTop g) s₂ ∧ s₂.status = .running ∧ Ended s₂ below o ∧ ∃ v L, o = .returned v ∧ Q v s₂.heap L ∧ FrameEnd s o s₂ L C N := by
  subst q; exact k
theorem Go.fin (X : Stand p l e R s m args below meth c T locs cells slots) (hlk : meth.locks = false) {v : Option Value} (hv : meth.sig.returnType = none → v = none) (hC : cells ≤ C) (hN : slots ≤ N) (hq : Q v T.heap locs)
    (hs : ∀ fs, (∀ (f : JFrame) (acts : List Action), f.method = m → f.locked = none → f.entered = [] → (doReturn e (T.setTop f) acts v).1 = T.setFrames fs) → Steps p.tables e below (T.setTop g) (T.setFrames fs)) : Go p e below s C N Q T g := by
  obtain ⟨fs, hr, hrun, hended, hW, hsame⟩ := X.leave hv hlk
  exact ⟨_, _, hs fs hr, hrun, hended, _, _, rfl, hq, ⟨_, rfl⟩, hW, hsame.mono hC hN⟩
end Own

section OwnG
variable {p : Program} {l : Launch} {e : Env} {R : Room} {s : State} {m : MethodId} {args : Array Value} {below : List Frame} {meth : Method} {c : Code} {T : State} {locs : List Loc} {cells slots C N : Nat} {Q : Option Value → Heap → List Loc → Prop} {pc pc' : Nat} {L L' : Array Slot} {S : List Value}
theorem G_iloadN (X : Stand p l e R s m args below meth c T locs cells slots) (hx : p.tables.exec = Jvm.exec) {k : Fin 4} {v : Int32} (hp : pc + 1 = pc') (hd : decode c.code pc = .ok (.iload_n k, 1)) (hl : L[k.val]? = some (.val (.int v))) (h : Go p e below s C N Q T (mkF m pc' L (.int v :: S))) : Go p e below s C N Q T (mkF m pc L S) := by
  subst hp; exact Go.st (fun _ k => XS.iloadN X.here hx rfl hd hl k) h
theorem G_iload (X : Stand p l e R s m args below meth c T locs cells slots) (hx : p.tables.exec = Jvm.exec) {k : Nat} {v : Int32} (hp : pc + 2 = pc') (hd : decode c.code pc = .ok (.iload k, 2)) (hl : L[k]? = some (.val (.int v))) (h : Go p e below s C N Q T (mkF m pc' L (.int v :: S))) : Go p e below s C N Q T (mkF m pc L S) := by
  subst hp; exact Go.st (fun _ k => XS.iload X.here hx rfl hd hl k) h
theorem G_istoreN (X : Stand p l e R s m args below meth c T locs cells slots) (hx : p.tables.exec = Jvm.exec) {k : Fin 4} {v : Int32} (hp : pc + 1 = pc') (hd : decode c.code pc = .ok (.istore_n k, 1)) (hl : storeLocals L k.val (.int v) = some L') (h : Go p e below s C N Q T (mkF m pc' L' S)) : Go p e below s C N Q T (mkF m pc L (.int v :: S)) := by
  subst hp; exact Go.st (fun _ k => XS.istoreN X.here hx rfl hd rfl hl k) h
theorem G_istore (X : Stand p l e R s m args below meth c T locs cells slots) (hx : p.tables.exec = Jvm.exec) {k : Nat} {v : Int32} (hp : pc + 2 = pc') (hd : decode c.code pc = .ok (.istore k, 2)) (hl : storeLocals L k (.int v) = some L') (h : Go p e below s C N Q T (mkF m pc' L' S)) : Go p e below s C N Q T (mkF m pc L (.int v :: S)) := by
  subst hp; exact Go.st (fun _ k => XS.istore X.here hx rfl hd rfl hl k) h
theorem G_lloadN (X : Stand p l e R s m args below meth c T locs cells slots) (hx : p.tables.exec = Jvm.exec) {k : Fin 4} {v : Int64} (hp : pc + 1 = pc') (hd : decode c.code pc = .ok (.lload_n k, 1)) (hl : L[k.val]? = some (.val (.long v))) (h : Go p e below s C N Q T (mkF m pc' L (.long v :: S))) : Go p e below s C N Q T (mkF m pc L S) := by
  subst hp; exact Go.st (fun _ k => XS.lloadN X.here hx rfl hd hl k) h
theorem G_lload (X : Stand p l e R s m args below meth c T locs cells slots) (hx : p.tables.exec = Jvm.exec) {k : Nat} {v : Int64} (hp : pc + 2 = pc') (hd : decode c.code pc = .ok (.lload k, 2)) (hl : L[k]? = some (.val (.long v))) (h : Go p e below s C N Q T (mkF m pc' L (.long v :: S))) : Go p e below s C N Q T (mkF m pc L S) := by
  subst hp; exact Go.st (fun _ k => XS.lload X.here hx rfl hd hl k) h
theorem G_lstoreN (X : Stand p l e R s m args below meth c T locs cells slots) (hx : p.tables.exec = Jvm.exec) {k : Fin 4} {v : Int64} (hp : pc + 1 = pc') (hd : decode c.code pc = .ok (.lstore_n k, 1)) (hl : storeLocals L k.val (.long v) = some L') (h : Go p e below s C N Q T (mkF m pc' L' S)) : Go p e below s C N Q T (mkF m pc L (.long v :: S)) := by
  subst hp; exact Go.st (fun _ k => XS.lstoreN X.here hx rfl hd rfl hl k) h
theorem G_lstore (X : Stand p l e R s m args below meth c T locs cells slots) (hx : p.tables.exec = Jvm.exec) {k : Nat} {v : Int64} (hp : pc + 2 = pc') (hd : decode c.code pc = .ok (.lstore k, 2)) (hl : storeLocals L k (.long v) = some L') (h : Go p e below s C N Q T (mkF m pc' L' S)) : Go p e below s C N Q T (mkF m pc L (.long v :: S)) := by
  subst hp; exact Go.st (fun _ k => XS.lstore X.here hx rfl hd rfl hl k) h
theorem G_aloadN (X : Stand p l e R s m args below meth c T locs cells slots) (hx : p.tables.exec = Jvm.exec) {k : Fin 4} {v : Value} (hp : pc + 1 = pc') (hd : decode c.code pc = .ok (.aload_n k, 1)) (hl : L[k.val]? = some (.val v)) (hv : v.isRef = true) (h : Go p e below s C N Q T (mkF m pc' L (v :: S))) : Go p e below s C N Q T (mkF m pc L S) := by
  subst hp; exact Go.st (fun _ k => XS.aloadN X.here hx rfl hd hl hv k) h
theorem G_aload (X : Stand p l e R s m args below meth c T locs cells slots) (hx : p.tables.exec = Jvm.exec) {k : Nat} {v : Value} (hp : pc + 2 = pc') (hd : decode c.code pc = .ok (.aload k, 2)) (hl : L[k]? = some (.val v)) (hv : v.isRef = true) (h : Go p e below s C N Q T (mkF m pc' L (v :: S))) : Go p e below s C N Q T (mkF m pc L S) := by
  subst hp; exact Go.st (fun _ k => XS.aload X.here hx rfl hd hl hv k) h
theorem G_astoreN (X : Stand p l e R s m args below meth c T locs cells slots) (hx : p.tables.exec = Jvm.exec) {k : Fin 4} {v : Value} (hp : pc + 1 = pc') (hd : decode c.code pc = .ok (.astore_n k, 1)) (hv : v.isRef = true) (hl : storeLocals L k.val v = some L') (h : Go p e below s C N Q T (mkF m pc' L' S)) : Go p e below s C N Q T (mkF m pc L (v :: S)) := by
  subst hp; exact Go.st (fun _ k => XS.astoreN X.here hx rfl hd rfl hv hl k) h
theorem G_astore (X : Stand p l e R s m args below meth c T locs cells slots) (hx : p.tables.exec = Jvm.exec) {k : Nat} {v : Value} (hp : pc + 2 = pc') (hd : decode c.code pc = .ok (.astore k, 2)) (hv : v.isRef = true) (hl : storeLocals L k v = some L') (h : Go p e below s C N Q T (mkF m pc' L' S)) : Go p e below s C N Q T (mkF m pc L (v :: S)) := by
  subst hp; exact Go.st (fun _ k => XS.astore X.here hx rfl hd rfl hv hl k) h
theorem G_iconst (X : Stand p l e R s m args below meth c T locs cells slots) (hx : p.tables.exec = Jvm.exec) {i : Int} {z : Int32} (hp : pc + 1 = pc') (hd : decode c.code pc = .ok (.iconst i, 1)) (hz : Int32.ofInt i = z) (h : Go p e below s C N Q T (mkF m pc' L (.int z :: S))) : Go p e below s C N Q T (mkF m pc L S) := by
  subst hp; exact Go.st (fun _ k => XS.iconst X.here hx rfl hd (by rw [hz]; exact k)) h
theorem G_bipush (X : Stand p l e R s m args below meth c T locs cells slots) (hx : p.tables.exec = Jvm.exec) {i : Int} {z : Int32} (hp : pc + 2 = pc') (hd : decode c.code pc = .ok (.bipush i, 2)) (hz : (Int8.ofInt i).toInt32 = z) (h : Go p e below s C N Q T (mkF m pc' L (.int z :: S))) : Go p e below s C N Q T (mkF m pc L S) := by
  subst hp; exact Go.st (fun _ k => XS.bipush X.here hx rfl hd (by rw [hz]; exact k)) h
theorem G_sipush (X : Stand p l e R s m args below meth c T locs cells slots) (hx : p.tables.exec = Jvm.exec) {i : Int} {z : Int32} (hp : pc + 3 = pc') (hd : decode c.code pc = .ok (.sipush i, 3)) (hz : (Int16.ofInt i).toInt32 = z) (h : Go p e below s C N Q T (mkF m pc' L (.int z :: S))) : Go p e below s C N Q T (mkF m pc L S) := by
  subst hp; exact Go.st (fun _ k => XS.sipush X.here hx rfl hd (by rw [hz]; exact k)) h
theorem G_lconst (X : Stand p l e R s m args below meth c T locs cells slots) (hx : p.tables.exec = Jvm.exec) {i : Fin 2} {z : Int64} (hp : pc + 1 = pc') (hd : decode c.code pc = .ok (.lconst i, 1)) (hz : Int64.ofNat i = z) (h : Go p e below s C N Q T (mkF m pc' L (.long z :: S))) : Go p e below s C N Q T (mkF m pc L S) := by
  subst hp; exact Go.st (fun _ k => XS.lconst X.here hx rfl hd (by rw [hz]; exact k)) h
theorem G_aconstNull (X : Stand p l e R s m args below meth c T locs cells slots) (hx : p.tables.exec = Jvm.exec)  (hp : pc + 1 = pc') (hd : decode c.code pc = .ok (.aconst_null, 1))  (h : Go p e below s C N Q T (mkF m pc' L (.null :: S))) : Go p e below s C N Q T (mkF m pc L S) := by
  subst hp; exact Go.st (fun _ k => XS.aconstNull X.here hx rfl hd k) h
theorem G_iadd (X : Stand p l e R s m args below meth c T locs cells slots) (hx : p.tables.exec = Jvm.exec) {x y : Int32} (hp : pc + 1 = pc') (hd : decode c.code pc = .ok (.iadd, 1))  (h : Go p e below s C N Q T (mkF m pc' L (.int (x + y) :: S))) : Go p e below s C N Q T (mkF m pc L (.int y :: .int x :: S)) := by
  subst hp; exact Go.st (fun _ k => XS.iadd X.here hx rfl hd rfl k) h
theorem G_isub (X : Stand p l e R s m args below meth c T locs cells slots) (hx : p.tables.exec = Jvm.exec) {x y : Int32} (hp : pc + 1 = pc') (hd : decode c.code pc = .ok (.isub, 1))  (h : Go p e below s C N Q T (mkF m pc' L (.int (x - y) :: S))) : Go p e below s C N Q T (mkF m pc L (.int y :: .int x :: S)) := by
  subst hp; exact Go.st (fun _ k => XS.isub X.here hx rfl hd rfl k) h
theorem G_imul (X : Stand p l e R s m args below meth c T locs cells slots) (hx : p.tables.exec = Jvm.exec) {x y : Int32} (hp : pc + 1 = pc') (hd : decode c.code pc = .ok (.imul, 1))  (h : Go p e below s C N Q T (mkF m pc' L (.int (x * y) :: S))) : Go p e below s C N Q T (mkF m pc L (.int y :: .int x :: S)) := by
  subst hp; exact Go.st (fun _ k => XS.imul X.here hx rfl hd rfl k) h
theorem G_iand (X : Stand p l e R s m args below meth c T locs cells slots) (hx : p.tables.exec = Jvm.exec) {x y : Int32} (hp : pc + 1 = pc') (hd : decode c.code pc = .ok (.iand, 1))  (h : Go p e below s C N Q T (mkF m pc' L (.int (x &&& y) :: S))) : Go p e below s C N Q T (mkF m pc L (.int y :: .int x :: S)) := by
  subst hp; exact Go.st (fun _ k => XS.iand X.here hx rfl hd rfl k) h
theorem G_ior (X : Stand p l e R s m args below meth c T locs cells slots) (hx : p.tables.exec = Jvm.exec) {x y : Int32} (hp : pc + 1 = pc') (hd : decode c.code pc = .ok (.ior, 1))  (h : Go p e below s C N Q T (mkF m pc' L (.int (x ||| y) :: S))) : Go p e below s C N Q T (mkF m pc L (.int y :: .int x :: S)) := by
  subst hp; exact Go.st (fun _ k => XS.ior X.here hx rfl hd rfl k) h
theorem G_ixor (X : Stand p l e R s m args below meth c T locs cells slots) (hx : p.tables.exec = Jvm.exec) {x y : Int32} (hp : pc + 1 = pc') (hd : decode c.code pc = .ok (.ixor, 1))  (h : Go p e below s C N Q T (mkF m pc' L (.int (x ^^^ y) :: S))) : Go p e below s C N Q T (mkF m pc L (.int y :: .int x :: S)) := by
  subst hp; exact Go.st (fun _ k => XS.ixor X.here hx rfl hd rfl k) h
theorem G_ishl (X : Stand p l e R s m args below meth c T locs cells slots) (hx : p.tables.exec = Jvm.exec) {x y : Int32} (hp : pc + 1 = pc') (hd : decode c.code pc = .ok (.ishl, 1))  (h : Go p e below s C N Q T (mkF m pc' L (.int (x <<< (y &&& 31)) :: S))) : Go p e below s C N Q T (mkF m pc L (.int y :: .int x :: S)) := by
  subst hp; exact Go.st (fun _ k => XS.ishl X.here hx rfl hd rfl k) h
theorem G_ishr (X : Stand p l e R s m args below meth c T locs cells slots) (hx : p.tables.exec = Jvm.exec) {x y : Int32} (hp : pc + 1 = pc') (hd : decode c.code pc = .ok (.ishr, 1))  (h : Go p e below s C N Q T (mkF m pc' L (.int (x >>> (y &&& 31)) :: S))) : Go p e below s C N Q T (mkF m pc L (.int y :: .int x :: S)) := by
  subst hp; exact Go.st (fun _ k => XS.ishr X.here hx rfl hd rfl k) h
theorem G_iushr (X : Stand p l e R s m args below meth c T locs cells slots) (hx : p.tables.exec = Jvm.exec) {x y : Int32} (hp : pc + 1 = pc') (hd : decode c.code pc = .ok (.iushr, 1))  (h : Go p e below s C N Q T (mkF m pc' L (.int ((x.toUInt32 >>> (y &&& 31).toUInt32).toInt32) :: S))) : Go p e below s C N Q T (mkF m pc L (.int y :: .int x :: S)) := by
  subst hp; exact Go.st (fun _ k => XS.iushr X.here hx rfl hd rfl k) h
theorem G_ladd (X : Stand p l e R s m args below meth c T locs cells slots) (hx : p.tables.exec = Jvm.exec) {x y : Int64} (hp : pc + 1 = pc') (hd : decode c.code pc = .ok (.ladd, 1))  (h : Go p e below s C N Q T (mkF m pc' L (.long (x + y) :: S))) : Go p e below s C N Q T (mkF m pc L (.long y :: .long x :: S)) := by
  subst hp; exact Go.st (fun _ k => XS.ladd X.here hx rfl hd rfl k) h
theorem G_lsub (X : Stand p l e R s m args below meth c T locs cells slots) (hx : p.tables.exec = Jvm.exec) {x y : Int64} (hp : pc + 1 = pc') (hd : decode c.code pc = .ok (.lsub, 1))  (h : Go p e below s C N Q T (mkF m pc' L (.long (x - y) :: S))) : Go p e below s C N Q T (mkF m pc L (.long y :: .long x :: S)) := by
  subst hp; exact Go.st (fun _ k => XS.lsub X.here hx rfl hd rfl k) h
theorem G_lmul (X : Stand p l e R s m args below meth c T locs cells slots) (hx : p.tables.exec = Jvm.exec) {x y : Int64} (hp : pc + 1 = pc') (hd : decode c.code pc = .ok (.lmul, 1))  (h : Go p e below s C N Q T (mkF m pc' L (.long (x * y) :: S))) : Go p e below s C N Q T (mkF m pc L (.long y :: .long x :: S)) := by
  subst hp; exact Go.st (fun _ k => XS.lmul X.here hx rfl hd rfl k) h
theorem G_land (X : Stand p l e R s m args below meth c T locs cells slots) (hx : p.tables.exec = Jvm.exec) {x y : Int64} (hp : pc + 1 = pc') (hd : decode c.code pc = .ok (.land, 1))  (h : Go p e below s C N Q T (mkF m pc' L (.long (x &&& y) :: S))) : Go p e below s C N Q T (mkF m pc L (.long y :: .long x :: S)) := by
  subst hp; exact Go.st (fun _ k => XS.land X.here hx rfl hd rfl k) h
theorem G_lor (X : Stand p l e R s m args below meth c T locs cells slots) (hx : p.tables.exec = Jvm.exec) {x y : Int64} (hp : pc + 1 = pc') (hd : decode c.code pc = .ok (.lor, 1))  (h : Go p e below s C N Q T (mkF m pc' L (.long (x ||| y) :: S))) : Go p e below s C N Q T (mkF m pc L (.long y :: .long x :: S)) := by
  subst hp; exact Go.st (fun _ k => XS.lor X.here hx rfl hd rfl k) h
theorem G_lxor (X : Stand p l e R s m args below meth c T locs cells slots) (hx : p.tables.exec = Jvm.exec) {x y : Int64} (hp : pc + 1 = pc') (hd : decode c.code pc = .ok (.lxor, 1))  (h : Go p e below s C N Q T (mkF m pc' L (.long (x ^^^ y) :: S))) : Go p e below s C N Q T (mkF m pc L (.long y :: .long x :: S)) := by
  subst hp; exact Go.st (fun _ k => XS.lxor X.here hx rfl hd rfl k) h
theorem G_lshl (X : Stand p l e R s m args below meth c T locs cells slots) (hx : p.tables.exec = Jvm.exec) {x : Int64} {y : Int32} (hp : pc + 1 = pc') (hd : decode c.code pc = .ok (.lshl, 1))  (h : Go p e below s C N Q T (mkF m pc' L (.long (x <<< (y &&& 0x3f).toInt64) :: S))) : Go p e below s C N Q T (mkF m pc L (.int y :: .long x :: S)) := by
  subst hp; exact Go.st (fun _ k => XS.lshl X.here hx rfl hd rfl k) h
theorem G_lshr (X : Stand p l e R s m args below meth c T locs cells slots) (hx : p.tables.exec = Jvm.exec) {x : Int64} {y : Int32} (hp : pc + 1 = pc') (hd : decode c.code pc = .ok (.lshr, 1))  (h : Go p e below s C N Q T (mkF m pc' L (.long (x >>> (y &&& 0x3f).toInt64) :: S))) : Go p e below s C N Q T (mkF m pc L (.int y :: .long x :: S)) := by
  subst hp; exact Go.st (fun _ k => XS.lshr X.here hx rfl hd rfl k) h
theorem G_lushr (X : Stand p l e R s m args below meth c T locs cells slots) (hx : p.tables.exec = Jvm.exec) {x : Int64} {y : Int32} (hp : pc + 1 = pc') (hd : decode c.code pc = .ok (.lushr, 1))  (h : Go p e below s C N Q T (mkF m pc' L (.long ((x.toUInt64 >>> (y &&& 0x3f).toInt64.toUInt64).toInt64) :: S))) : Go p e below s C N Q T (mkF m pc L (.int y :: .long x :: S)) := by
  subst hp; exact Go.st (fun _ k => XS.lushr X.here hx rfl hd rfl k) h
theorem G_idiv (X : Stand p l e R s m args below meth c T locs cells slots) (hx : p.tables.exec = Jvm.exec) {x y : Int32} (hp : pc + 1 = pc') (hd : decode c.code pc = .ok (.idiv, 1)) (hy : y ≠ 0) (h : Go p e below s C N Q T (mkF m pc' L (.int (x / y) :: S))) : Go p e below s C N Q T (mkF m pc L (.int y :: .int x :: S)) := by
  subst hp; exact Go.st (fun _ k => XS.idiv X.here hx rfl hd rfl hy k) h
theorem G_irem (X : Stand p l e R s m args below meth c T locs cells slots) (hx : p.tables.exec = Jvm.exec) {x y : Int32} (hp : pc + 1 = pc') (hd : decode c.code pc = .ok (.irem, 1)) (hy : y ≠ 0) (h : Go p e below s C N Q T (mkF m pc' L (.int (x % y) :: S))) : Go p e below s C N Q T (mkF m pc L (.int y :: .int x :: S)) := by
  subst hp; exact Go.st (fun _ k => iremM X hx rfl hd rfl hy k) h
theorem G_ldiv (X : Stand p l e R s m args below meth c T locs cells slots) (hx : p.tables.exec = Jvm.exec) {x y : Int64} (hp : pc + 1 = pc') (hd : decode c.code pc = .ok (.ldiv, 1)) (hy : y ≠ 0) (h : Go p e below s C N Q T (mkF m pc' L (.long (x / y) :: S))) : Go p e below s C N Q T (mkF m pc L (.long y :: .long x :: S)) := by
  subst hp; exact Go.st (fun _ k => XS.ldiv X.here hx rfl hd rfl hy k) h
theorem G_lrem (X : Stand p l e R s m args below meth c T locs cells slots) (hx : p.tables.exec = Jvm.exec) {x y : Int64} (hp : pc + 1 = pc') (hd : decode c.code pc = .ok (.lrem, 1)) (hy : y ≠ 0) (h : Go p e below s C N Q T (mkF m pc' L (.long (x % y) :: S))) : Go p e below s C N Q T (mkF m pc L (.long y :: .long x :: S)) := by
  subst hp; exact Go.st (fun _ k => XS.lrem X.here hx rfl hd rfl hy (by rw [lrem_mod]; exact k)) h
theorem G_ineg (X : Stand p l e R s m args below meth c T locs cells slots) (hx : p.tables.exec = Jvm.exec) {x : Int32} (hp : pc + 1 = pc') (hd : decode c.code pc = .ok (.ineg, 1))  (h : Go p e below s C N Q T (mkF m pc' L (.int (-x) :: S))) : Go p e below s C N Q T (mkF m pc L (.int x :: S)) := by
  subst hp; exact Go.st (fun _ k => XS.ineg X.here hx rfl hd rfl k) h
theorem G_lneg (X : Stand p l e R s m args below meth c T locs cells slots) (hx : p.tables.exec = Jvm.exec) {x : Int64} (hp : pc + 1 = pc') (hd : decode c.code pc = .ok (.lneg, 1))  (h : Go p e below s C N Q T (mkF m pc' L (.long (-x) :: S))) : Go p e below s C N Q T (mkF m pc L (.long x :: S)) := by
  subst hp; exact Go.st (fun _ k => XS.lneg X.here hx rfl hd rfl k) h
theorem G_i2l (X : Stand p l e R s m args below meth c T locs cells slots) (hx : p.tables.exec = Jvm.exec) {x : Int32} (hp : pc + 1 = pc') (hd : decode c.code pc = .ok (.i2l, 1))  (h : Go p e below s C N Q T (mkF m pc' L (.long (x.toInt64) :: S))) : Go p e below s C N Q T (mkF m pc L (.int x :: S)) := by
  subst hp; exact Go.st (fun _ k => XS.i2l X.here hx rfl hd rfl k) h
theorem G_l2i (X : Stand p l e R s m args below meth c T locs cells slots) (hx : p.tables.exec = Jvm.exec) {x : Int64} (hp : pc + 1 = pc') (hd : decode c.code pc = .ok (.l2i, 1))  (h : Go p e below s C N Q T (mkF m pc' L (.int (x.toInt32) :: S))) : Go p e below s C N Q T (mkF m pc L (.long x :: S)) := by
  subst hp; exact Go.st (fun _ k => XS.l2i X.here hx rfl hd rfl k) h
theorem G_i2b (X : Stand p l e R s m args below meth c T locs cells slots) (hx : p.tables.exec = Jvm.exec) {x : Int32} (hp : pc + 1 = pc') (hd : decode c.code pc = .ok (.i2b, 1))  (h : Go p e below s C N Q T (mkF m pc' L (.int (x.toInt8.toInt32) :: S))) : Go p e below s C N Q T (mkF m pc L (.int x :: S)) := by
  subst hp; exact Go.st (fun _ k => XS.i2b X.here hx rfl hd rfl k) h
theorem G_i2s (X : Stand p l e R s m args below meth c T locs cells slots) (hx : p.tables.exec = Jvm.exec) {x : Int32} (hp : pc + 1 = pc') (hd : decode c.code pc = .ok (.i2s, 1))  (h : Go p e below s C N Q T (mkF m pc' L (.int (x.toInt16.toInt32) :: S))) : Go p e below s C N Q T (mkF m pc L (.int x :: S)) := by
  subst hp; exact Go.st (fun _ k => XS.i2s X.here hx rfl hd rfl k) h
theorem G_i2c (X : Stand p l e R s m args below meth c T locs cells slots) (hx : p.tables.exec = Jvm.exec) {x : Int32} (hp : pc + 1 = pc') (hd : decode c.code pc = .ok (.i2c, 1))  (h : Go p e below s C N Q T (mkF m pc' L (.int (x.toUInt32.toUInt16.toUInt32.toInt32) :: S))) : Go p e below s C N Q T (mkF m pc L (.int x :: S)) := by
  subst hp; exact Go.st (fun _ k => XS.i2c X.here hx rfl hd rfl k) h
theorem G_lcmp (X : Stand p l e R s m args below meth c T locs cells slots) (hx : p.tables.exec = Jvm.exec) {x y : Int64} (hp : pc + 1 = pc') (hd : decode c.code pc = .ok (.lcmp, 1))  (h : Go p e below s C N Q T (mkF m pc' L (.int (lcmpW x y) :: S))) : Go p e below s C N Q T (mkF m pc L (.long y :: .long x :: S)) := by
  subst hp; exact Go.st (fun _ k => XS.lcmp X.here hx rfl hd rfl k) h
theorem G_iinc (X : Stand p l e R s m args below meth c T locs cells slots) (hx : p.tables.exec = Jvm.exec) {k : Nat} {cst : Int} {x z : Int32} (hp : pc + 3 = pc') (hd : decode c.code pc = .ok (.iinc k cst, 3)) (hl : L[k]? = some (.val (.int x))) (hz : x + Int32.ofInt cst = z) (hl' : storeLocals L k (.int z) = some L') (h : Go p e below s C N Q T (mkF m pc' L' S)) : Go p e below s C N Q T (mkF m pc L S) := by
  subst hp; exact Go.st (fun _ k => XS.iinc X.here hx rfl hd hl (by rw [hz]; exact hl') k) h
theorem G_dup (X : Stand p l e R s m args below meth c T locs cells slots) (hx : p.tables.exec = Jvm.exec) {x : Value} (hp : pc + 1 = pc') (hd : decode c.code pc = .ok (.dup, 1)) (hc : x.category = 1) (h : Go p e below s C N Q T (mkF m pc' L (x :: x :: S))) : Go p e below s C N Q T (mkF m pc L (x :: S)) := by
  subst hp; exact Go.st (fun _ k => XS.dup X.here hx rfl hd rfl hc k) h
theorem G_pop (X : Stand p l e R s m args below meth c T locs cells slots) (hx : p.tables.exec = Jvm.exec) {x : Value} (hp : pc + 1 = pc') (hd : decode c.code pc = .ok (.pop, 1)) (hc : x.category = 1) (h : Go p e below s C N Q T (mkF m pc' L S)) : Go p e below s C N Q T (mkF m pc L (x :: S)) := by
  subst hp; exact Go.st (fun _ k => XS.pop X.here hx rfl hd rfl hc k) h
theorem G_dupX1 (X : Stand p l e R s m args below meth c T locs cells slots) (hx : p.tables.exec = Jvm.exec) {x y : Value} (hp : pc + 1 = pc') (hd : decode c.code pc = .ok (.dup_x1, 1)) (hc : x.category = 1) (hc' : y.category = 1) (h : Go p e below s C N Q T (mkF m pc' L (x :: y :: x :: S))) : Go p e below s C N Q T (mkF m pc L (x :: y :: S)) := by
  subst hp; exact Go.st (fun _ k => XS.dupX1 X.here hx rfl hd rfl hc hc' k) h
theorem G_goto (X : Stand p l e R s m args below meth c T locs cells slots) (hx : p.tables.exec = Jvm.exec)  {o : Int} (hd : decode c.code pc = .ok (.goto o, 3))  (ho : 0 ≤ (pc : Int) + o) (hp : ((pc : Int) + o).toNat = pc') (h : Go p e below s C N Q T (mkF m pc' L S)) : Go p e below s C N Q T (mkF m pc L S) :=
  Go.st (fun _ k => XS.goto X.here hx rfl rfl hd ho hp k) h
theorem G_ifYes (X : Stand p l e R s m args below meth c T locs cells slots) (hx : p.tables.exec = Jvm.exec) {cd : ClassFile.Cond} {x : Int32} {o : Int} (hd : decode c.code pc = .ok (.ifCond cd o, 3)) (hc : ifCond.holds cd x = true) (ho : 0 ≤ (pc : Int) + o) (hp : ((pc : Int) + o).toNat = pc') (h : Go p e below s C N Q T (mkF m pc' L S)) : Go p e below s C N Q T (mkF m pc L (.int x :: S)) :=
  Go.st (fun _ k => XS.ifYes X.here hx rfl rfl hd rfl hc ho hp k) h
theorem G_icmpYes (X : Stand p l e R s m args below meth c T locs cells slots) (hx : p.tables.exec = Jvm.exec) {cd : ClassFile.Cond} {x y : Int32} {o : Int} (hd : decode c.code pc = .ok (.if_icmp cd o, 3)) (hc : if_icmp.holds cd x y = true) (ho : 0 ≤ (pc : Int) + o) (hp : ((pc : Int) + o).toNat = pc') (h : Go p e below s C N Q T (mkF m pc' L S)) : Go p e below s C N Q T (mkF m pc L (.int y :: .int x :: S)) :=
  Go.st (fun _ k => XS.icmpYes X.here hx rfl rfl hd rfl hc ho hp k) h
theorem G_ifnullYes (X : Stand p l e R s m args below meth c T locs cells slots) (hx : p.tables.exec = Jvm.exec)  {o : Int} (hd : decode c.code pc = .ok (.ifnull o, 3))  (ho : 0 ≤ (pc : Int) + o) (hp : ((pc : Int) + o).toNat = pc') (h : Go p e below s C N Q T (mkF m pc' L S)) : Go p e below s C N Q T (mkF m pc L (.null :: S)) :=
  Go.st (fun _ k => XS.ifnullYes X.here hx rfl rfl hd rfl ho hp k) h
theorem G_ifnonnullYes (X : Stand p l e R s m args below meth c T locs cells slots) (hx : p.tables.exec = Jvm.exec) {b : Addr} {o : Int} (hd : decode c.code pc = .ok (.ifnonnull o, 3))  (ho : 0 ≤ (pc : Int) + o) (hp : ((pc : Int) + o).toNat = pc') (h : Go p e below s C N Q T (mkF m pc' L S)) : Go p e below s C N Q T (mkF m pc L (.ref b :: S)) :=
  Go.st (fun _ k => XS.ifnonnullYes X.here hx rfl rfl hd rfl ho hp k) h
theorem G_ifNo (X : Stand p l e R s m args below meth c T locs cells slots) (hx : p.tables.exec = Jvm.exec) {cd : ClassFile.Cond} {x : Int32} {o : Int} (hp : pc + 3 = pc') (hd : decode c.code pc = .ok (.ifCond cd o, 3)) (hc : ifCond.holds cd x = false) (h : Go p e below s C N Q T (mkF m pc' L S)) : Go p e below s C N Q T (mkF m pc L (.int x :: S)) := by
  subst hp; exact Go.st (fun _ k => XS.ifNo X.here hx rfl hd rfl hc k) h
theorem G_icmpNo (X : Stand p l e R s m args below meth c T locs cells slots) (hx : p.tables.exec = Jvm.exec) {cd : ClassFile.Cond} {x y : Int32} {o : Int} (hp : pc + 3 = pc') (hd : decode c.code pc = .ok (.if_icmp cd o, 3)) (hc : if_icmp.holds cd x y = false) (h : Go p e below s C N Q T (mkF m pc' L S)) : Go p e below s C N Q T (mkF m pc L (.int y :: .int x :: S)) := by
  subst hp; exact Go.st (fun _ k => XS.icmpNo X.here hx rfl hd rfl hc k) h
theorem G_ifnullNo (X : Stand p l e R s m args below meth c T locs cells slots) (hx : p.tables.exec = Jvm.exec) {b : Addr} {o : Int} (hp : pc + 3 = pc') (hd : decode c.code pc = .ok (.ifnull o, 3))  (h : Go p e below s C N Q T (mkF m pc' L S)) : Go p e below s C N Q T (mkF m pc L (.ref b :: S)) := by
  subst hp; exact Go.st (fun _ k => XS.ifnullNo X.here hx rfl hd rfl k) h
theorem G_ifnonnullNo (X : Stand p l e R s m args below meth c T locs cells slots) (hx : p.tables.exec = Jvm.exec) {o : Int} (hp : pc + 3 = pc') (hd : decode c.code pc = .ok (.ifnonnull o, 3))  (h : Go p e below s C N Q T (mkF m pc' L S)) : Go p e below s C N Q T (mkF m pc L (.null :: S)) := by
  subst hp; exact Go.st (fun _ k => XS.ifnonnullNo X.here hx rfl hd rfl k) h
theorem G_ldc (X : Stand p l e R s m args below meth c T locs cells slots) (hx : p.tables.exec = Jvm.exec) (hp : pc + 2 = pc') {own : String} {index : Nat} {v : Int32} (hown : s.vm.findClass own = some m.cls) (hw : (Cond.constant own index v).before args s = true) (hd : decode c.code pc = .ok (.ldc index, 2)) (h : Go p e below s C N Q T (mkF m pc' L (.int v :: S))) : Go p e below s C N Q T (mkF m pc L S) := by
  subst hp; exact Go.st (X.ldcInt hx hown hw (g := mkF m pc L S) rfl hd) h
theorem G_ldc2 (X : Stand p l e R s m args below meth c T locs cells slots) (hx : p.tables.exec = Jvm.exec) (hp : pc + 3 = pc') {own : String} {index : Nat} {v : Int64} (hown : s.vm.findClass own = some m.cls) (hw : (Cond.constantLong own index v).before args s = true) (hd : decode c.code pc = .ok (.ldc2_w index, 3)) (h : Go p e below s C N Q T (mkF m pc' L (.long v :: S))) : Go p e below s C N Q T (mkF m pc L S) := by
  subst hp; exact Go.st (X.ldc2Long hx hown hw (g := mkF m pc L S) rfl hd) h
end OwnG

section OwnArr
variable {p : Program} {l : Launch} {e : Env} {R : Room} {s : State} {m : MethodId} {args : Array Value} {below : List Frame} {meth : Method} {c : Code} {T T' : State} {locs : List Loc} {cells slots : Nat} {Z : State} {a0 : Array Value} {h h' : Heap} {a b : Addr} {ty : FieldType} {vs : List Value} {xs : List Int32} {ys : List Int64} {v : Value} {sl : Nat} {ws : List Addr}
/-- the array at a, of components ty, holds just these values -/
def AV (Z : State) (h : Heap) (a : Addr) (ty : FieldType) (vs : List Value) : Prop := ∃ c : Cell, Arr Z h a c ty ∧ c.slots = vs.toArray ∧ vs.length < 2147483648 ∧ ∀ v ∈ vs, fits ty v = true
def AI (Z : State) (h : Heap) (a : Addr) (ty : FieldType) (xs : List Int32) : Prop := AV Z h a ty (xs.map Value.int)
def AJ (Z : State) (h : Heap) (a : Addr) (ys : List Int64) : Prop := AV Z h a .long (ys.map Value.long)
theorem AV.lt (F : AV Z h a ty vs) : a < h.size := by obtain ⟨c, A, -⟩ := F; exact A.lt
theorem AV.ext (F : AV Z h a ty vs) (E : Ext h h') : AV Z h' a ty vs := by obtain ⟨c, A, r⟩ := F; exact ⟨c, A.ext E, r⟩
theorem AV.other (F : AV Z h b ty vs) (W : Wr h h' a sl v) (q : b ≠ a) : AV Z h' b ty vs := by obtain ⟨c, A, r⟩ := F; exact ⟨c, A.other W q, r⟩
theorem AV.keep (F : AV Z h a ty vs) (K : Keep h h' ws) (q : a ∉ ws) : AV Z h' a ty vs := by obtain ⟨c, A, r⟩ := F; exact ⟨c, ⟨K.2.1 a c A.1 q, A.2⟩, r⟩
theorem AI.lt (F : AI Z h a ty xs) : a < h.size := AV.lt F
theorem AI.ext (F : AI Z h a ty xs) (E : Ext h h') : AI Z h' a ty xs := AV.ext F E
theorem AI.other (F : AI Z h b ty xs) (W : Wr h h' a sl v) (q : b ≠ a) : AI Z h' b ty xs := AV.other F W q
theorem AI.keep (F : AI Z h a ty xs) (K : Keep h h' ws) (q : a ∉ ws) : AI Z h' a ty xs := AV.keep F K q
theorem AJ.lt (F : AJ Z h a ys) : a < h.size := AV.lt F
theorem AJ.ext (F : AJ Z h a ys) (E : Ext h h') : AJ Z h' a ys := AV.ext F E
theorem AJ.other (F : AJ Z h b ys) (W : Wr h h' a sl v) (q : b ≠ a) : AJ Z h' b ys := AV.other F W q
theorem AJ.keep (F : AJ Z h a ys) (K : Keep h h' ws) (q : a ∉ ws) : AJ Z h' a ys := AV.keep F K q
theorem own_in {j : Int32} {n : Nat} (h1 : ¬ j < 0) (h2 : j.toNatClampNeg < n) : ¬ (j < 0 ∨ n ≤ j.toNatClampNeg) := fun q => q.elim h1 (fun r => by omega)
theorem AV.new {k : ClassId} {n : Int32} (A : Arr Z h a (newA k ty n) ty) (q : ¬ n < 0) (hf : fits ty (defaultValue ty) = true) : AV Z h a ty (List.replicate n.toNatClampNeg (defaultValue ty)) := by
  refine ⟨_, A, by simp [newA], ?_, fun v hv => ?_⟩
  · rw [List.length_replicate]; exact (back32 q).2
  · rw [List.eq_of_mem_replicate hv]; exact hf
theorem AV.set {cl : Cell} {jn : Nat} (A : Arr Z h a cl ty) (e1 : cl.slots = vs.toArray) (e2 : vs.length < 2147483648) (e3 : ∀ v ∈ vs, fits ty v = true) (hv : fits ty v = true) (W : Wr h h' a jn v) : AV Z h' a ty (vs.set jn v) := by
  refine ⟨cl.setSlot jn v, A.same W, ?_, by rw [List.length_set]; exact e2, fun w hw => ?_⟩
  · simp [Cell.setSlot, e1]
  · rcases List.mem_or_eq_of_mem_set hw with q | q
    · exact e3 w q
    · rw [q]; exact hv
theorem newAI (X : Stand p l e R s m args below meth c T locs cells slots) (hx : p.tables.exec = Jvm.exec) (hZ : Z.Warmed39 s.vm) {aty : ArrayType} (w : (Cond.arrayClass (newarray.typeOf aty)).before a0 Z = true) (eT : T.heap = h) {g : JFrame} (hg : g.method = m) (hd : decode c.code g.pc = .ok (.newarray aty, 2)) {n : Int32} {rest : List Value} (hs : g.stack = .int n :: rest)
    (hn : ¬ n < 0) {ty : FieldType} (hty : newarray.typeOf aty = ty) (hdv : defaultValue ty = .int 0 ∧ fits ty (.int 0) = true) {cap : Nat} (hcap : n.toNatClampNeg ≤ cap) (hb : cap * 8 ≤ 536870912) (hc : cells + 1 ≤ R.cells) (hl : slots + cap ≤ R.slots) {ad : String} (had : "[" ++ (newarray.typeOf aty).toString = ad) :
    ∃ T' h', Stand p l e R s m args below meth c T' locs (cells + 1) (slots + cap) ∧ T'.heap = h' ∧ Ext h h' ∧ Exa Z h' h.size ad ∧ AI Z h' h.size ty (List.replicate n.toNatClampNeg 0) ∧
      ∀ target, Steps p.tables e below (T'.setTop { g with pc := g.pc + 2, stack := .ref h.size :: rest }) target → Steps p.tables e below (T.setTop g) target := by
  subst hty
  obtain ⟨T', h', cA, X', e', E', A', B', st⟩ := newPE X hx hZ w eT hg hd hs hn hcap hb hc hl had
  have V := AV.new A' hn (by rw [hdv.1]; exact hdv.2)
  refine ⟨T', h', X', e', E', B', ?_, st⟩
  unfold AI
  rw [List.map_replicate, ← hdv.1]
  exact V
theorem newAJ (X : Stand p l e R s m args below meth c T locs cells slots) (hx : p.tables.exec = Jvm.exec) (hZ : Z.Warmed39 s.vm) (w : (Cond.arrayClass .long).before a0 Z = true) (eT : T.heap = h) {g : JFrame} (hg : g.method = m) (hd : decode c.code g.pc = .ok (.newarray .long, 2)) {n : Int32} {rest : List Value} (hs : g.stack = .int n :: rest)
    (hn : ¬ n < 0) {cap : Nat} (hcap : n.toNatClampNeg ≤ cap) (hb : cap * 8 ≤ 536870912) (hc : cells + 1 ≤ R.cells) (hl : slots + cap ≤ R.slots) {ad : String} (had : "[" ++ (newarray.typeOf .long).toString = ad) :
    ∃ T' h', Stand p l e R s m args below meth c T' locs (cells + 1) (slots + cap) ∧ T'.heap = h' ∧ Ext h h' ∧ Exa Z h' h.size ad ∧ AJ Z h' h.size (List.replicate n.toNatClampNeg 0) ∧
      ∀ target, Steps p.tables e below (T'.setTop { g with pc := g.pc + 2, stack := .ref h.size :: rest }) target → Steps p.tables e below (T.setTop g) target := by
  obtain ⟨T', h', cA, X', e', E', A', B', st⟩ := newPE X hx hZ (aty := .long) w eT hg hd hs hn hcap hb hc hl had
  have V := AV.new A' hn rfl
  refine ⟨T', h', X', e', E', B', ?_, st⟩
  unfold AJ
  rw [List.map_replicate]
  exact V
theorem own_len {n : Nat} (h : n < 2147483648) : n.toInt32 = Int32.ofNat n := rfl
theorem lenAV (X : Stand p l e R s m args below meth c T locs cells slots) (hx : p.tables.exec = Jvm.exec) (hZ : Z.Warmed39 s.vm) (eT : T.heap = h) (A : AV Z h a ty vs) {g : JFrame} (hg : g.method = m) {rest : List Value} (hs : g.stack = .ref a :: rest) (hd : decode c.code g.pc = .ok (.arraylength, 1)) :
    ∀ target, Steps p.tables e below (T.setTop { g with pc := g.pc + 1, stack := .int (Int32.ofNat vs.length) :: rest }) target → Steps p.tables e below (T.setTop g) target := by
  obtain ⟨cl, A, e1, e2, e3⟩ := A
  intro target k
  have hl : cl.slots.size.toInt32 = Int32.ofNat vs.length := by rw [e1]; rfl
  refine X.arraylength hx (cell := cl) (by rw [eT]; exact A.1) (State.isArrayOf_alike hZ.alike A.2.1) hg hs hd _ ?_
  rw [hl]; exact k
theorem lenAI (X : Stand p l e R s m args below meth c T locs cells slots) (hx : p.tables.exec = Jvm.exec) (hZ : Z.Warmed39 s.vm) (eT : T.heap = h) (A : AI Z h a ty xs) {g : JFrame} (hg : g.method = m) {rest : List Value} (hs : g.stack = .ref a :: rest) (hd : decode c.code g.pc = .ok (.arraylength, 1)) :
    ∀ target, Steps p.tables e below (T.setTop { g with pc := g.pc + 1, stack := .int (Int32.ofNat xs.length) :: rest }) target → Steps p.tables e below (T.setTop g) target := by
  have k := lenAV X hx hZ eT A hg hs hd
  rw [List.length_map] at k; exact k
theorem lenAJ (X : Stand p l e R s m args below meth c T locs cells slots) (hx : p.tables.exec = Jvm.exec) (hZ : Z.Warmed39 s.vm) (eT : T.heap = h) (A : AJ Z h a ys) {g : JFrame} (hg : g.method = m) {rest : List Value} (hs : g.stack = .ref a :: rest) (hd : decode c.code g.pc = .ok (.arraylength, 1)) :
    ∀ target, Steps p.tables e below (T.setTop { g with pc := g.pc + 1, stack := .int (Int32.ofNat ys.length) :: rest }) target → Steps p.tables e below (T.setTop g) target := by
  have k := lenAV X hx hZ eT A hg hs hd
  rw [List.length_map] at k; exact k
theorem own_getI {jn : Nat} (h2 : jn < xs.length) : (xs.map Value.int).toArray[jn]? = some (.int (xs.getD jn 0)) := by
  simp [List.getD_eq_getElem?_getD, h2]
theorem own_getJ {jn : Nat} (h2 : jn < ys.length) : (ys.map Value.long).toArray[jn]? = some (.long (ys.getD jn 0)) := by
  simp [List.getD_eq_getElem?_getD, h2]
theorem ldAI (X : Stand p l e R s m args below meth c T locs cells slots) (hx : p.tables.exec = Jvm.exec) (hZ : Z.Warmed39 s.vm) (eT : T.heap = h) (A : AI Z h a .int xs) {j : Int32} (h1 : ¬ j < 0) (h2 : j.toNatClampNeg < xs.length) {g : JFrame} (hg : g.method = m) {rest : List Value} (hs : g.stack = .int j :: .ref a :: rest) (hd : decode c.code g.pc = .ok (.iaload, 1)) :
    ∀ target, Steps p.tables e below (T.setTop { g with pc := g.pc + 1, stack := .int (xs.getD j.toNatClampNeg 0) :: rest }) target → Steps p.tables e below (T.setTop g) target := by
  obtain ⟨cl, A, e1, e2, e3⟩ := A
  intro target k
  refine X.iaload hx (cell := cl) (by rw [eT]; exact A.1) (State.isArrayOf_alike hZ.alike A.2.1) A.2.2 (own_in h1 (by rw [e1]; simpa using h2)) (by rw [e1]; exact own_getI h2) hg hs hd _ k
theorem ldAB (X : Stand p l e R s m args below meth c T locs cells slots) (hx : p.tables.exec = Jvm.exec) (hZ : Z.Warmed39 s.vm) (eT : T.heap = h) (A : AI Z h a .byte xs) {j : Int32} (h1 : ¬ j < 0) (h2 : j.toNatClampNeg < xs.length) {g : JFrame} (hg : g.method = m) {rest : List Value} (hs : g.stack = .int j :: .ref a :: rest) (hd : decode c.code g.pc = .ok (.baload, 1)) :
    ∀ target, Steps p.tables e below (T.setTop { g with pc := g.pc + 1, stack := .int (xs.getD j.toNatClampNeg 0) :: rest }) target → Steps p.tables e below (T.setTop g) target := by
  obtain ⟨cl, A, e1, e2, e3⟩ := A
  intro target k
  refine X.baloadBytes hx (cell := cl) (by rw [eT]; exact A.1) (State.isArrayOf_alike hZ.alike A.2.1) A.2.2 (own_in h1 (by rw [e1]; simpa using h2)) (by rw [e1]; exact own_getI h2) hg hs hd _ k
theorem ldAJ (X : Stand p l e R s m args below meth c T locs cells slots) (hx : p.tables.exec = Jvm.exec) (hZ : Z.Warmed39 s.vm) (eT : T.heap = h) (A : AJ Z h a ys) {j : Int32} (h1 : ¬ j < 0) (h2 : j.toNatClampNeg < ys.length) {g : JFrame} (hg : g.method = m) {rest : List Value} (hs : g.stack = .int j :: .ref a :: rest) (hd : decode c.code g.pc = .ok (.laload, 1)) :
    ∀ target, Steps p.tables e below (T.setTop { g with pc := g.pc + 1, stack := .long (ys.getD j.toNatClampNeg 0) :: rest }) target → Steps p.tables e below (T.setTop g) target := by
  obtain ⟨cl, A, e1, e2, e3⟩ := A
  intro target k
  refine X.laload hx (cell := cl) (by rw [eT]; exact A.1) (State.isArrayOf_alike hZ.alike A.2.1) A.2.2 (own_in h1 (by rw [e1]; simpa using h2)) (by rw [e1]; exact own_getJ h2) hg hs hd _ k
theorem stAI (X : Stand p l e R s m args below meth c T locs cells slots) (hx : p.tables.exec = Jvm.exec) (hZ : Z.Warmed39 s.vm) (eT : T.heap = h) (A : AI Z h a .int xs) {j x : Int32} (h1 : ¬ j < 0) (h2 : j.toNatClampNeg < xs.length) {g : JFrame} (hg : g.method = m) {rest : List Value} (hs : g.stack = .int x :: .int j :: .ref a :: rest) (hd : decode c.code g.pc = .ok (.iastore, 1)) :
    ∃ T' h', Stand p l e R s m args below meth c T' (locs ++ [⟨a, j.toNatClampNeg⟩]) cells slots ∧ T'.heap = h' ∧ Wr h h' a j.toNatClampNeg (.int x) ∧ AI Z h' a .int (xs.set j.toNatClampNeg x) ∧ ∀ target, Steps p.tables e below (T'.setTop { g with pc := g.pc + 1, stack := rest }) target → Steps p.tables e below (T.setTop g) target := by
  obtain ⟨cl, A, e1, e2, e3⟩ := A
  obtain ⟨T', h', X', e', W', st⟩ := stI X hx hZ eT A (own_in h1 (by rw [e1]; simpa using h2)) hg hs hd
  refine ⟨T', h', X', e', W', ?_, st⟩
  unfold AI
  rw [List.map_set]
  exact AV.set A e1 e2 e3 rfl W'
theorem stAB (X : Stand p l e R s m args below meth c T locs cells slots) (hx : p.tables.exec = Jvm.exec) (hZ : Z.Warmed39 s.vm) (eT : T.heap = h) (A : AI Z h a .byte xs) {j x : Int32} (h1 : ¬ j < 0) (h2 : j.toNatClampNeg < xs.length) {g : JFrame} (hg : g.method = m) {rest : List Value} (hs : g.stack = .int x :: .int j :: .ref a :: rest) (hd : decode c.code g.pc = .ok (.bastore, 1)) :
    ∃ T' h', Stand p l e R s m args below meth c T' (locs ++ [⟨a, j.toNatClampNeg⟩]) cells slots ∧ T'.heap = h' ∧ Wr h h' a j.toNatClampNeg (.int (x.toInt8.toInt32)) ∧ AI Z h' a .byte (xs.set j.toNatClampNeg (x.toInt8.toInt32)) ∧ ∀ target, Steps p.tables e below (T'.setTop { g with pc := g.pc + 1, stack := rest }) target → Steps p.tables e below (T.setTop g) target := by
  obtain ⟨cl, A, e1, e2, e3⟩ := A
  obtain ⟨T', h', X', e', W', st⟩ := stB X hx hZ eT A (own_in h1 (by rw [e1]; simpa using h2)) hg hs hd
  refine ⟨T', h', X', e', W', ?_, st⟩
  unfold AI
  rw [List.map_set]
  exact AV.set A e1 e2 e3 (fits_nar_byte x) W'
theorem own_b2 (y : Int32) : (y.toInt8.toInt32).toInt8.toInt32 = y.toInt8.toInt32 := by simp
theorem stABn (X : Stand p l e R s m args below meth c T locs cells slots) (hx : p.tables.exec = Jvm.exec) (hZ : Z.Warmed39 s.vm) (eT : T.heap = h) (A : AI Z h a .byte xs) {j y : Int32} (h1 : ¬ j < 0) (h2 : j.toNatClampNeg < xs.length) {g : JFrame} (hg : g.method = m) {rest : List Value} (hs : g.stack = .int (y.toInt8.toInt32) :: .int j :: .ref a :: rest) (hd : decode c.code g.pc = .ok (.bastore, 1)) :
    ∃ T' h', Stand p l e R s m args below meth c T' (locs ++ [⟨a, j.toNatClampNeg⟩]) cells slots ∧ T'.heap = h' ∧ Wr h h' a j.toNatClampNeg (.int (y.toInt8.toInt32)) ∧ AI Z h' a .byte (xs.set j.toNatClampNeg (y.toInt8.toInt32)) ∧ ∀ target, Steps p.tables e below (T'.setTop { g with pc := g.pc + 1, stack := rest }) target → Steps p.tables e below (T.setTop g) target := by
  have k := stAB X hx hZ eT A h1 h2 hg hs hd
  rw [own_b2] at k
  exact k
theorem stAJ (X : Stand p l e R s m args below meth c T locs cells slots) (hx : p.tables.exec = Jvm.exec) (hZ : Z.Warmed39 s.vm) (eT : T.heap = h) (A : AJ Z h a ys) {j : Int32} {x : Int64} (h1 : ¬ j < 0) (h2 : j.toNatClampNeg < ys.length) {g : JFrame} (hg : g.method = m) {rest : List Value} (hs : g.stack = .long x :: .int j :: .ref a :: rest) (hd : decode c.code g.pc = .ok (.lastore, 1)) :
    ∃ T' h', Stand p l e R s m args below meth c T' (locs ++ [⟨a, j.toNatClampNeg⟩]) cells slots ∧ T'.heap = h' ∧ Wr h h' a j.toNatClampNeg (.long x) ∧ AJ Z h' a (ys.set j.toNatClampNeg x) ∧ ∀ target, Steps p.tables e below (T'.setTop { g with pc := g.pc + 1, stack := rest }) target → Steps p.tables e below (T.setTop g) target := by
  obtain ⟨cl, A, e1, e2, e3⟩ := A
  obtain ⟨T', h', X', e', W', st⟩ := stJ X hx hZ eT A (own_in h1 (by rw [e1]; simpa using h2)) hg hs hd
  refine ⟨T', h', X', e', W', ?_, st⟩
  unfold AJ
  rw [List.map_set]
  exact AV.set A e1 e2 e3 rfl W'
end OwnArr
section OwnClone
variable {p : Program} {l : Launch} {e : Env} {R : Room} {s : State} {m : MethodId} {args : Array Value} {below : List Frame} {meth : Method} {c : Code} {T T' : State} {locs : List Loc} {cells slots : Nat} {Z : State} {a0 : Array Value} {h h' : Heap} {a b : Addr} {ty : FieldType} {xs : List Int32}
theorem cloneAI (X : Stand p l e R s m args below meth c T locs cells slots) (hx : p.tables.exec = Jvm.exec) (hZ : Z.Warmed39 s.vm) {own ad : String} {index : Nat} (hown : s.vm.findClass own = some m.cls)
    (w1 : (Cond.methodLink own index ⟨ad, "clone", "()Ljava/lang/Object;"⟩).before a0 Z = true) (w2 : (Cond.sameMethod ad "java/lang/Object" "clone" "()Ljava/lang/Object;").before a0 Z = true) (w3 : (Cond.native ⟨"java/lang/Object", "clone", "()Ljava/lang/Object;"⟩).before a0 Z = true)
    (w4 : (Cond.instanceMethod ⟨"java/lang/Object", "clone", "()Ljava/lang/Object;"⟩).before a0 Z = true) (w5 : (Cond.selects ad ⟨ad, "clone", "()Ljava/lang/Object;"⟩ ⟨"java/lang/Object", "clone", "()Ljava/lang/Object;"⟩).before a0 Z = true) (w6 : (Cond.castable ad "java/lang/Cloneable").before a0 Z = true)
    (eT : T.heap = h) (A : AI Z h a ty xs) (E : Exa Z h a ad) {g : JFrame} (hg : g.method = m) (hsize : g.locals.size = c.maxLocals) {rest : List Value} (hst : g.stack = .ref a :: rest) (hd : decode c.code g.pc = .ok (.invokevirtual index, 3))
    (hf : 1 ≤ R.frames) {W cap : Nat} (hW : 2 * g.monitorRoom + (rest.map fun v => v.category).sum ≤ W) (hl : W + 14 ≤ R.locals) (hcap : xs.length ≤ cap) (hc : cells + 1 ≤ R.cells) (hsl : slots + cap ≤ R.slots) :
    ∃ T' h', Stand p l e R s m args below meth c T' locs (cells + 1) (slots + cap) ∧ T'.heap = h' ∧ Ext h h' ∧ Exa Z h' h.size ad ∧ AI Z h' h.size ty xs ∧
      ∀ target, Steps p.tables e below (T'.setTop { g with pc := g.pc + 3, stack := .ref h.size :: rest }) target → Steps p.tables e below (T.setTop g) target := by
  obtain ⟨cl, A, e1, e2, e3⟩ := A
  have FC : FitC Z cl := fitC_of A fun i hi v hv => by
    rw [e1] at hv
    exact e3 v (by simpa using Array.mem_of_getElem? hv)
  obtain ⟨T', h', X', e', ex, A', E', st⟩ := cloneA X hx hZ hown w1 w2 w3 w4 w5 w6 eT A E FC hg hsize hst hd hf hW hl (by rw [e1]; simpa using hcap) hc hsl
  exact ⟨T', h', X', e', ex, E', ⟨_, A', e1, e2, e3⟩, st⟩
end OwnClone

section OwnStart
variable {args : Array Value} {s : State} {t : Term} {C n d : String} {a : Addr}
theorem own_ref (h : (Cond.exactly t C).value args s none s [] = some true) : ∃ a, t.eval args s none [] s = some (.ref a) := by
  obtain ⟨a', _, _, _, e1, -⟩ := Cond.exactly_spec (Cond.before_iff.mpr h)
  exact ⟨a', e1⟩
theorem own_fldI {x : Int32} (ev : t.eval args s none [] s = some (.ref a)) (h : (Cond.eq (.field t C n d) (.int x)).value args s none s [] = some true) : Fld s s.heap a C n d (.int x) := by
  apply Fld.start
  simp only [Cond.value, Term.eval, ev, Option.bind_eq_bind, Option.bind_some] at h
  cases hf : s.fieldOf? a C n d with
  | none => simp [hf] at h
  | some v => cases v <;> simp [hf] at h; subst h; rfl
theorem own_fldJ {x : Int64} (ev : t.eval args s none [] s = some (.ref a)) (h : (Cond.eq (.field t C n d) (.long x)).value args s none s [] = some true) : Fld s s.heap a C n d (.long x) := by
  apply Fld.start
  simp only [Cond.value, Term.eval, ev, Option.bind_eq_bind, Option.bind_some] at h
  cases hf : s.fieldOf? a C n d with
  | none => simp [hf] at h
  | some v => cases v <;> simp [hf] at h; subst h; rfl
end OwnStart

theorem own_i1 {c : Int32} (h0 : ¬ c < 0) (h1 : c < 128) : ¬ (c >>> ((6 : Int32) &&& 31)) < 0 := by
  rw [Int32.lt_iff_toInt_lt] at *
  have l0 : (0 : Int32).toInt = 0 := by decide
  rw [c_ishr c 6 6 (by decide)]
  omega
theorem own_i2 {c : Int32} (h0 : ¬ c < 0) (h1 : c < 128) : (c >>> ((6 : Int32) &&& 31)).toNatClampNeg < ([(-5764607548804038656 : Int64), (5188146765093666815 : Int64)] : List Int64).length := by
  rw [Int32.lt_iff_toInt_lt] at *
  have l0 : (0 : Int32).toInt = 0 := by decide
  have l1 : (128 : Int32).toInt = 128 := by decide
  show (c >>> ((6 : Int32) &&& 31)).toInt.toNat < 2
  rw [c_ishr c 6 6 (by decide)]
  omega
def own_exp (c : Int32) : Int32 := if (¬ c < 65 ∧ ¬ 90 < c) ∨ (¬ c < 97 ∧ ¬ 122 < c) ∨ (¬ c < 48 ∧ ¬ 57 < c) ∨ c = 45 ∨ c = 46 ∨ c = 95 ∨ c = 126 ∨ c = 58 ∨ c = 47 ∨ c = 63 ∨ c = 35 ∨ c = 91 ∨ c = 93 ∨ c = 64 ∨ c = 33 ∨ c = 36 ∨ c = 38 ∨ c = 39 ∨ c = 40 ∨ c = 41 ∨ c = 42 ∨ c = 43 ∨ c = 44 ∨ c = 59 ∨ c = 61 ∨ c = 37 then 1 else 0
section OwnUri
variable {args : Array Value} {s : State} {t : Term} {a : Addr}
theorem own_aref {ty : FieldType} (h : (Cond.arrayOf t ty).value args s none s [] = some true) : ∃ a, t.eval args s none [] s = some (.ref a) := by
  simp only [Cond.value] at h
  split at h
  · cases h
  · split at h
    · rename_i a _ ; exact ⟨a, by assumption⟩
    · cases h
    · cases h
theorem own_arr2 {x y : Int64} (ev : t.eval args s none [] s = some (.ref a)) (h0 : (Cond.arrayOf t .long).value args s none s [] = some true) (h1 : (Cond.eq (.length t) (.int 2)).value args s none s [] = some true) (h2 : (Cond.eq (.elem t (.int 0)) (.long x)).value args s none s [] = some true) (h3 : (Cond.eq (.elem t (.int 1)) (.long y)).value args s none s [] = some true) : AJ s s.heap a [x, y] := by
  obtain ⟨c, A⟩ := Arr.start ev h0
  have ha : s.arrayAt? a = some c := A.fin (Vm.Alike.refl _)
  have z0 : ¬ (0 : Int32) < 0 := by decide
  have z1 : ¬ (1 : Int32) < 0 := by decide
  have t0 : (0 : Int32).toNatClampNeg = 0 := by decide
  have t1 : (1 : Int32).toNatClampNeg = 1 := by decide
  simp only [Cond.value, Term.eval, ev, ha, Option.bind_eq_bind, Option.bind_some, Option.pure_def, z0, z1, t0, t1, if_false] at h1 h2 h3
  have e0 : c.slots[0]? = some (.long x) := by
    cases q : c.slots[0]? with
    | none => simp [q] at h2
    | some v => cases v <;> simp [q] at h2; subst h2; rfl
  have e1 : c.slots[1]? = some (.long y) := by
    cases q : c.slots[1]? with
    | none => simp [q] at h3
    | some v => cases v <;> simp [q] at h3; subst h3; rfl
  have sz : c.slots.size = 2 := by
    by_cases q : c.slots.size < 2 ^ 31
    · rw [if_pos q] at h1
      simp at h1
      have k : (c.slots.size.toInt32).toInt = (2 : Int32).toInt := by rw [h1]
      rw [show c.slots.size.toInt32 = Int32.ofNat c.slots.size from rfl, Int32.toInt_ofNat_of_lt (by omega), show (2 : Int32).toInt = 2 from by decide] at k
      omega
    · rw [if_neg q] at h1; simp at h1
  refine ⟨c, A, ?_, by simp, fun v hv => ?_⟩
  · apply Array.ext_getElem?
    intro i
    match i with
    | 0 => rw [e0]; rfl
    | 1 => rw [e1]; rfl
    | i + 2 => rw [Array.getElem?_eq_none (by omega)]; simp
  · simp at hv
    rcases hv with rfl | rfl <;> rfl
end OwnUri

theorem d_isUri_0 : decode prog_100_method_2_code 0 = .ok (.iload_n 0, 1) := by decide +kernel
theorem d_isUri_1 : decode prog_100_method_2_code 1 = .ok (.ifCond .lt 31, 3) := by decide +kernel
theorem d_isUri_32 : decode prog_100_method_2_code 32 = .ok (.iconst 0, 1) := by decide +kernel
theorem d_isUri_33 : decode prog_100_method_2_code 33 = .ok (.ireturn, 1) := by decide +kernel
theorem d_isUri_4 : decode prog_100_method_2_code 4 = .ok (.iload_n 0, 1) := by decide +kernel
theorem d_isUri_5 : decode prog_100_method_2_code 5 = .ok (.sipush 128, 3) := by decide +kernel
theorem d_isUri_8 : decode prog_100_method_2_code 8 = .ok (.if_icmp .ge 24, 3) := by decide +kernel
theorem d_isUri_11 : decode prog_100_method_2_code 11 = .ok (.getstatic 7, 3) := by decide +kernel
theorem d_isUri_14 : decode prog_100_method_2_code 14 = .ok (.iload_n 0, 1) := by decide +kernel
theorem d_isUri_15 : decode prog_100_method_2_code 15 = .ok (.bipush 6, 2) := by decide +kernel
theorem d_isUri_17 : decode prog_100_method_2_code 17 = .ok (.ishr, 1) := by decide +kernel
theorem d_isUri_18 : decode prog_100_method_2_code 18 = .ok (.laload, 1) := by decide +kernel
theorem d_isUri_19 : decode prog_100_method_2_code 19 = .ok (.lconst 1, 1) := by decide +kernel
theorem d_isUri_20 : decode prog_100_method_2_code 20 = .ok (.iload_n 0, 1) := by decide +kernel
theorem d_isUri_21 : decode prog_100_method_2_code 21 = .ok (.lshl, 1) := by decide +kernel
theorem d_isUri_22 : decode prog_100_method_2_code 22 = .ok (.land, 1) := by decide +kernel
theorem d_isUri_23 : decode prog_100_method_2_code 23 = .ok (.lconst 0, 1) := by decide +kernel
theorem d_isUri_24 : decode prog_100_method_2_code 24 = .ok (.lcmp, 1) := by decide +kernel
theorem d_isUri_25 : decode prog_100_method_2_code 25 = .ok (.ifCond .eq 7, 3) := by decide +kernel
theorem d_isUri_28 : decode prog_100_method_2_code 28 = .ok (.iconst 1, 1) := by decide +kernel
theorem d_isUri_29 : decode prog_100_method_2_code 29 = .ok (.goto 4, 3) := by decide +kernel
def f_isUri (v0 : Int32) : Int32 := (if v0 < (0 : Int32) then (0 : Int32) else (if v0 < (128 : Int32) then (if ((([(-5764607548804038656 : Int64), (5188146765093666815 : Int64)] : List Int64).getD (v0 >>> ((6 : Int32) &&& 31)).toNatClampNeg 0) &&& ((1 : Int64) <<< (v0 &&& 0x3f).toInt64)) = (0 : Int64) then (0 : Int32) else (1 : Int32)) else (0 : Int32)))
theorem ef_isUri (m : MethodId) (v0 : Int32) : entryFrame m #[(.int v0)] 1 = mkF m 0 #[.val (.int v0)] [] := by first | (simp [entryFrame, mkF, argsToLocals, Value.category]; done) | rfl
def Q_isUri (Z : State) (v0 : Int32) (aU : Addr) (h0 : Heap) (n0 : Nat) (v : Option Value) (h : Heap) (L : List Loc) : Prop := v = some (.int (f_isUri v0)) ∧ Fr n0 L ∧ h = h0
set_option maxRecDepth 65536 in
set_option maxHeartbeats 40000000 in
theorem rm_isUri (l : Launch) (Z : State) (a0 : Array Value) (hw : ∀ d ∈ tables_1, d.before a0 Z = true) (ws : List Jvm.Cond) (v0 : Int32) (aU : Addr) (h0 : Heap) (n0 : Nat) (Z0 : n0 ≤ h0.size) (f0_S_com_example_bound_prefix_boundprefix_UriReferences : Sta Z h0 "com/example/bound_prefix/boundprefix/UriReferences" "URI_CHARACTERS" "[J" (.ref aU)) (f1_J_aU : AJ Z h0 aU [(-5764607548804038656 : Int64), (5188146765093666815 : Int64)]) :
    MetFree l (⟨"com/example/bound_prefix/boundprefix/UriReferences", "isUriCharacter", "(I)Z"⟩ : MethodName) (head1 (Jvm.Cond.code (⟨"com/example/bound_prefix/boundprefix/UriReferences", "isUriCharacter", "(I)Z"⟩ : MethodName) prog_100_method_2_code 1 (some .boolean) :: ws) ({ frames := 0, cells := 0, slots := 0, locals := 0 } : Room)) (fun a U => a = #[(.int v0)] ∧ Z.Warmed39 U.vm ∧ U.heap = h0) (fun _ _ _ _ _ => True) (fun _ U o U' => ∃ v L, o = .returned v ∧ Q_isUri Z v0 aU h0 n0 v U'.heap L ∧ FrameEnd U o U' L ({ frames := 0, cells := 0, slots := 0, locals := 0 } : Room).cells ({ frames := 0, cells := 0, slots := 0, locals := 0 } : Room).slots) := by
  refine MetFree.of_bodySF (plainFor_of_name (by first | (simp [plainName, overriddenIn]; done) | decide +kernel)) hisR ?_
  intro p e s m args below meth c s₁ Bd hml0 hP hK
  obtain ⟨rfl, hZ, hh⟩ := hP
  have hx := Bd.exec
  have hby := Bd.bytes
  have hml : c.maxLocals = 1 := hml0
  have hown : s.vm.findClass "com/example/bound_prefix/boundprefix/UriReferences" = some m.cls := findClass_of_methodNamed Bd.named
  have hnm := (name_of_methodNamed Bd.named Bd.method).1
  have hlk : meth.locks = false := Bd.notSynchronized
  have X0 : Stand p l e ({ frames := 0, cells := 0, slots := 0, locals := 0 } : Room) s m #[(.int v0)] below meth c s₁ [] 0 0 := Stand.of_body Bd
  have e0 : s₁.heap = h0 := by rw [← hh, Bd.state]; rfl
  have N0 := Fr.nil n0
  refine Go.enter (Q := Q_isUri Z v0 aU h0 n0) (C := ({ frames := 0, cells := 0, slots := 0, locals := 0 } : Room).cells) (N := ({ frames := 0, cells := 0, slots := 0, locals := 0 } : Room).slots) (ef_isUri m v0) ?_
  show Go p e below s _ _ _ s₁ (mkF m 0 #[.val (.int v0)] [])
  refine G_iloadN X0 hx (pc' := 1) rfl (hb hby d_isUri_0) rfl ?_
  by_cases hc1_1 : v0 < (0 : Int32)
  · refine G_ifYes X0 hx (pc' := 32) (hb hby d_isUri_1) ((if0 _ _).trans (tlt hc1_1).1) (by decide) (by decide) ?_
    refine G_iconst X0 hx (pc' := 33) rfl (hb hby d_isUri_32) (z := (0 : Int32)) rfl ?_
    refine Go.fin X0 hlk (v := some (.int (0 : Int32))) (fun h => by rw [Bd.returns] at h; cases h) (by decide) (by decide) ?_ (fun fs hr => retN X0 hx (t := .boolean) Bd.returns (by simp) (hb hby d_isUri_33) hr)
    show Q_isUri Z v0 aU h0 n0 _ s₁.heap _
    rw [e0]
    exact ⟨congrArg (fun z => some (Value.int z)) (by rw [f_isUri]; rw [if_pos hc1_1]), N0, rfl⟩
  · refine G_ifNo X0 hx (pc' := 4) rfl (hb hby d_isUri_1) ((if0 _ _).trans (flt hc1_1).1) ?_
    refine G_iloadN X0 hx (pc' := 5) rfl (hb hby d_isUri_4) rfl ?_
    refine G_sipush X0 hx (pc' := 8) rfl (hb hby d_isUri_5) (z := (128 : Int32)) rfl ?_
    by_cases hc8_2 : v0 < (128 : Int32)
    · refine G_icmpNo X0 hx (pc' := 11) rfl (hb hby d_isUri_8) (tlt hc8_2).2.1 ?_
      obtain ⟨T1, X1, e1, st1⟩ := getS2 X0 hx hZ hown (host := "") (Or.inl (hw _ (List.mem_of_getElem? (i := 4) rfl))) Via.refl e0 f0_S_com_example_bound_prefix_boundprefix_UriReferences (g := (mkF m 11 #[.val (.int v0)] [])) rfl (hb hby d_isUri_11)
      refine Go.st st1 ?_
      show Go p e below s _ _ _ T1 (mkF m 14 #[.val (.int v0)] [(.ref aU)])
      refine G_iloadN X1 hx (pc' := 15) rfl (hb hby d_isUri_14) rfl ?_
      refine G_bipush X1 hx (pc' := 17) rfl (hb hby d_isUri_15) (z := (6 : Int32)) rfl ?_
      refine G_ishr X1 hx (pc' := 18) rfl (hb hby d_isUri_17)  ?_
      refine Go.st (ldAJ X1 hx hZ e1 f1_J_aU (j := (v0 >>> ((6 : Int32) &&& 31))) (own_i1 (by assumption) (by assumption)) (own_i2 (by assumption) (by assumption)) (g := (mkF m 18 #[.val (.int v0)] [(.int (v0 >>> ((6 : Int32) &&& 31))), (.ref aU)])) rfl rfl (hb hby d_isUri_18)) ?_
      show Go p e below s _ _ _ T1 (mkF m 19 #[.val (.int v0)] [(.long (([(-5764607548804038656 : Int64), (5188146765093666815 : Int64)] : List Int64).getD (v0 >>> ((6 : Int32) &&& 31)).toNatClampNeg 0))])
      refine G_lconst X1 hx (pc' := 20) rfl (hb hby d_isUri_19) (z := (1 : Int64)) rfl ?_
      refine G_iloadN X1 hx (pc' := 21) rfl (hb hby d_isUri_20) rfl ?_
      refine G_lshl X1 hx (pc' := 22) rfl (hb hby d_isUri_21)  ?_
      refine G_land X1 hx (pc' := 23) rfl (hb hby d_isUri_22)  ?_
      refine G_lconst X1 hx (pc' := 24) rfl (hb hby d_isUri_23) (z := (0 : Int64)) rfl ?_
      refine G_lcmp X1 hx (pc' := 25) rfl (hb hby d_isUri_24)  ?_
      by_cases hc25_3 : ((([(-5764607548804038656 : Int64), (5188146765093666815 : Int64)] : List Int64).getD (v0 >>> ((6 : Int32) &&& 31)).toNatClampNeg 0) &&& ((1 : Int64) <<< (v0 &&& 0x3f).toInt64)) = (0 : Int64)
      · refine G_ifYes X1 hx (pc' := 32) (hb hby d_isUri_25) ((if0 _ _).trans (teq ((lw_eq _ _).2 hc25_3)).1) (by decide) (by decide) ?_
        refine G_iconst X1 hx (pc' := 33) rfl (hb hby d_isUri_32) (z := (0 : Int32)) rfl ?_
        refine Go.fin X1 hlk (v := some (.int (0 : Int32))) (fun h => by rw [Bd.returns] at h; cases h) (by decide) (by decide) ?_ (fun fs hr => retN X1 hx (t := .boolean) Bd.returns (by simp) (hb hby d_isUri_33) hr)
        show Q_isUri Z v0 aU h0 n0 _ T1.heap _
        rw [e1]
        exact ⟨congrArg (fun z => some (Value.int z)) (by rw [f_isUri]; rw [if_neg hc1_1, if_pos hc8_2, if_pos hc25_3]), N0, rfl⟩
      · refine G_ifNo X1 hx (pc' := 28) rfl (hb hby d_isUri_25) ((if0 _ _).trans (feq (fun q => hc25_3 ((lw_eq _ _).1 q))).1) ?_
        refine G_iconst X1 hx (pc' := 29) rfl (hb hby d_isUri_28) (z := (1 : Int32)) rfl ?_
        refine G_goto X1 hx (pc' := 33) (hb hby d_isUri_29)  (by decide) (by decide) ?_
        refine Go.fin X1 hlk (v := some (.int (1 : Int32))) (fun h => by rw [Bd.returns] at h; cases h) (by decide) (by decide) ?_ (fun fs hr => retN X1 hx (t := .boolean) Bd.returns (by simp) (hb hby d_isUri_33) hr)
        show Q_isUri Z v0 aU h0 n0 _ T1.heap _
        rw [e1]
        exact ⟨congrArg (fun z => some (Value.int z)) (by rw [f_isUri]; rw [if_neg hc1_1, if_pos hc8_2, if_neg hc25_3]), N0, rfl⟩
    · refine G_icmpYes X0 hx (pc' := 32) (hb hby d_isUri_8) (flt hc8_2).2.1 (by decide) (by decide) ?_
      refine G_iconst X0 hx (pc' := 33) rfl (hb hby d_isUri_32) (z := (0 : Int32)) rfl ?_
      refine Go.fin X0 hlk (v := some (.int (0 : Int32))) (fun h => by rw [Bd.returns] at h; cases h) (by decide) (by decide) ?_ (fun fs hr => retN X0 hx (t := .boolean) Bd.returns (by simp) (hb hby d_isUri_33) hr)
      show Q_isUri Z v0 aU h0 n0 _ s₁.heap _
      rw [e0]
      exact ⟨congrArg (fun z => some (Value.int z)) (by rw [f_isUri]; rw [if_neg hc1_1, if_neg hc8_2]), N0, rfl⟩
theorem d_expd_0 : decode method_2_code 0 = .ok (.iload_n 0, 1) := by decide +kernel
theorem d_expd_1 : decode method_2_code 1 = .ok (.bipush 65, 2) := by decide +kernel
theorem d_expd_3 : decode method_2_code 3 = .ok (.if_icmp .lt 11, 3) := by decide +kernel
theorem d_expd_14 : decode method_2_code 14 = .ok (.iload_n 0, 1) := by decide +kernel
theorem d_expd_15 : decode method_2_code 15 = .ok (.bipush 97, 2) := by decide +kernel
theorem d_expd_17 : decode method_2_code 17 = .ok (.if_icmp .lt 11, 3) := by decide +kernel
theorem d_expd_28 : decode method_2_code 28 = .ok (.iload_n 0, 1) := by decide +kernel
theorem d_expd_29 : decode method_2_code 29 = .ok (.bipush 48, 2) := by decide +kernel
theorem d_expd_31 : decode method_2_code 31 = .ok (.if_icmp .lt 11, 3) := by decide +kernel
theorem d_expd_42 : decode method_2_code 42 = .ok (.iload_n 0, 1) := by decide +kernel
theorem d_expd_43 : decode method_2_code 43 = .ok (.bipush 45, 2) := by decide +kernel
theorem d_expd_45 : decode method_2_code 45 = .ok (.if_icmp .eq 21, 3) := by decide +kernel
theorem d_expd_66 : decode method_2_code 66 = .ok (.iconst 1, 1) := by decide +kernel
theorem d_expd_67 : decode method_2_code 67 = .ok (.ireturn, 1) := by decide +kernel
theorem d_expd_48 : decode method_2_code 48 = .ok (.iload_n 0, 1) := by decide +kernel
theorem d_expd_49 : decode method_2_code 49 = .ok (.bipush 46, 2) := by decide +kernel
theorem d_expd_51 : decode method_2_code 51 = .ok (.if_icmp .eq 15, 3) := by decide +kernel
theorem d_expd_54 : decode method_2_code 54 = .ok (.iload_n 0, 1) := by decide +kernel
theorem d_expd_55 : decode method_2_code 55 = .ok (.bipush 95, 2) := by decide +kernel
theorem d_expd_57 : decode method_2_code 57 = .ok (.if_icmp .eq 9, 3) := by decide +kernel
theorem d_expd_60 : decode method_2_code 60 = .ok (.iload_n 0, 1) := by decide +kernel
theorem d_expd_61 : decode method_2_code 61 = .ok (.bipush 126, 2) := by decide +kernel
theorem d_expd_63 : decode method_2_code 63 = .ok (.if_icmp .ne 5, 3) := by decide +kernel
theorem d_expd_68 : decode method_2_code 68 = .ok (.iload_n 0, 1) := by decide +kernel
theorem d_expd_69 : decode method_2_code 69 = .ok (.bipush 58, 2) := by decide +kernel
theorem d_expd_71 : decode method_2_code 71 = .ok (.if_icmp .eq 39, 3) := by decide +kernel
theorem d_expd_110 : decode method_2_code 110 = .ok (.iconst 1, 1) := by decide +kernel
theorem d_expd_111 : decode method_2_code 111 = .ok (.ireturn, 1) := by decide +kernel
theorem d_expd_74 : decode method_2_code 74 = .ok (.iload_n 0, 1) := by decide +kernel
theorem d_expd_75 : decode method_2_code 75 = .ok (.bipush 47, 2) := by decide +kernel
theorem d_expd_77 : decode method_2_code 77 = .ok (.if_icmp .eq 33, 3) := by decide +kernel
theorem d_expd_80 : decode method_2_code 80 = .ok (.iload_n 0, 1) := by decide +kernel
theorem d_expd_81 : decode method_2_code 81 = .ok (.bipush 63, 2) := by decide +kernel
theorem d_expd_83 : decode method_2_code 83 = .ok (.if_icmp .eq 27, 3) := by decide +kernel
theorem d_expd_86 : decode method_2_code 86 = .ok (.iload_n 0, 1) := by decide +kernel
theorem d_expd_87 : decode method_2_code 87 = .ok (.bipush 35, 2) := by decide +kernel
theorem d_expd_89 : decode method_2_code 89 = .ok (.if_icmp .eq 21, 3) := by decide +kernel
theorem d_expd_92 : decode method_2_code 92 = .ok (.iload_n 0, 1) := by decide +kernel
theorem d_expd_93 : decode method_2_code 93 = .ok (.bipush 91, 2) := by decide +kernel
theorem d_expd_95 : decode method_2_code 95 = .ok (.if_icmp .eq 15, 3) := by decide +kernel
theorem d_expd_98 : decode method_2_code 98 = .ok (.iload_n 0, 1) := by decide +kernel
theorem d_expd_99 : decode method_2_code 99 = .ok (.bipush 93, 2) := by decide +kernel
theorem d_expd_101 : decode method_2_code 101 = .ok (.if_icmp .eq 9, 3) := by decide +kernel
theorem d_expd_104 : decode method_2_code 104 = .ok (.iload_n 0, 1) := by decide +kernel
theorem d_expd_105 : decode method_2_code 105 = .ok (.bipush 64, 2) := by decide +kernel
theorem d_expd_107 : decode method_2_code 107 = .ok (.if_icmp .ne 5, 3) := by decide +kernel
theorem d_expd_112 : decode method_2_code 112 = .ok (.iload_n 0, 1) := by decide +kernel
theorem d_expd_113 : decode method_2_code 113 = .ok (.bipush 33, 2) := by decide +kernel
theorem d_expd_115 : decode method_2_code 115 = .ok (.if_icmp .eq 63, 3) := by decide +kernel
theorem d_expd_178 : decode method_2_code 178 = .ok (.iconst 1, 1) := by decide +kernel
theorem d_expd_179 : decode method_2_code 179 = .ok (.ireturn, 1) := by decide +kernel
theorem d_expd_118 : decode method_2_code 118 = .ok (.iload_n 0, 1) := by decide +kernel
theorem d_expd_119 : decode method_2_code 119 = .ok (.bipush 36, 2) := by decide +kernel
theorem d_expd_121 : decode method_2_code 121 = .ok (.if_icmp .eq 57, 3) := by decide +kernel
theorem d_expd_124 : decode method_2_code 124 = .ok (.iload_n 0, 1) := by decide +kernel
theorem d_expd_125 : decode method_2_code 125 = .ok (.bipush 38, 2) := by decide +kernel
theorem d_expd_127 : decode method_2_code 127 = .ok (.if_icmp .eq 51, 3) := by decide +kernel
theorem d_expd_130 : decode method_2_code 130 = .ok (.iload_n 0, 1) := by decide +kernel
theorem d_expd_131 : decode method_2_code 131 = .ok (.bipush 39, 2) := by decide +kernel
theorem d_expd_133 : decode method_2_code 133 = .ok (.if_icmp .eq 45, 3) := by decide +kernel
theorem d_expd_136 : decode method_2_code 136 = .ok (.iload_n 0, 1) := by decide +kernel
theorem d_expd_137 : decode method_2_code 137 = .ok (.bipush 40, 2) := by decide +kernel
theorem d_expd_139 : decode method_2_code 139 = .ok (.if_icmp .eq 39, 3) := by decide +kernel
theorem d_expd_142 : decode method_2_code 142 = .ok (.iload_n 0, 1) := by decide +kernel
theorem d_expd_143 : decode method_2_code 143 = .ok (.bipush 41, 2) := by decide +kernel
theorem d_expd_145 : decode method_2_code 145 = .ok (.if_icmp .eq 33, 3) := by decide +kernel
theorem d_expd_148 : decode method_2_code 148 = .ok (.iload_n 0, 1) := by decide +kernel
theorem d_expd_149 : decode method_2_code 149 = .ok (.bipush 42, 2) := by decide +kernel
theorem d_expd_151 : decode method_2_code 151 = .ok (.if_icmp .eq 27, 3) := by decide +kernel
theorem d_expd_154 : decode method_2_code 154 = .ok (.iload_n 0, 1) := by decide +kernel
theorem d_expd_155 : decode method_2_code 155 = .ok (.bipush 43, 2) := by decide +kernel
theorem d_expd_157 : decode method_2_code 157 = .ok (.if_icmp .eq 21, 3) := by decide +kernel
theorem d_expd_160 : decode method_2_code 160 = .ok (.iload_n 0, 1) := by decide +kernel
theorem d_expd_161 : decode method_2_code 161 = .ok (.bipush 44, 2) := by decide +kernel
theorem d_expd_163 : decode method_2_code 163 = .ok (.if_icmp .eq 15, 3) := by decide +kernel
theorem d_expd_166 : decode method_2_code 166 = .ok (.iload_n 0, 1) := by decide +kernel
theorem d_expd_167 : decode method_2_code 167 = .ok (.bipush 59, 2) := by decide +kernel
theorem d_expd_169 : decode method_2_code 169 = .ok (.if_icmp .eq 9, 3) := by decide +kernel
theorem d_expd_172 : decode method_2_code 172 = .ok (.iload_n 0, 1) := by decide +kernel
theorem d_expd_173 : decode method_2_code 173 = .ok (.bipush 61, 2) := by decide +kernel
theorem d_expd_175 : decode method_2_code 175 = .ok (.if_icmp .ne 5, 3) := by decide +kernel
theorem d_expd_180 : decode method_2_code 180 = .ok (.iload_n 0, 1) := by decide +kernel
theorem d_expd_181 : decode method_2_code 181 = .ok (.bipush 37, 2) := by decide +kernel
theorem d_expd_183 : decode method_2_code 183 = .ok (.if_icmp .ne 5, 3) := by decide +kernel
theorem d_expd_186 : decode method_2_code 186 = .ok (.iconst 1, 1) := by decide +kernel
theorem d_expd_187 : decode method_2_code 187 = .ok (.ireturn, 1) := by decide +kernel
theorem d_expd_188 : decode method_2_code 188 = .ok (.iconst 0, 1) := by decide +kernel
theorem d_expd_189 : decode method_2_code 189 = .ok (.ireturn, 1) := by decide +kernel
theorem d_expd_34 : decode method_2_code 34 = .ok (.iload_n 0, 1) := by decide +kernel
theorem d_expd_35 : decode method_2_code 35 = .ok (.bipush 57, 2) := by decide +kernel
theorem d_expd_37 : decode method_2_code 37 = .ok (.if_icmp .gt 5, 3) := by decide +kernel
theorem d_expd_40 : decode method_2_code 40 = .ok (.iconst 1, 1) := by decide +kernel
theorem d_expd_41 : decode method_2_code 41 = .ok (.ireturn, 1) := by decide +kernel
theorem d_expd_20 : decode method_2_code 20 = .ok (.iload_n 0, 1) := by decide +kernel
theorem d_expd_21 : decode method_2_code 21 = .ok (.bipush 122, 2) := by decide +kernel
theorem d_expd_23 : decode method_2_code 23 = .ok (.if_icmp .gt 5, 3) := by decide +kernel
theorem d_expd_26 : decode method_2_code 26 = .ok (.iconst 1, 1) := by decide +kernel
theorem d_expd_27 : decode method_2_code 27 = .ok (.ireturn, 1) := by decide +kernel
theorem d_expd_6 : decode method_2_code 6 = .ok (.iload_n 0, 1) := by decide +kernel
theorem d_expd_7 : decode method_2_code 7 = .ok (.bipush 90, 2) := by decide +kernel
theorem d_expd_9 : decode method_2_code 9 = .ok (.if_icmp .gt 5, 3) := by decide +kernel
theorem d_expd_12 : decode method_2_code 12 = .ok (.iconst 1, 1) := by decide +kernel
theorem d_expd_13 : decode method_2_code 13 = .ok (.ireturn, 1) := by decide +kernel
theorem ef_expd (m : MethodId) (v0 : Int32) : entryFrame m #[(.int v0)] 1 = mkF m 0 #[.val (.int v0)] [] := by first | (simp [entryFrame, mkF, argsToLocals, Value.category]; done) | rfl
def Q_expd (Z : State) (v0 : Int32) (h0 : Heap) (n0 : Nat) (v : Option Value) (h : Heap) (L : List Loc) : Prop := v = some (.int (own_exp v0)) ∧ Fr n0 L ∧ h = h0
set_option maxRecDepth 65536 in
set_option maxHeartbeats 40000000 in
theorem rm_expd (l : Launch) (Z : State) (a0 : Array Value) (hw : ∀ d ∈ tables_1, d.before a0 Z = true) (ws : List Jvm.Cond) (v0 : Int32) (h0 : Heap) (n0 : Nat) (Z0 : n0 ≤ h0.size) :
    MetFree l (⟨"com/example/bound_prefix/boundprefix/UriReferencesIsUriCharacterPinLaw", "expected", "(I)Z"⟩ : MethodName) (head1 (Jvm.Cond.code (⟨"com/example/bound_prefix/boundprefix/UriReferencesIsUriCharacterPinLaw", "expected", "(I)Z"⟩ : MethodName) method_2_code 1 (some .boolean) :: ws) ({ frames := 0, cells := 0, slots := 0, locals := 0 } : Room)) (fun a U => a = #[(.int v0)] ∧ Z.Warmed39 U.vm ∧ U.heap = h0) (fun _ _ _ _ _ => True) (fun _ U o U' => ∃ v L, o = .returned v ∧ Q_expd Z v0 h0 n0 v U'.heap L ∧ FrameEnd U o U' L ({ frames := 0, cells := 0, slots := 0, locals := 0 } : Room).cells ({ frames := 0, cells := 0, slots := 0, locals := 0 } : Room).slots) := by
  refine MetFree.of_bodySF (plainFor_of_name (by first | (simp [plainName, overriddenIn]; done) | decide +kernel)) hisR ?_
  intro p e s m args below meth c s₁ Bd hml0 hP hK
  obtain ⟨rfl, hZ, hh⟩ := hP
  have hx := Bd.exec
  have hby := Bd.bytes
  have hml : c.maxLocals = 1 := hml0
  have hown : s.vm.findClass "com/example/bound_prefix/boundprefix/UriReferencesIsUriCharacterPinLaw" = some m.cls := findClass_of_methodNamed Bd.named
  have hnm := (name_of_methodNamed Bd.named Bd.method).1
  have hlk : meth.locks = false := Bd.notSynchronized
  have X0 : Stand p l e ({ frames := 0, cells := 0, slots := 0, locals := 0 } : Room) s m #[(.int v0)] below meth c s₁ [] 0 0 := Stand.of_body Bd
  have e0 : s₁.heap = h0 := by rw [← hh, Bd.state]; rfl
  have N0 := Fr.nil n0
  refine Go.enter (Q := Q_expd Z v0 h0 n0) (C := ({ frames := 0, cells := 0, slots := 0, locals := 0 } : Room).cells) (N := ({ frames := 0, cells := 0, slots := 0, locals := 0 } : Room).slots) (ef_expd m v0) ?_
  show Go p e below s _ _ _ s₁ (mkF m 0 #[.val (.int v0)] [])
  refine G_iloadN X0 hx (pc' := 1) rfl (hb hby d_expd_0) rfl ?_
  refine G_bipush X0 hx (pc' := 3) rfl (hb hby d_expd_1) (z := (65 : Int32)) rfl ?_
  by_cases hc3_1 : v0 < (65 : Int32)
  · refine G_icmpYes X0 hx (pc' := 14) (hb hby d_expd_3) (tlt hc3_1).1 (by decide) (by decide) ?_
    refine G_iloadN X0 hx (pc' := 15) rfl (hb hby d_expd_14) rfl ?_
    refine G_bipush X0 hx (pc' := 17) rfl (hb hby d_expd_15) (z := (97 : Int32)) rfl ?_
    by_cases hc17_2 : v0 < (97 : Int32)
    · refine G_icmpYes X0 hx (pc' := 28) (hb hby d_expd_17) (tlt hc17_2).1 (by decide) (by decide) ?_
      refine G_iloadN X0 hx (pc' := 29) rfl (hb hby d_expd_28) rfl ?_
      refine G_bipush X0 hx (pc' := 31) rfl (hb hby d_expd_29) (z := (48 : Int32)) rfl ?_
      by_cases hc31_3 : v0 < (48 : Int32)
      · refine G_icmpYes X0 hx (pc' := 42) (hb hby d_expd_31) (tlt hc31_3).1 (by decide) (by decide) ?_
        refine G_iloadN X0 hx (pc' := 43) rfl (hb hby d_expd_42) rfl ?_
        refine G_bipush X0 hx (pc' := 45) rfl (hb hby d_expd_43) (z := (45 : Int32)) rfl ?_
        by_cases hc45_4 : v0 = (45 : Int32)
        · refine G_icmpYes X0 hx (pc' := 66) (hb hby d_expd_45) (teq hc45_4).1 (by decide) (by decide) ?_
          refine G_iconst X0 hx (pc' := 67) rfl (hb hby d_expd_66) (z := (1 : Int32)) rfl ?_
          refine Go.fin X0 hlk (v := some (.int (1 : Int32))) (fun h => by rw [Bd.returns] at h; cases h) (by decide) (by decide) ?_ (fun fs hr => retN X0 hx (t := .boolean) Bd.returns (by simp) (hb hby d_expd_67) hr)
          show Q_expd Z v0 h0 n0 _ s₁.heap _
          rw [e0]
          exact ⟨congrArg (fun z => some (Value.int z)) (by unfold own_exp; simp [*]), N0, rfl⟩
        · refine G_icmpNo X0 hx (pc' := 48) rfl (hb hby d_expd_45) (feq hc45_4).1 ?_
          refine G_iloadN X0 hx (pc' := 49) rfl (hb hby d_expd_48) rfl ?_
          refine G_bipush X0 hx (pc' := 51) rfl (hb hby d_expd_49) (z := (46 : Int32)) rfl ?_
          by_cases hc51_5 : v0 = (46 : Int32)
          · refine G_icmpYes X0 hx (pc' := 66) (hb hby d_expd_51) (teq hc51_5).1 (by decide) (by decide) ?_
            refine G_iconst X0 hx (pc' := 67) rfl (hb hby d_expd_66) (z := (1 : Int32)) rfl ?_
            refine Go.fin X0 hlk (v := some (.int (1 : Int32))) (fun h => by rw [Bd.returns] at h; cases h) (by decide) (by decide) ?_ (fun fs hr => retN X0 hx (t := .boolean) Bd.returns (by simp) (hb hby d_expd_67) hr)
            show Q_expd Z v0 h0 n0 _ s₁.heap _
            rw [e0]
            exact ⟨congrArg (fun z => some (Value.int z)) (by unfold own_exp; simp [*]), N0, rfl⟩
          · refine G_icmpNo X0 hx (pc' := 54) rfl (hb hby d_expd_51) (feq hc51_5).1 ?_
            refine G_iloadN X0 hx (pc' := 55) rfl (hb hby d_expd_54) rfl ?_
            refine G_bipush X0 hx (pc' := 57) rfl (hb hby d_expd_55) (z := (95 : Int32)) rfl ?_
            by_cases hc57_6 : v0 = (95 : Int32)
            · refine G_icmpYes X0 hx (pc' := 66) (hb hby d_expd_57) (teq hc57_6).1 (by decide) (by decide) ?_
              refine G_iconst X0 hx (pc' := 67) rfl (hb hby d_expd_66) (z := (1 : Int32)) rfl ?_
              refine Go.fin X0 hlk (v := some (.int (1 : Int32))) (fun h => by rw [Bd.returns] at h; cases h) (by decide) (by decide) ?_ (fun fs hr => retN X0 hx (t := .boolean) Bd.returns (by simp) (hb hby d_expd_67) hr)
              show Q_expd Z v0 h0 n0 _ s₁.heap _
              rw [e0]
              exact ⟨congrArg (fun z => some (Value.int z)) (by unfold own_exp; simp [*]), N0, rfl⟩
            · refine G_icmpNo X0 hx (pc' := 60) rfl (hb hby d_expd_57) (feq hc57_6).1 ?_
              refine G_iloadN X0 hx (pc' := 61) rfl (hb hby d_expd_60) rfl ?_
              refine G_bipush X0 hx (pc' := 63) rfl (hb hby d_expd_61) (z := (126 : Int32)) rfl ?_
              by_cases hc63_7 : v0 = (126 : Int32)
              · refine G_icmpNo X0 hx (pc' := 66) rfl (hb hby d_expd_63) (teq hc63_7).2 ?_
                refine G_iconst X0 hx (pc' := 67) rfl (hb hby d_expd_66) (z := (1 : Int32)) rfl ?_
                refine Go.fin X0 hlk (v := some (.int (1 : Int32))) (fun h => by rw [Bd.returns] at h; cases h) (by decide) (by decide) ?_ (fun fs hr => retN X0 hx (t := .boolean) Bd.returns (by simp) (hb hby d_expd_67) hr)
                show Q_expd Z v0 h0 n0 _ s₁.heap _
                rw [e0]
                exact ⟨congrArg (fun z => some (Value.int z)) (by unfold own_exp; simp [*]), N0, rfl⟩
              · refine G_icmpYes X0 hx (pc' := 68) (hb hby d_expd_63) (feq hc63_7).2 (by decide) (by decide) ?_
                refine G_iloadN X0 hx (pc' := 69) rfl (hb hby d_expd_68) rfl ?_
                refine G_bipush X0 hx (pc' := 71) rfl (hb hby d_expd_69) (z := (58 : Int32)) rfl ?_
                by_cases hc71_8 : v0 = (58 : Int32)
                · refine G_icmpYes X0 hx (pc' := 110) (hb hby d_expd_71) (teq hc71_8).1 (by decide) (by decide) ?_
                  refine G_iconst X0 hx (pc' := 111) rfl (hb hby d_expd_110) (z := (1 : Int32)) rfl ?_
                  refine Go.fin X0 hlk (v := some (.int (1 : Int32))) (fun h => by rw [Bd.returns] at h; cases h) (by decide) (by decide) ?_ (fun fs hr => retN X0 hx (t := .boolean) Bd.returns (by simp) (hb hby d_expd_111) hr)
                  show Q_expd Z v0 h0 n0 _ s₁.heap _
                  rw [e0]
                  exact ⟨congrArg (fun z => some (Value.int z)) (by unfold own_exp; simp [*]), N0, rfl⟩
                · refine G_icmpNo X0 hx (pc' := 74) rfl (hb hby d_expd_71) (feq hc71_8).1 ?_
                  refine G_iloadN X0 hx (pc' := 75) rfl (hb hby d_expd_74) rfl ?_
                  refine G_bipush X0 hx (pc' := 77) rfl (hb hby d_expd_75) (z := (47 : Int32)) rfl ?_
                  by_cases hc77_9 : v0 = (47 : Int32)
                  · refine G_icmpYes X0 hx (pc' := 110) (hb hby d_expd_77) (teq hc77_9).1 (by decide) (by decide) ?_
                    refine G_iconst X0 hx (pc' := 111) rfl (hb hby d_expd_110) (z := (1 : Int32)) rfl ?_
                    refine Go.fin X0 hlk (v := some (.int (1 : Int32))) (fun h => by rw [Bd.returns] at h; cases h) (by decide) (by decide) ?_ (fun fs hr => retN X0 hx (t := .boolean) Bd.returns (by simp) (hb hby d_expd_111) hr)
                    show Q_expd Z v0 h0 n0 _ s₁.heap _
                    rw [e0]
                    exact ⟨congrArg (fun z => some (Value.int z)) (by unfold own_exp; simp [*]), N0, rfl⟩
                  · refine G_icmpNo X0 hx (pc' := 80) rfl (hb hby d_expd_77) (feq hc77_9).1 ?_
                    refine G_iloadN X0 hx (pc' := 81) rfl (hb hby d_expd_80) rfl ?_
                    refine G_bipush X0 hx (pc' := 83) rfl (hb hby d_expd_81) (z := (63 : Int32)) rfl ?_
                    by_cases hc83_10 : v0 = (63 : Int32)
                    · refine G_icmpYes X0 hx (pc' := 110) (hb hby d_expd_83) (teq hc83_10).1 (by decide) (by decide) ?_
                      refine G_iconst X0 hx (pc' := 111) rfl (hb hby d_expd_110) (z := (1 : Int32)) rfl ?_
                      refine Go.fin X0 hlk (v := some (.int (1 : Int32))) (fun h => by rw [Bd.returns] at h; cases h) (by decide) (by decide) ?_ (fun fs hr => retN X0 hx (t := .boolean) Bd.returns (by simp) (hb hby d_expd_111) hr)
                      show Q_expd Z v0 h0 n0 _ s₁.heap _
                      rw [e0]
                      exact ⟨congrArg (fun z => some (Value.int z)) (by unfold own_exp; simp [*]), N0, rfl⟩
                    · refine G_icmpNo X0 hx (pc' := 86) rfl (hb hby d_expd_83) (feq hc83_10).1 ?_
                      refine G_iloadN X0 hx (pc' := 87) rfl (hb hby d_expd_86) rfl ?_
                      refine G_bipush X0 hx (pc' := 89) rfl (hb hby d_expd_87) (z := (35 : Int32)) rfl ?_
                      by_cases hc89_11 : v0 = (35 : Int32)
                      · refine G_icmpYes X0 hx (pc' := 110) (hb hby d_expd_89) (teq hc89_11).1 (by decide) (by decide) ?_
                        refine G_iconst X0 hx (pc' := 111) rfl (hb hby d_expd_110) (z := (1 : Int32)) rfl ?_
                        refine Go.fin X0 hlk (v := some (.int (1 : Int32))) (fun h => by rw [Bd.returns] at h; cases h) (by decide) (by decide) ?_ (fun fs hr => retN X0 hx (t := .boolean) Bd.returns (by simp) (hb hby d_expd_111) hr)
                        show Q_expd Z v0 h0 n0 _ s₁.heap _
                        rw [e0]
                        exact ⟨congrArg (fun z => some (Value.int z)) (by unfold own_exp; simp [*]), N0, rfl⟩
                      · refine G_icmpNo X0 hx (pc' := 92) rfl (hb hby d_expd_89) (feq hc89_11).1 ?_
                        refine G_iloadN X0 hx (pc' := 93) rfl (hb hby d_expd_92) rfl ?_
                        refine G_bipush X0 hx (pc' := 95) rfl (hb hby d_expd_93) (z := (91 : Int32)) rfl ?_
                        by_cases hc95_12 : v0 = (91 : Int32)
                        · refine G_icmpYes X0 hx (pc' := 110) (hb hby d_expd_95) (teq hc95_12).1 (by decide) (by decide) ?_
                          refine G_iconst X0 hx (pc' := 111) rfl (hb hby d_expd_110) (z := (1 : Int32)) rfl ?_
                          refine Go.fin X0 hlk (v := some (.int (1 : Int32))) (fun h => by rw [Bd.returns] at h; cases h) (by decide) (by decide) ?_ (fun fs hr => retN X0 hx (t := .boolean) Bd.returns (by simp) (hb hby d_expd_111) hr)
                          show Q_expd Z v0 h0 n0 _ s₁.heap _
                          rw [e0]
                          exact ⟨congrArg (fun z => some (Value.int z)) (by unfold own_exp; simp [*]), N0, rfl⟩
                        · refine G_icmpNo X0 hx (pc' := 98) rfl (hb hby d_expd_95) (feq hc95_12).1 ?_
                          refine G_iloadN X0 hx (pc' := 99) rfl (hb hby d_expd_98) rfl ?_
                          refine G_bipush X0 hx (pc' := 101) rfl (hb hby d_expd_99) (z := (93 : Int32)) rfl ?_
                          by_cases hc101_13 : v0 = (93 : Int32)
                          · refine G_icmpYes X0 hx (pc' := 110) (hb hby d_expd_101) (teq hc101_13).1 (by decide) (by decide) ?_
                            refine G_iconst X0 hx (pc' := 111) rfl (hb hby d_expd_110) (z := (1 : Int32)) rfl ?_
                            refine Go.fin X0 hlk (v := some (.int (1 : Int32))) (fun h => by rw [Bd.returns] at h; cases h) (by decide) (by decide) ?_ (fun fs hr => retN X0 hx (t := .boolean) Bd.returns (by simp) (hb hby d_expd_111) hr)
                            show Q_expd Z v0 h0 n0 _ s₁.heap _
                            rw [e0]
                            exact ⟨congrArg (fun z => some (Value.int z)) (by unfold own_exp; simp [*]), N0, rfl⟩
                          · refine G_icmpNo X0 hx (pc' := 104) rfl (hb hby d_expd_101) (feq hc101_13).1 ?_
                            refine G_iloadN X0 hx (pc' := 105) rfl (hb hby d_expd_104) rfl ?_
                            refine G_bipush X0 hx (pc' := 107) rfl (hb hby d_expd_105) (z := (64 : Int32)) rfl ?_
                            by_cases hc107_14 : v0 = (64 : Int32)
                            · refine G_icmpNo X0 hx (pc' := 110) rfl (hb hby d_expd_107) (teq hc107_14).2 ?_
                              refine G_iconst X0 hx (pc' := 111) rfl (hb hby d_expd_110) (z := (1 : Int32)) rfl ?_
                              refine Go.fin X0 hlk (v := some (.int (1 : Int32))) (fun h => by rw [Bd.returns] at h; cases h) (by decide) (by decide) ?_ (fun fs hr => retN X0 hx (t := .boolean) Bd.returns (by simp) (hb hby d_expd_111) hr)
                              show Q_expd Z v0 h0 n0 _ s₁.heap _
                              rw [e0]
                              exact ⟨congrArg (fun z => some (Value.int z)) (by unfold own_exp; simp [*]), N0, rfl⟩
                            · refine G_icmpYes X0 hx (pc' := 112) (hb hby d_expd_107) (feq hc107_14).2 (by decide) (by decide) ?_
                              refine G_iloadN X0 hx (pc' := 113) rfl (hb hby d_expd_112) rfl ?_
                              refine G_bipush X0 hx (pc' := 115) rfl (hb hby d_expd_113) (z := (33 : Int32)) rfl ?_
                              by_cases hc115_15 : v0 = (33 : Int32)
                              · refine G_icmpYes X0 hx (pc' := 178) (hb hby d_expd_115) (teq hc115_15).1 (by decide) (by decide) ?_
                                refine G_iconst X0 hx (pc' := 179) rfl (hb hby d_expd_178) (z := (1 : Int32)) rfl ?_
                                refine Go.fin X0 hlk (v := some (.int (1 : Int32))) (fun h => by rw [Bd.returns] at h; cases h) (by decide) (by decide) ?_ (fun fs hr => retN X0 hx (t := .boolean) Bd.returns (by simp) (hb hby d_expd_179) hr)
                                show Q_expd Z v0 h0 n0 _ s₁.heap _
                                rw [e0]
                                exact ⟨congrArg (fun z => some (Value.int z)) (by unfold own_exp; simp [*]), N0, rfl⟩
                              · refine G_icmpNo X0 hx (pc' := 118) rfl (hb hby d_expd_115) (feq hc115_15).1 ?_
                                refine G_iloadN X0 hx (pc' := 119) rfl (hb hby d_expd_118) rfl ?_
                                refine G_bipush X0 hx (pc' := 121) rfl (hb hby d_expd_119) (z := (36 : Int32)) rfl ?_
                                by_cases hc121_16 : v0 = (36 : Int32)
                                · refine G_icmpYes X0 hx (pc' := 178) (hb hby d_expd_121) (teq hc121_16).1 (by decide) (by decide) ?_
                                  refine G_iconst X0 hx (pc' := 179) rfl (hb hby d_expd_178) (z := (1 : Int32)) rfl ?_
                                  refine Go.fin X0 hlk (v := some (.int (1 : Int32))) (fun h => by rw [Bd.returns] at h; cases h) (by decide) (by decide) ?_ (fun fs hr => retN X0 hx (t := .boolean) Bd.returns (by simp) (hb hby d_expd_179) hr)
                                  show Q_expd Z v0 h0 n0 _ s₁.heap _
                                  rw [e0]
                                  exact ⟨congrArg (fun z => some (Value.int z)) (by unfold own_exp; simp [*]), N0, rfl⟩
                                · refine G_icmpNo X0 hx (pc' := 124) rfl (hb hby d_expd_121) (feq hc121_16).1 ?_
                                  refine G_iloadN X0 hx (pc' := 125) rfl (hb hby d_expd_124) rfl ?_
                                  refine G_bipush X0 hx (pc' := 127) rfl (hb hby d_expd_125) (z := (38 : Int32)) rfl ?_
                                  by_cases hc127_17 : v0 = (38 : Int32)
                                  · refine G_icmpYes X0 hx (pc' := 178) (hb hby d_expd_127) (teq hc127_17).1 (by decide) (by decide) ?_
                                    refine G_iconst X0 hx (pc' := 179) rfl (hb hby d_expd_178) (z := (1 : Int32)) rfl ?_
                                    refine Go.fin X0 hlk (v := some (.int (1 : Int32))) (fun h => by rw [Bd.returns] at h; cases h) (by decide) (by decide) ?_ (fun fs hr => retN X0 hx (t := .boolean) Bd.returns (by simp) (hb hby d_expd_179) hr)
                                    show Q_expd Z v0 h0 n0 _ s₁.heap _
                                    rw [e0]
                                    exact ⟨congrArg (fun z => some (Value.int z)) (by unfold own_exp; simp [*]), N0, rfl⟩
                                  · refine G_icmpNo X0 hx (pc' := 130) rfl (hb hby d_expd_127) (feq hc127_17).1 ?_
                                    refine G_iloadN X0 hx (pc' := 131) rfl (hb hby d_expd_130) rfl ?_
                                    refine G_bipush X0 hx (pc' := 133) rfl (hb hby d_expd_131) (z := (39 : Int32)) rfl ?_
                                    by_cases hc133_18 : v0 = (39 : Int32)
                                    · refine G_icmpYes X0 hx (pc' := 178) (hb hby d_expd_133) (teq hc133_18).1 (by decide) (by decide) ?_
                                      refine G_iconst X0 hx (pc' := 179) rfl (hb hby d_expd_178) (z := (1 : Int32)) rfl ?_
                                      refine Go.fin X0 hlk (v := some (.int (1 : Int32))) (fun h => by rw [Bd.returns] at h; cases h) (by decide) (by decide) ?_ (fun fs hr => retN X0 hx (t := .boolean) Bd.returns (by simp) (hb hby d_expd_179) hr)
                                      show Q_expd Z v0 h0 n0 _ s₁.heap _
                                      rw [e0]
                                      exact ⟨congrArg (fun z => some (Value.int z)) (by unfold own_exp; simp [*]), N0, rfl⟩
                                    · refine G_icmpNo X0 hx (pc' := 136) rfl (hb hby d_expd_133) (feq hc133_18).1 ?_
                                      refine G_iloadN X0 hx (pc' := 137) rfl (hb hby d_expd_136) rfl ?_
                                      refine G_bipush X0 hx (pc' := 139) rfl (hb hby d_expd_137) (z := (40 : Int32)) rfl ?_
                                      by_cases hc139_19 : v0 = (40 : Int32)
                                      · refine G_icmpYes X0 hx (pc' := 178) (hb hby d_expd_139) (teq hc139_19).1 (by decide) (by decide) ?_
                                        refine G_iconst X0 hx (pc' := 179) rfl (hb hby d_expd_178) (z := (1 : Int32)) rfl ?_
                                        refine Go.fin X0 hlk (v := some (.int (1 : Int32))) (fun h => by rw [Bd.returns] at h; cases h) (by decide) (by decide) ?_ (fun fs hr => retN X0 hx (t := .boolean) Bd.returns (by simp) (hb hby d_expd_179) hr)
                                        show Q_expd Z v0 h0 n0 _ s₁.heap _
                                        rw [e0]
                                        exact ⟨congrArg (fun z => some (Value.int z)) (by unfold own_exp; simp [*]), N0, rfl⟩
                                      · refine G_icmpNo X0 hx (pc' := 142) rfl (hb hby d_expd_139) (feq hc139_19).1 ?_
                                        refine G_iloadN X0 hx (pc' := 143) rfl (hb hby d_expd_142) rfl ?_
                                        refine G_bipush X0 hx (pc' := 145) rfl (hb hby d_expd_143) (z := (41 : Int32)) rfl ?_
                                        by_cases hc145_20 : v0 = (41 : Int32)
                                        · refine G_icmpYes X0 hx (pc' := 178) (hb hby d_expd_145) (teq hc145_20).1 (by decide) (by decide) ?_
                                          refine G_iconst X0 hx (pc' := 179) rfl (hb hby d_expd_178) (z := (1 : Int32)) rfl ?_
                                          refine Go.fin X0 hlk (v := some (.int (1 : Int32))) (fun h => by rw [Bd.returns] at h; cases h) (by decide) (by decide) ?_ (fun fs hr => retN X0 hx (t := .boolean) Bd.returns (by simp) (hb hby d_expd_179) hr)
                                          show Q_expd Z v0 h0 n0 _ s₁.heap _
                                          rw [e0]
                                          exact ⟨congrArg (fun z => some (Value.int z)) (by unfold own_exp; simp [*]), N0, rfl⟩
                                        · refine G_icmpNo X0 hx (pc' := 148) rfl (hb hby d_expd_145) (feq hc145_20).1 ?_
                                          refine G_iloadN X0 hx (pc' := 149) rfl (hb hby d_expd_148) rfl ?_
                                          refine G_bipush X0 hx (pc' := 151) rfl (hb hby d_expd_149) (z := (42 : Int32)) rfl ?_
                                          by_cases hc151_21 : v0 = (42 : Int32)
                                          · refine G_icmpYes X0 hx (pc' := 178) (hb hby d_expd_151) (teq hc151_21).1 (by decide) (by decide) ?_
                                            refine G_iconst X0 hx (pc' := 179) rfl (hb hby d_expd_178) (z := (1 : Int32)) rfl ?_
                                            refine Go.fin X0 hlk (v := some (.int (1 : Int32))) (fun h => by rw [Bd.returns] at h; cases h) (by decide) (by decide) ?_ (fun fs hr => retN X0 hx (t := .boolean) Bd.returns (by simp) (hb hby d_expd_179) hr)
                                            show Q_expd Z v0 h0 n0 _ s₁.heap _
                                            rw [e0]
                                            exact ⟨congrArg (fun z => some (Value.int z)) (by unfold own_exp; simp [*]), N0, rfl⟩
                                          · refine G_icmpNo X0 hx (pc' := 154) rfl (hb hby d_expd_151) (feq hc151_21).1 ?_
                                            refine G_iloadN X0 hx (pc' := 155) rfl (hb hby d_expd_154) rfl ?_
                                            refine G_bipush X0 hx (pc' := 157) rfl (hb hby d_expd_155) (z := (43 : Int32)) rfl ?_
                                            by_cases hc157_22 : v0 = (43 : Int32)
                                            · refine G_icmpYes X0 hx (pc' := 178) (hb hby d_expd_157) (teq hc157_22).1 (by decide) (by decide) ?_
                                              refine G_iconst X0 hx (pc' := 179) rfl (hb hby d_expd_178) (z := (1 : Int32)) rfl ?_
                                              refine Go.fin X0 hlk (v := some (.int (1 : Int32))) (fun h => by rw [Bd.returns] at h; cases h) (by decide) (by decide) ?_ (fun fs hr => retN X0 hx (t := .boolean) Bd.returns (by simp) (hb hby d_expd_179) hr)
                                              show Q_expd Z v0 h0 n0 _ s₁.heap _
                                              rw [e0]
                                              exact ⟨congrArg (fun z => some (Value.int z)) (by unfold own_exp; simp [*]), N0, rfl⟩
                                            · refine G_icmpNo X0 hx (pc' := 160) rfl (hb hby d_expd_157) (feq hc157_22).1 ?_
                                              refine G_iloadN X0 hx (pc' := 161) rfl (hb hby d_expd_160) rfl ?_
                                              refine G_bipush X0 hx (pc' := 163) rfl (hb hby d_expd_161) (z := (44 : Int32)) rfl ?_
                                              by_cases hc163_23 : v0 = (44 : Int32)
                                              · refine G_icmpYes X0 hx (pc' := 178) (hb hby d_expd_163) (teq hc163_23).1 (by decide) (by decide) ?_
                                                refine G_iconst X0 hx (pc' := 179) rfl (hb hby d_expd_178) (z := (1 : Int32)) rfl ?_
                                                refine Go.fin X0 hlk (v := some (.int (1 : Int32))) (fun h => by rw [Bd.returns] at h; cases h) (by decide) (by decide) ?_ (fun fs hr => retN X0 hx (t := .boolean) Bd.returns (by simp) (hb hby d_expd_179) hr)
                                                show Q_expd Z v0 h0 n0 _ s₁.heap _
                                                rw [e0]
                                                exact ⟨congrArg (fun z => some (Value.int z)) (by unfold own_exp; simp [*]), N0, rfl⟩
                                              · refine G_icmpNo X0 hx (pc' := 166) rfl (hb hby d_expd_163) (feq hc163_23).1 ?_
                                                refine G_iloadN X0 hx (pc' := 167) rfl (hb hby d_expd_166) rfl ?_
                                                refine G_bipush X0 hx (pc' := 169) rfl (hb hby d_expd_167) (z := (59 : Int32)) rfl ?_
                                                by_cases hc169_24 : v0 = (59 : Int32)
                                                · refine G_icmpYes X0 hx (pc' := 178) (hb hby d_expd_169) (teq hc169_24).1 (by decide) (by decide) ?_
                                                  refine G_iconst X0 hx (pc' := 179) rfl (hb hby d_expd_178) (z := (1 : Int32)) rfl ?_
                                                  refine Go.fin X0 hlk (v := some (.int (1 : Int32))) (fun h => by rw [Bd.returns] at h; cases h) (by decide) (by decide) ?_ (fun fs hr => retN X0 hx (t := .boolean) Bd.returns (by simp) (hb hby d_expd_179) hr)
                                                  show Q_expd Z v0 h0 n0 _ s₁.heap _
                                                  rw [e0]
                                                  exact ⟨congrArg (fun z => some (Value.int z)) (by unfold own_exp; simp [*]), N0, rfl⟩
                                                · refine G_icmpNo X0 hx (pc' := 172) rfl (hb hby d_expd_169) (feq hc169_24).1 ?_
                                                  refine G_iloadN X0 hx (pc' := 173) rfl (hb hby d_expd_172) rfl ?_
                                                  refine G_bipush X0 hx (pc' := 175) rfl (hb hby d_expd_173) (z := (61 : Int32)) rfl ?_
                                                  by_cases hc175_25 : v0 = (61 : Int32)
                                                  · refine G_icmpNo X0 hx (pc' := 178) rfl (hb hby d_expd_175) (teq hc175_25).2 ?_
                                                    refine G_iconst X0 hx (pc' := 179) rfl (hb hby d_expd_178) (z := (1 : Int32)) rfl ?_
                                                    refine Go.fin X0 hlk (v := some (.int (1 : Int32))) (fun h => by rw [Bd.returns] at h; cases h) (by decide) (by decide) ?_ (fun fs hr => retN X0 hx (t := .boolean) Bd.returns (by simp) (hb hby d_expd_179) hr)
                                                    show Q_expd Z v0 h0 n0 _ s₁.heap _
                                                    rw [e0]
                                                    exact ⟨congrArg (fun z => some (Value.int z)) (by unfold own_exp; simp [*]), N0, rfl⟩
                                                  · refine G_icmpYes X0 hx (pc' := 180) (hb hby d_expd_175) (feq hc175_25).2 (by decide) (by decide) ?_
                                                    refine G_iloadN X0 hx (pc' := 181) rfl (hb hby d_expd_180) rfl ?_
                                                    refine G_bipush X0 hx (pc' := 183) rfl (hb hby d_expd_181) (z := (37 : Int32)) rfl ?_
                                                    by_cases hc183_26 : v0 = (37 : Int32)
                                                    · refine G_icmpNo X0 hx (pc' := 186) rfl (hb hby d_expd_183) (teq hc183_26).2 ?_
                                                      refine G_iconst X0 hx (pc' := 187) rfl (hb hby d_expd_186) (z := (1 : Int32)) rfl ?_
                                                      refine Go.fin X0 hlk (v := some (.int (1 : Int32))) (fun h => by rw [Bd.returns] at h; cases h) (by decide) (by decide) ?_ (fun fs hr => retN X0 hx (t := .boolean) Bd.returns (by simp) (hb hby d_expd_187) hr)
                                                      show Q_expd Z v0 h0 n0 _ s₁.heap _
                                                      rw [e0]
                                                      exact ⟨congrArg (fun z => some (Value.int z)) (by unfold own_exp; simp [*]), N0, rfl⟩
                                                    · refine G_icmpYes X0 hx (pc' := 188) (hb hby d_expd_183) (feq hc183_26).2 (by decide) (by decide) ?_
                                                      refine G_iconst X0 hx (pc' := 189) rfl (hb hby d_expd_188) (z := (0 : Int32)) rfl ?_
                                                      refine Go.fin X0 hlk (v := some (.int (0 : Int32))) (fun h => by rw [Bd.returns] at h; cases h) (by decide) (by decide) ?_ (fun fs hr => retN X0 hx (t := .boolean) Bd.returns (by simp) (hb hby d_expd_189) hr)
                                                      show Q_expd Z v0 h0 n0 _ s₁.heap _
                                                      rw [e0]
                                                      exact ⟨congrArg (fun z => some (Value.int z)) (by unfold own_exp; simp [*]), N0, rfl⟩
      · refine G_icmpNo X0 hx (pc' := 34) rfl (hb hby d_expd_31) (flt hc31_3).1 ?_
        refine G_iloadN X0 hx (pc' := 35) rfl (hb hby d_expd_34) rfl ?_
        refine G_bipush X0 hx (pc' := 37) rfl (hb hby d_expd_35) (z := (57 : Int32)) rfl ?_
        by_cases hc37_27 : (57 : Int32) < v0
        · refine G_icmpYes X0 hx (pc' := 42) (hb hby d_expd_37) (tlt hc37_27).2.2.1 (by decide) (by decide) ?_
          refine G_iloadN X0 hx (pc' := 43) rfl (hb hby d_expd_42) rfl ?_
          refine G_bipush X0 hx (pc' := 45) rfl (hb hby d_expd_43) (z := (45 : Int32)) rfl ?_
          by_cases hc45_28 : v0 = (45 : Int32)
          · refine G_icmpYes X0 hx (pc' := 66) (hb hby d_expd_45) (teq hc45_28).1 (by decide) (by decide) ?_
            refine G_iconst X0 hx (pc' := 67) rfl (hb hby d_expd_66) (z := (1 : Int32)) rfl ?_
            refine Go.fin X0 hlk (v := some (.int (1 : Int32))) (fun h => by rw [Bd.returns] at h; cases h) (by decide) (by decide) ?_ (fun fs hr => retN X0 hx (t := .boolean) Bd.returns (by simp) (hb hby d_expd_67) hr)
            show Q_expd Z v0 h0 n0 _ s₁.heap _
            rw [e0]
            exact ⟨congrArg (fun z => some (Value.int z)) (by unfold own_exp; simp [*]), N0, rfl⟩
          · refine G_icmpNo X0 hx (pc' := 48) rfl (hb hby d_expd_45) (feq hc45_28).1 ?_
            refine G_iloadN X0 hx (pc' := 49) rfl (hb hby d_expd_48) rfl ?_
            refine G_bipush X0 hx (pc' := 51) rfl (hb hby d_expd_49) (z := (46 : Int32)) rfl ?_
            by_cases hc51_29 : v0 = (46 : Int32)
            · refine G_icmpYes X0 hx (pc' := 66) (hb hby d_expd_51) (teq hc51_29).1 (by decide) (by decide) ?_
              refine G_iconst X0 hx (pc' := 67) rfl (hb hby d_expd_66) (z := (1 : Int32)) rfl ?_
              refine Go.fin X0 hlk (v := some (.int (1 : Int32))) (fun h => by rw [Bd.returns] at h; cases h) (by decide) (by decide) ?_ (fun fs hr => retN X0 hx (t := .boolean) Bd.returns (by simp) (hb hby d_expd_67) hr)
              show Q_expd Z v0 h0 n0 _ s₁.heap _
              rw [e0]
              exact ⟨congrArg (fun z => some (Value.int z)) (by unfold own_exp; simp [*]), N0, rfl⟩
            · refine G_icmpNo X0 hx (pc' := 54) rfl (hb hby d_expd_51) (feq hc51_29).1 ?_
              refine G_iloadN X0 hx (pc' := 55) rfl (hb hby d_expd_54) rfl ?_
              refine G_bipush X0 hx (pc' := 57) rfl (hb hby d_expd_55) (z := (95 : Int32)) rfl ?_
              by_cases hc57_30 : v0 = (95 : Int32)
              · refine G_icmpYes X0 hx (pc' := 66) (hb hby d_expd_57) (teq hc57_30).1 (by decide) (by decide) ?_
                refine G_iconst X0 hx (pc' := 67) rfl (hb hby d_expd_66) (z := (1 : Int32)) rfl ?_
                refine Go.fin X0 hlk (v := some (.int (1 : Int32))) (fun h => by rw [Bd.returns] at h; cases h) (by decide) (by decide) ?_ (fun fs hr => retN X0 hx (t := .boolean) Bd.returns (by simp) (hb hby d_expd_67) hr)
                show Q_expd Z v0 h0 n0 _ s₁.heap _
                rw [e0]
                exact ⟨congrArg (fun z => some (Value.int z)) (by unfold own_exp; simp [*]), N0, rfl⟩
              · refine G_icmpNo X0 hx (pc' := 60) rfl (hb hby d_expd_57) (feq hc57_30).1 ?_
                refine G_iloadN X0 hx (pc' := 61) rfl (hb hby d_expd_60) rfl ?_
                refine G_bipush X0 hx (pc' := 63) rfl (hb hby d_expd_61) (z := (126 : Int32)) rfl ?_
                by_cases hc63_31 : v0 = (126 : Int32)
                · refine G_icmpNo X0 hx (pc' := 66) rfl (hb hby d_expd_63) (teq hc63_31).2 ?_
                  refine G_iconst X0 hx (pc' := 67) rfl (hb hby d_expd_66) (z := (1 : Int32)) rfl ?_
                  refine Go.fin X0 hlk (v := some (.int (1 : Int32))) (fun h => by rw [Bd.returns] at h; cases h) (by decide) (by decide) ?_ (fun fs hr => retN X0 hx (t := .boolean) Bd.returns (by simp) (hb hby d_expd_67) hr)
                  show Q_expd Z v0 h0 n0 _ s₁.heap _
                  rw [e0]
                  exact ⟨congrArg (fun z => some (Value.int z)) (by unfold own_exp; simp [*]), N0, rfl⟩
                · refine G_icmpYes X0 hx (pc' := 68) (hb hby d_expd_63) (feq hc63_31).2 (by decide) (by decide) ?_
                  refine G_iloadN X0 hx (pc' := 69) rfl (hb hby d_expd_68) rfl ?_
                  refine G_bipush X0 hx (pc' := 71) rfl (hb hby d_expd_69) (z := (58 : Int32)) rfl ?_
                  by_cases hc71_32 : v0 = (58 : Int32)
                  · refine G_icmpYes X0 hx (pc' := 110) (hb hby d_expd_71) (teq hc71_32).1 (by decide) (by decide) ?_
                    refine G_iconst X0 hx (pc' := 111) rfl (hb hby d_expd_110) (z := (1 : Int32)) rfl ?_
                    refine Go.fin X0 hlk (v := some (.int (1 : Int32))) (fun h => by rw [Bd.returns] at h; cases h) (by decide) (by decide) ?_ (fun fs hr => retN X0 hx (t := .boolean) Bd.returns (by simp) (hb hby d_expd_111) hr)
                    show Q_expd Z v0 h0 n0 _ s₁.heap _
                    rw [e0]
                    exact ⟨congrArg (fun z => some (Value.int z)) (by unfold own_exp; simp [*]), N0, rfl⟩
                  · refine G_icmpNo X0 hx (pc' := 74) rfl (hb hby d_expd_71) (feq hc71_32).1 ?_
                    refine G_iloadN X0 hx (pc' := 75) rfl (hb hby d_expd_74) rfl ?_
                    refine G_bipush X0 hx (pc' := 77) rfl (hb hby d_expd_75) (z := (47 : Int32)) rfl ?_
                    by_cases hc77_33 : v0 = (47 : Int32)
                    · refine G_icmpYes X0 hx (pc' := 110) (hb hby d_expd_77) (teq hc77_33).1 (by decide) (by decide) ?_
                      refine G_iconst X0 hx (pc' := 111) rfl (hb hby d_expd_110) (z := (1 : Int32)) rfl ?_
                      refine Go.fin X0 hlk (v := some (.int (1 : Int32))) (fun h => by rw [Bd.returns] at h; cases h) (by decide) (by decide) ?_ (fun fs hr => retN X0 hx (t := .boolean) Bd.returns (by simp) (hb hby d_expd_111) hr)
                      show Q_expd Z v0 h0 n0 _ s₁.heap _
                      rw [e0]
                      exact ⟨congrArg (fun z => some (Value.int z)) (by unfold own_exp; simp [*]), N0, rfl⟩
                    · refine G_icmpNo X0 hx (pc' := 80) rfl (hb hby d_expd_77) (feq hc77_33).1 ?_
                      refine G_iloadN X0 hx (pc' := 81) rfl (hb hby d_expd_80) rfl ?_
                      refine G_bipush X0 hx (pc' := 83) rfl (hb hby d_expd_81) (z := (63 : Int32)) rfl ?_
                      by_cases hc83_34 : v0 = (63 : Int32)
                      · refine G_icmpYes X0 hx (pc' := 110) (hb hby d_expd_83) (teq hc83_34).1 (by decide) (by decide) ?_
                        refine G_iconst X0 hx (pc' := 111) rfl (hb hby d_expd_110) (z := (1 : Int32)) rfl ?_
                        refine Go.fin X0 hlk (v := some (.int (1 : Int32))) (fun h => by rw [Bd.returns] at h; cases h) (by decide) (by decide) ?_ (fun fs hr => retN X0 hx (t := .boolean) Bd.returns (by simp) (hb hby d_expd_111) hr)
                        show Q_expd Z v0 h0 n0 _ s₁.heap _
                        rw [e0]
                        exact ⟨congrArg (fun z => some (Value.int z)) (by unfold own_exp; simp [*]), N0, rfl⟩
                      · refine G_icmpNo X0 hx (pc' := 86) rfl (hb hby d_expd_83) (feq hc83_34).1 ?_
                        refine G_iloadN X0 hx (pc' := 87) rfl (hb hby d_expd_86) rfl ?_
                        refine G_bipush X0 hx (pc' := 89) rfl (hb hby d_expd_87) (z := (35 : Int32)) rfl ?_
                        by_cases hc89_35 : v0 = (35 : Int32)
                        · refine G_icmpYes X0 hx (pc' := 110) (hb hby d_expd_89) (teq hc89_35).1 (by decide) (by decide) ?_
                          refine G_iconst X0 hx (pc' := 111) rfl (hb hby d_expd_110) (z := (1 : Int32)) rfl ?_
                          refine Go.fin X0 hlk (v := some (.int (1 : Int32))) (fun h => by rw [Bd.returns] at h; cases h) (by decide) (by decide) ?_ (fun fs hr => retN X0 hx (t := .boolean) Bd.returns (by simp) (hb hby d_expd_111) hr)
                          show Q_expd Z v0 h0 n0 _ s₁.heap _
                          rw [e0]
                          exact ⟨congrArg (fun z => some (Value.int z)) (by unfold own_exp; simp [*]), N0, rfl⟩
                        · refine G_icmpNo X0 hx (pc' := 92) rfl (hb hby d_expd_89) (feq hc89_35).1 ?_
                          refine G_iloadN X0 hx (pc' := 93) rfl (hb hby d_expd_92) rfl ?_
                          refine G_bipush X0 hx (pc' := 95) rfl (hb hby d_expd_93) (z := (91 : Int32)) rfl ?_
                          by_cases hc95_36 : v0 = (91 : Int32)
                          · refine G_icmpYes X0 hx (pc' := 110) (hb hby d_expd_95) (teq hc95_36).1 (by decide) (by decide) ?_
                            refine G_iconst X0 hx (pc' := 111) rfl (hb hby d_expd_110) (z := (1 : Int32)) rfl ?_
                            refine Go.fin X0 hlk (v := some (.int (1 : Int32))) (fun h => by rw [Bd.returns] at h; cases h) (by decide) (by decide) ?_ (fun fs hr => retN X0 hx (t := .boolean) Bd.returns (by simp) (hb hby d_expd_111) hr)
                            show Q_expd Z v0 h0 n0 _ s₁.heap _
                            rw [e0]
                            exact ⟨congrArg (fun z => some (Value.int z)) (by unfold own_exp; simp [*]), N0, rfl⟩
                          · refine G_icmpNo X0 hx (pc' := 98) rfl (hb hby d_expd_95) (feq hc95_36).1 ?_
                            refine G_iloadN X0 hx (pc' := 99) rfl (hb hby d_expd_98) rfl ?_
                            refine G_bipush X0 hx (pc' := 101) rfl (hb hby d_expd_99) (z := (93 : Int32)) rfl ?_
                            by_cases hc101_37 : v0 = (93 : Int32)
                            · refine G_icmpYes X0 hx (pc' := 110) (hb hby d_expd_101) (teq hc101_37).1 (by decide) (by decide) ?_
                              refine G_iconst X0 hx (pc' := 111) rfl (hb hby d_expd_110) (z := (1 : Int32)) rfl ?_
                              refine Go.fin X0 hlk (v := some (.int (1 : Int32))) (fun h => by rw [Bd.returns] at h; cases h) (by decide) (by decide) ?_ (fun fs hr => retN X0 hx (t := .boolean) Bd.returns (by simp) (hb hby d_expd_111) hr)
                              show Q_expd Z v0 h0 n0 _ s₁.heap _
                              rw [e0]
                              exact ⟨congrArg (fun z => some (Value.int z)) (by unfold own_exp; simp [*]), N0, rfl⟩
                            · refine G_icmpNo X0 hx (pc' := 104) rfl (hb hby d_expd_101) (feq hc101_37).1 ?_
                              refine G_iloadN X0 hx (pc' := 105) rfl (hb hby d_expd_104) rfl ?_
                              refine G_bipush X0 hx (pc' := 107) rfl (hb hby d_expd_105) (z := (64 : Int32)) rfl ?_
                              by_cases hc107_38 : v0 = (64 : Int32)
                              · refine G_icmpNo X0 hx (pc' := 110) rfl (hb hby d_expd_107) (teq hc107_38).2 ?_
                                refine G_iconst X0 hx (pc' := 111) rfl (hb hby d_expd_110) (z := (1 : Int32)) rfl ?_
                                refine Go.fin X0 hlk (v := some (.int (1 : Int32))) (fun h => by rw [Bd.returns] at h; cases h) (by decide) (by decide) ?_ (fun fs hr => retN X0 hx (t := .boolean) Bd.returns (by simp) (hb hby d_expd_111) hr)
                                show Q_expd Z v0 h0 n0 _ s₁.heap _
                                rw [e0]
                                exact ⟨congrArg (fun z => some (Value.int z)) (by unfold own_exp; simp [*]), N0, rfl⟩
                              · refine G_icmpYes X0 hx (pc' := 112) (hb hby d_expd_107) (feq hc107_38).2 (by decide) (by decide) ?_
                                refine G_iloadN X0 hx (pc' := 113) rfl (hb hby d_expd_112) rfl ?_
                                refine G_bipush X0 hx (pc' := 115) rfl (hb hby d_expd_113) (z := (33 : Int32)) rfl ?_
                                by_cases hc115_39 : v0 = (33 : Int32)
                                · refine G_icmpYes X0 hx (pc' := 178) (hb hby d_expd_115) (teq hc115_39).1 (by decide) (by decide) ?_
                                  refine G_iconst X0 hx (pc' := 179) rfl (hb hby d_expd_178) (z := (1 : Int32)) rfl ?_
                                  refine Go.fin X0 hlk (v := some (.int (1 : Int32))) (fun h => by rw [Bd.returns] at h; cases h) (by decide) (by decide) ?_ (fun fs hr => retN X0 hx (t := .boolean) Bd.returns (by simp) (hb hby d_expd_179) hr)
                                  show Q_expd Z v0 h0 n0 _ s₁.heap _
                                  rw [e0]
                                  exact ⟨congrArg (fun z => some (Value.int z)) (by unfold own_exp; simp [*]), N0, rfl⟩
                                · refine G_icmpNo X0 hx (pc' := 118) rfl (hb hby d_expd_115) (feq hc115_39).1 ?_
                                  refine G_iloadN X0 hx (pc' := 119) rfl (hb hby d_expd_118) rfl ?_
                                  refine G_bipush X0 hx (pc' := 121) rfl (hb hby d_expd_119) (z := (36 : Int32)) rfl ?_
                                  by_cases hc121_40 : v0 = (36 : Int32)
                                  · refine G_icmpYes X0 hx (pc' := 178) (hb hby d_expd_121) (teq hc121_40).1 (by decide) (by decide) ?_
                                    refine G_iconst X0 hx (pc' := 179) rfl (hb hby d_expd_178) (z := (1 : Int32)) rfl ?_
                                    refine Go.fin X0 hlk (v := some (.int (1 : Int32))) (fun h => by rw [Bd.returns] at h; cases h) (by decide) (by decide) ?_ (fun fs hr => retN X0 hx (t := .boolean) Bd.returns (by simp) (hb hby d_expd_179) hr)
                                    show Q_expd Z v0 h0 n0 _ s₁.heap _
                                    rw [e0]
                                    exact ⟨congrArg (fun z => some (Value.int z)) (by unfold own_exp; simp [*]), N0, rfl⟩
                                  · refine G_icmpNo X0 hx (pc' := 124) rfl (hb hby d_expd_121) (feq hc121_40).1 ?_
                                    refine G_iloadN X0 hx (pc' := 125) rfl (hb hby d_expd_124) rfl ?_
                                    refine G_bipush X0 hx (pc' := 127) rfl (hb hby d_expd_125) (z := (38 : Int32)) rfl ?_
                                    by_cases hc127_41 : v0 = (38 : Int32)
                                    · refine G_icmpYes X0 hx (pc' := 178) (hb hby d_expd_127) (teq hc127_41).1 (by decide) (by decide) ?_
                                      refine G_iconst X0 hx (pc' := 179) rfl (hb hby d_expd_178) (z := (1 : Int32)) rfl ?_
                                      refine Go.fin X0 hlk (v := some (.int (1 : Int32))) (fun h => by rw [Bd.returns] at h; cases h) (by decide) (by decide) ?_ (fun fs hr => retN X0 hx (t := .boolean) Bd.returns (by simp) (hb hby d_expd_179) hr)
                                      show Q_expd Z v0 h0 n0 _ s₁.heap _
                                      rw [e0]
                                      exact ⟨congrArg (fun z => some (Value.int z)) (by unfold own_exp; simp [*]), N0, rfl⟩
                                    · refine G_icmpNo X0 hx (pc' := 130) rfl (hb hby d_expd_127) (feq hc127_41).1 ?_
                                      refine G_iloadN X0 hx (pc' := 131) rfl (hb hby d_expd_130) rfl ?_
                                      refine G_bipush X0 hx (pc' := 133) rfl (hb hby d_expd_131) (z := (39 : Int32)) rfl ?_
                                      by_cases hc133_42 : v0 = (39 : Int32)
                                      · refine G_icmpYes X0 hx (pc' := 178) (hb hby d_expd_133) (teq hc133_42).1 (by decide) (by decide) ?_
                                        refine G_iconst X0 hx (pc' := 179) rfl (hb hby d_expd_178) (z := (1 : Int32)) rfl ?_
                                        refine Go.fin X0 hlk (v := some (.int (1 : Int32))) (fun h => by rw [Bd.returns] at h; cases h) (by decide) (by decide) ?_ (fun fs hr => retN X0 hx (t := .boolean) Bd.returns (by simp) (hb hby d_expd_179) hr)
                                        show Q_expd Z v0 h0 n0 _ s₁.heap _
                                        rw [e0]
                                        exact ⟨congrArg (fun z => some (Value.int z)) (by unfold own_exp; simp [*]), N0, rfl⟩
                                      · refine G_icmpNo X0 hx (pc' := 136) rfl (hb hby d_expd_133) (feq hc133_42).1 ?_
                                        refine G_iloadN X0 hx (pc' := 137) rfl (hb hby d_expd_136) rfl ?_
                                        refine G_bipush X0 hx (pc' := 139) rfl (hb hby d_expd_137) (z := (40 : Int32)) rfl ?_
                                        by_cases hc139_43 : v0 = (40 : Int32)
                                        · refine G_icmpYes X0 hx (pc' := 178) (hb hby d_expd_139) (teq hc139_43).1 (by decide) (by decide) ?_
                                          refine G_iconst X0 hx (pc' := 179) rfl (hb hby d_expd_178) (z := (1 : Int32)) rfl ?_
                                          refine Go.fin X0 hlk (v := some (.int (1 : Int32))) (fun h => by rw [Bd.returns] at h; cases h) (by decide) (by decide) ?_ (fun fs hr => retN X0 hx (t := .boolean) Bd.returns (by simp) (hb hby d_expd_179) hr)
                                          show Q_expd Z v0 h0 n0 _ s₁.heap _
                                          rw [e0]
                                          exact ⟨congrArg (fun z => some (Value.int z)) (by unfold own_exp; simp [*]), N0, rfl⟩
                                        · refine G_icmpNo X0 hx (pc' := 142) rfl (hb hby d_expd_139) (feq hc139_43).1 ?_
                                          refine G_iloadN X0 hx (pc' := 143) rfl (hb hby d_expd_142) rfl ?_
                                          refine G_bipush X0 hx (pc' := 145) rfl (hb hby d_expd_143) (z := (41 : Int32)) rfl ?_
                                          by_cases hc145_44 : v0 = (41 : Int32)
                                          · refine G_icmpYes X0 hx (pc' := 178) (hb hby d_expd_145) (teq hc145_44).1 (by decide) (by decide) ?_
                                            refine G_iconst X0 hx (pc' := 179) rfl (hb hby d_expd_178) (z := (1 : Int32)) rfl ?_
                                            refine Go.fin X0 hlk (v := some (.int (1 : Int32))) (fun h => by rw [Bd.returns] at h; cases h) (by decide) (by decide) ?_ (fun fs hr => retN X0 hx (t := .boolean) Bd.returns (by simp) (hb hby d_expd_179) hr)
                                            show Q_expd Z v0 h0 n0 _ s₁.heap _
                                            rw [e0]
                                            exact ⟨congrArg (fun z => some (Value.int z)) (by unfold own_exp; simp [*]), N0, rfl⟩
                                          · refine G_icmpNo X0 hx (pc' := 148) rfl (hb hby d_expd_145) (feq hc145_44).1 ?_
                                            refine G_iloadN X0 hx (pc' := 149) rfl (hb hby d_expd_148) rfl ?_
                                            refine G_bipush X0 hx (pc' := 151) rfl (hb hby d_expd_149) (z := (42 : Int32)) rfl ?_
                                            by_cases hc151_45 : v0 = (42 : Int32)
                                            · refine G_icmpYes X0 hx (pc' := 178) (hb hby d_expd_151) (teq hc151_45).1 (by decide) (by decide) ?_
                                              refine G_iconst X0 hx (pc' := 179) rfl (hb hby d_expd_178) (z := (1 : Int32)) rfl ?_
                                              refine Go.fin X0 hlk (v := some (.int (1 : Int32))) (fun h => by rw [Bd.returns] at h; cases h) (by decide) (by decide) ?_ (fun fs hr => retN X0 hx (t := .boolean) Bd.returns (by simp) (hb hby d_expd_179) hr)
                                              show Q_expd Z v0 h0 n0 _ s₁.heap _
                                              rw [e0]
                                              exact ⟨congrArg (fun z => some (Value.int z)) (by unfold own_exp; simp [*]), N0, rfl⟩
                                            · refine G_icmpNo X0 hx (pc' := 154) rfl (hb hby d_expd_151) (feq hc151_45).1 ?_
                                              refine G_iloadN X0 hx (pc' := 155) rfl (hb hby d_expd_154) rfl ?_
                                              refine G_bipush X0 hx (pc' := 157) rfl (hb hby d_expd_155) (z := (43 : Int32)) rfl ?_
                                              by_cases hc157_46 : v0 = (43 : Int32)
                                              · refine G_icmpYes X0 hx (pc' := 178) (hb hby d_expd_157) (teq hc157_46).1 (by decide) (by decide) ?_
                                                refine G_iconst X0 hx (pc' := 179) rfl (hb hby d_expd_178) (z := (1 : Int32)) rfl ?_
                                                refine Go.fin X0 hlk (v := some (.int (1 : Int32))) (fun h => by rw [Bd.returns] at h; cases h) (by decide) (by decide) ?_ (fun fs hr => retN X0 hx (t := .boolean) Bd.returns (by simp) (hb hby d_expd_179) hr)
                                                show Q_expd Z v0 h0 n0 _ s₁.heap _
                                                rw [e0]
                                                exact ⟨congrArg (fun z => some (Value.int z)) (by unfold own_exp; simp [*]), N0, rfl⟩
                                              · refine G_icmpNo X0 hx (pc' := 160) rfl (hb hby d_expd_157) (feq hc157_46).1 ?_
                                                refine G_iloadN X0 hx (pc' := 161) rfl (hb hby d_expd_160) rfl ?_
                                                refine G_bipush X0 hx (pc' := 163) rfl (hb hby d_expd_161) (z := (44 : Int32)) rfl ?_
                                                by_cases hc163_47 : v0 = (44 : Int32)
                                                · refine G_icmpYes X0 hx (pc' := 178) (hb hby d_expd_163) (teq hc163_47).1 (by decide) (by decide) ?_
                                                  refine G_iconst X0 hx (pc' := 179) rfl (hb hby d_expd_178) (z := (1 : Int32)) rfl ?_
                                                  refine Go.fin X0 hlk (v := some (.int (1 : Int32))) (fun h => by rw [Bd.returns] at h; cases h) (by decide) (by decide) ?_ (fun fs hr => retN X0 hx (t := .boolean) Bd.returns (by simp) (hb hby d_expd_179) hr)
                                                  show Q_expd Z v0 h0 n0 _ s₁.heap _
                                                  rw [e0]
                                                  exact ⟨congrArg (fun z => some (Value.int z)) (by unfold own_exp; simp [*]), N0, rfl⟩
                                                · refine G_icmpNo X0 hx (pc' := 166) rfl (hb hby d_expd_163) (feq hc163_47).1 ?_
                                                  refine G_iloadN X0 hx (pc' := 167) rfl (hb hby d_expd_166) rfl ?_
                                                  refine G_bipush X0 hx (pc' := 169) rfl (hb hby d_expd_167) (z := (59 : Int32)) rfl ?_
                                                  by_cases hc169_48 : v0 = (59 : Int32)
                                                  · refine G_icmpYes X0 hx (pc' := 178) (hb hby d_expd_169) (teq hc169_48).1 (by decide) (by decide) ?_
                                                    refine G_iconst X0 hx (pc' := 179) rfl (hb hby d_expd_178) (z := (1 : Int32)) rfl ?_
                                                    refine Go.fin X0 hlk (v := some (.int (1 : Int32))) (fun h => by rw [Bd.returns] at h; cases h) (by decide) (by decide) ?_ (fun fs hr => retN X0 hx (t := .boolean) Bd.returns (by simp) (hb hby d_expd_179) hr)
                                                    show Q_expd Z v0 h0 n0 _ s₁.heap _
                                                    rw [e0]
                                                    exact ⟨congrArg (fun z => some (Value.int z)) (by unfold own_exp; simp [*]), N0, rfl⟩
                                                  · refine G_icmpNo X0 hx (pc' := 172) rfl (hb hby d_expd_169) (feq hc169_48).1 ?_
                                                    refine G_iloadN X0 hx (pc' := 173) rfl (hb hby d_expd_172) rfl ?_
                                                    refine G_bipush X0 hx (pc' := 175) rfl (hb hby d_expd_173) (z := (61 : Int32)) rfl ?_
                                                    by_cases hc175_49 : v0 = (61 : Int32)
                                                    · refine G_icmpNo X0 hx (pc' := 178) rfl (hb hby d_expd_175) (teq hc175_49).2 ?_
                                                      refine G_iconst X0 hx (pc' := 179) rfl (hb hby d_expd_178) (z := (1 : Int32)) rfl ?_
                                                      refine Go.fin X0 hlk (v := some (.int (1 : Int32))) (fun h => by rw [Bd.returns] at h; cases h) (by decide) (by decide) ?_ (fun fs hr => retN X0 hx (t := .boolean) Bd.returns (by simp) (hb hby d_expd_179) hr)
                                                      show Q_expd Z v0 h0 n0 _ s₁.heap _
                                                      rw [e0]
                                                      exact ⟨congrArg (fun z => some (Value.int z)) (by unfold own_exp; simp [*]), N0, rfl⟩
                                                    · refine G_icmpYes X0 hx (pc' := 180) (hb hby d_expd_175) (feq hc175_49).2 (by decide) (by decide) ?_
                                                      refine G_iloadN X0 hx (pc' := 181) rfl (hb hby d_expd_180) rfl ?_
                                                      refine G_bipush X0 hx (pc' := 183) rfl (hb hby d_expd_181) (z := (37 : Int32)) rfl ?_
                                                      by_cases hc183_50 : v0 = (37 : Int32)
                                                      · refine G_icmpNo X0 hx (pc' := 186) rfl (hb hby d_expd_183) (teq hc183_50).2 ?_
                                                        refine G_iconst X0 hx (pc' := 187) rfl (hb hby d_expd_186) (z := (1 : Int32)) rfl ?_
                                                        refine Go.fin X0 hlk (v := some (.int (1 : Int32))) (fun h => by rw [Bd.returns] at h; cases h) (by decide) (by decide) ?_ (fun fs hr => retN X0 hx (t := .boolean) Bd.returns (by simp) (hb hby d_expd_187) hr)
                                                        show Q_expd Z v0 h0 n0 _ s₁.heap _
                                                        rw [e0]
                                                        exact ⟨congrArg (fun z => some (Value.int z)) (by unfold own_exp; simp [*]), N0, rfl⟩
                                                      · refine G_icmpYes X0 hx (pc' := 188) (hb hby d_expd_183) (feq hc183_50).2 (by decide) (by decide) ?_
                                                        refine G_iconst X0 hx (pc' := 189) rfl (hb hby d_expd_188) (z := (0 : Int32)) rfl ?_
                                                        refine Go.fin X0 hlk (v := some (.int (0 : Int32))) (fun h => by rw [Bd.returns] at h; cases h) (by decide) (by decide) ?_ (fun fs hr => retN X0 hx (t := .boolean) Bd.returns (by simp) (hb hby d_expd_189) hr)
                                                        show Q_expd Z v0 h0 n0 _ s₁.heap _
                                                        rw [e0]
                                                        exact ⟨congrArg (fun z => some (Value.int z)) (by unfold own_exp; simp [*]), N0, rfl⟩
        · refine G_icmpNo X0 hx (pc' := 40) rfl (hb hby d_expd_37) (flt hc37_27).2.2.1 ?_
          refine G_iconst X0 hx (pc' := 41) rfl (hb hby d_expd_40) (z := (1 : Int32)) rfl ?_
          refine Go.fin X0 hlk (v := some (.int (1 : Int32))) (fun h => by rw [Bd.returns] at h; cases h) (by decide) (by decide) ?_ (fun fs hr => retN X0 hx (t := .boolean) Bd.returns (by simp) (hb hby d_expd_41) hr)
          show Q_expd Z v0 h0 n0 _ s₁.heap _
          rw [e0]
          exact ⟨congrArg (fun z => some (Value.int z)) (by unfold own_exp; simp [*]), N0, rfl⟩
    · refine G_icmpNo X0 hx (pc' := 20) rfl (hb hby d_expd_17) (flt hc17_2).1 ?_
      refine G_iloadN X0 hx (pc' := 21) rfl (hb hby d_expd_20) rfl ?_
      refine G_bipush X0 hx (pc' := 23) rfl (hb hby d_expd_21) (z := (122 : Int32)) rfl ?_
      by_cases hc23_51 : (122 : Int32) < v0
      · refine G_icmpYes X0 hx (pc' := 28) (hb hby d_expd_23) (tlt hc23_51).2.2.1 (by decide) (by decide) ?_
        refine G_iloadN X0 hx (pc' := 29) rfl (hb hby d_expd_28) rfl ?_
        refine G_bipush X0 hx (pc' := 31) rfl (hb hby d_expd_29) (z := (48 : Int32)) rfl ?_
        by_cases hc31_52 : v0 < (48 : Int32)
        · refine G_icmpYes X0 hx (pc' := 42) (hb hby d_expd_31) (tlt hc31_52).1 (by decide) (by decide) ?_
          refine G_iloadN X0 hx (pc' := 43) rfl (hb hby d_expd_42) rfl ?_
          refine G_bipush X0 hx (pc' := 45) rfl (hb hby d_expd_43) (z := (45 : Int32)) rfl ?_
          by_cases hc45_53 : v0 = (45 : Int32)
          · refine G_icmpYes X0 hx (pc' := 66) (hb hby d_expd_45) (teq hc45_53).1 (by decide) (by decide) ?_
            refine G_iconst X0 hx (pc' := 67) rfl (hb hby d_expd_66) (z := (1 : Int32)) rfl ?_
            refine Go.fin X0 hlk (v := some (.int (1 : Int32))) (fun h => by rw [Bd.returns] at h; cases h) (by decide) (by decide) ?_ (fun fs hr => retN X0 hx (t := .boolean) Bd.returns (by simp) (hb hby d_expd_67) hr)
            show Q_expd Z v0 h0 n0 _ s₁.heap _
            rw [e0]
            exact ⟨congrArg (fun z => some (Value.int z)) (by unfold own_exp; simp [*]), N0, rfl⟩
          · refine G_icmpNo X0 hx (pc' := 48) rfl (hb hby d_expd_45) (feq hc45_53).1 ?_
            refine G_iloadN X0 hx (pc' := 49) rfl (hb hby d_expd_48) rfl ?_
            refine G_bipush X0 hx (pc' := 51) rfl (hb hby d_expd_49) (z := (46 : Int32)) rfl ?_
            by_cases hc51_54 : v0 = (46 : Int32)
            · refine G_icmpYes X0 hx (pc' := 66) (hb hby d_expd_51) (teq hc51_54).1 (by decide) (by decide) ?_
              refine G_iconst X0 hx (pc' := 67) rfl (hb hby d_expd_66) (z := (1 : Int32)) rfl ?_
              refine Go.fin X0 hlk (v := some (.int (1 : Int32))) (fun h => by rw [Bd.returns] at h; cases h) (by decide) (by decide) ?_ (fun fs hr => retN X0 hx (t := .boolean) Bd.returns (by simp) (hb hby d_expd_67) hr)
              show Q_expd Z v0 h0 n0 _ s₁.heap _
              rw [e0]
              exact ⟨congrArg (fun z => some (Value.int z)) (by unfold own_exp; simp [*]), N0, rfl⟩
            · refine G_icmpNo X0 hx (pc' := 54) rfl (hb hby d_expd_51) (feq hc51_54).1 ?_
              refine G_iloadN X0 hx (pc' := 55) rfl (hb hby d_expd_54) rfl ?_
              refine G_bipush X0 hx (pc' := 57) rfl (hb hby d_expd_55) (z := (95 : Int32)) rfl ?_
              by_cases hc57_55 : v0 = (95 : Int32)
              · refine G_icmpYes X0 hx (pc' := 66) (hb hby d_expd_57) (teq hc57_55).1 (by decide) (by decide) ?_
                refine G_iconst X0 hx (pc' := 67) rfl (hb hby d_expd_66) (z := (1 : Int32)) rfl ?_
                refine Go.fin X0 hlk (v := some (.int (1 : Int32))) (fun h => by rw [Bd.returns] at h; cases h) (by decide) (by decide) ?_ (fun fs hr => retN X0 hx (t := .boolean) Bd.returns (by simp) (hb hby d_expd_67) hr)
                show Q_expd Z v0 h0 n0 _ s₁.heap _
                rw [e0]
                exact ⟨congrArg (fun z => some (Value.int z)) (by unfold own_exp; simp [*]), N0, rfl⟩
              · refine G_icmpNo X0 hx (pc' := 60) rfl (hb hby d_expd_57) (feq hc57_55).1 ?_
                refine G_iloadN X0 hx (pc' := 61) rfl (hb hby d_expd_60) rfl ?_
                refine G_bipush X0 hx (pc' := 63) rfl (hb hby d_expd_61) (z := (126 : Int32)) rfl ?_
                by_cases hc63_56 : v0 = (126 : Int32)
                · refine G_icmpNo X0 hx (pc' := 66) rfl (hb hby d_expd_63) (teq hc63_56).2 ?_
                  refine G_iconst X0 hx (pc' := 67) rfl (hb hby d_expd_66) (z := (1 : Int32)) rfl ?_
                  refine Go.fin X0 hlk (v := some (.int (1 : Int32))) (fun h => by rw [Bd.returns] at h; cases h) (by decide) (by decide) ?_ (fun fs hr => retN X0 hx (t := .boolean) Bd.returns (by simp) (hb hby d_expd_67) hr)
                  show Q_expd Z v0 h0 n0 _ s₁.heap _
                  rw [e0]
                  exact ⟨congrArg (fun z => some (Value.int z)) (by unfold own_exp; simp [*]), N0, rfl⟩
                · refine G_icmpYes X0 hx (pc' := 68) (hb hby d_expd_63) (feq hc63_56).2 (by decide) (by decide) ?_
                  refine G_iloadN X0 hx (pc' := 69) rfl (hb hby d_expd_68) rfl ?_
                  refine G_bipush X0 hx (pc' := 71) rfl (hb hby d_expd_69) (z := (58 : Int32)) rfl ?_
                  by_cases hc71_57 : v0 = (58 : Int32)
                  · refine G_icmpYes X0 hx (pc' := 110) (hb hby d_expd_71) (teq hc71_57).1 (by decide) (by decide) ?_
                    refine G_iconst X0 hx (pc' := 111) rfl (hb hby d_expd_110) (z := (1 : Int32)) rfl ?_
                    refine Go.fin X0 hlk (v := some (.int (1 : Int32))) (fun h => by rw [Bd.returns] at h; cases h) (by decide) (by decide) ?_ (fun fs hr => retN X0 hx (t := .boolean) Bd.returns (by simp) (hb hby d_expd_111) hr)
                    show Q_expd Z v0 h0 n0 _ s₁.heap _
                    rw [e0]
                    exact ⟨congrArg (fun z => some (Value.int z)) (by unfold own_exp; simp [*]), N0, rfl⟩
                  · refine G_icmpNo X0 hx (pc' := 74) rfl (hb hby d_expd_71) (feq hc71_57).1 ?_
                    refine G_iloadN X0 hx (pc' := 75) rfl (hb hby d_expd_74) rfl ?_
                    refine G_bipush X0 hx (pc' := 77) rfl (hb hby d_expd_75) (z := (47 : Int32)) rfl ?_
                    by_cases hc77_58 : v0 = (47 : Int32)
                    · refine G_icmpYes X0 hx (pc' := 110) (hb hby d_expd_77) (teq hc77_58).1 (by decide) (by decide) ?_
                      refine G_iconst X0 hx (pc' := 111) rfl (hb hby d_expd_110) (z := (1 : Int32)) rfl ?_
                      refine Go.fin X0 hlk (v := some (.int (1 : Int32))) (fun h => by rw [Bd.returns] at h; cases h) (by decide) (by decide) ?_ (fun fs hr => retN X0 hx (t := .boolean) Bd.returns (by simp) (hb hby d_expd_111) hr)
                      show Q_expd Z v0 h0 n0 _ s₁.heap _
                      rw [e0]
                      exact ⟨congrArg (fun z => some (Value.int z)) (by unfold own_exp; simp [*]), N0, rfl⟩
                    · refine G_icmpNo X0 hx (pc' := 80) rfl (hb hby d_expd_77) (feq hc77_58).1 ?_
                      refine G_iloadN X0 hx (pc' := 81) rfl (hb hby d_expd_80) rfl ?_
                      refine G_bipush X0 hx (pc' := 83) rfl (hb hby d_expd_81) (z := (63 : Int32)) rfl ?_
                      by_cases hc83_59 : v0 = (63 : Int32)
                      · refine G_icmpYes X0 hx (pc' := 110) (hb hby d_expd_83) (teq hc83_59).1 (by decide) (by decide) ?_
                        refine G_iconst X0 hx (pc' := 111) rfl (hb hby d_expd_110) (z := (1 : Int32)) rfl ?_
                        refine Go.fin X0 hlk (v := some (.int (1 : Int32))) (fun h => by rw [Bd.returns] at h; cases h) (by decide) (by decide) ?_ (fun fs hr => retN X0 hx (t := .boolean) Bd.returns (by simp) (hb hby d_expd_111) hr)
                        show Q_expd Z v0 h0 n0 _ s₁.heap _
                        rw [e0]
                        exact ⟨congrArg (fun z => some (Value.int z)) (by unfold own_exp; simp [*]), N0, rfl⟩
                      · refine G_icmpNo X0 hx (pc' := 86) rfl (hb hby d_expd_83) (feq hc83_59).1 ?_
                        refine G_iloadN X0 hx (pc' := 87) rfl (hb hby d_expd_86) rfl ?_
                        refine G_bipush X0 hx (pc' := 89) rfl (hb hby d_expd_87) (z := (35 : Int32)) rfl ?_
                        by_cases hc89_60 : v0 = (35 : Int32)
                        · refine G_icmpYes X0 hx (pc' := 110) (hb hby d_expd_89) (teq hc89_60).1 (by decide) (by decide) ?_
                          refine G_iconst X0 hx (pc' := 111) rfl (hb hby d_expd_110) (z := (1 : Int32)) rfl ?_
                          refine Go.fin X0 hlk (v := some (.int (1 : Int32))) (fun h => by rw [Bd.returns] at h; cases h) (by decide) (by decide) ?_ (fun fs hr => retN X0 hx (t := .boolean) Bd.returns (by simp) (hb hby d_expd_111) hr)
                          show Q_expd Z v0 h0 n0 _ s₁.heap _
                          rw [e0]
                          exact ⟨congrArg (fun z => some (Value.int z)) (by unfold own_exp; simp [*]), N0, rfl⟩
                        · refine G_icmpNo X0 hx (pc' := 92) rfl (hb hby d_expd_89) (feq hc89_60).1 ?_
                          refine G_iloadN X0 hx (pc' := 93) rfl (hb hby d_expd_92) rfl ?_
                          refine G_bipush X0 hx (pc' := 95) rfl (hb hby d_expd_93) (z := (91 : Int32)) rfl ?_
                          by_cases hc95_61 : v0 = (91 : Int32)
                          · refine G_icmpYes X0 hx (pc' := 110) (hb hby d_expd_95) (teq hc95_61).1 (by decide) (by decide) ?_
                            refine G_iconst X0 hx (pc' := 111) rfl (hb hby d_expd_110) (z := (1 : Int32)) rfl ?_
                            refine Go.fin X0 hlk (v := some (.int (1 : Int32))) (fun h => by rw [Bd.returns] at h; cases h) (by decide) (by decide) ?_ (fun fs hr => retN X0 hx (t := .boolean) Bd.returns (by simp) (hb hby d_expd_111) hr)
                            show Q_expd Z v0 h0 n0 _ s₁.heap _
                            rw [e0]
                            exact ⟨congrArg (fun z => some (Value.int z)) (by unfold own_exp; simp [*]), N0, rfl⟩
                          · refine G_icmpNo X0 hx (pc' := 98) rfl (hb hby d_expd_95) (feq hc95_61).1 ?_
                            refine G_iloadN X0 hx (pc' := 99) rfl (hb hby d_expd_98) rfl ?_
                            refine G_bipush X0 hx (pc' := 101) rfl (hb hby d_expd_99) (z := (93 : Int32)) rfl ?_
                            by_cases hc101_62 : v0 = (93 : Int32)
                            · refine G_icmpYes X0 hx (pc' := 110) (hb hby d_expd_101) (teq hc101_62).1 (by decide) (by decide) ?_
                              refine G_iconst X0 hx (pc' := 111) rfl (hb hby d_expd_110) (z := (1 : Int32)) rfl ?_
                              refine Go.fin X0 hlk (v := some (.int (1 : Int32))) (fun h => by rw [Bd.returns] at h; cases h) (by decide) (by decide) ?_ (fun fs hr => retN X0 hx (t := .boolean) Bd.returns (by simp) (hb hby d_expd_111) hr)
                              show Q_expd Z v0 h0 n0 _ s₁.heap _
                              rw [e0]
                              exact ⟨congrArg (fun z => some (Value.int z)) (by unfold own_exp; simp [*]), N0, rfl⟩
                            · refine G_icmpNo X0 hx (pc' := 104) rfl (hb hby d_expd_101) (feq hc101_62).1 ?_
                              refine G_iloadN X0 hx (pc' := 105) rfl (hb hby d_expd_104) rfl ?_
                              refine G_bipush X0 hx (pc' := 107) rfl (hb hby d_expd_105) (z := (64 : Int32)) rfl ?_
                              by_cases hc107_63 : v0 = (64 : Int32)
                              · refine G_icmpNo X0 hx (pc' := 110) rfl (hb hby d_expd_107) (teq hc107_63).2 ?_
                                refine G_iconst X0 hx (pc' := 111) rfl (hb hby d_expd_110) (z := (1 : Int32)) rfl ?_
                                refine Go.fin X0 hlk (v := some (.int (1 : Int32))) (fun h => by rw [Bd.returns] at h; cases h) (by decide) (by decide) ?_ (fun fs hr => retN X0 hx (t := .boolean) Bd.returns (by simp) (hb hby d_expd_111) hr)
                                show Q_expd Z v0 h0 n0 _ s₁.heap _
                                rw [e0]
                                exact ⟨congrArg (fun z => some (Value.int z)) (by unfold own_exp; simp [*]), N0, rfl⟩
                              · refine G_icmpYes X0 hx (pc' := 112) (hb hby d_expd_107) (feq hc107_63).2 (by decide) (by decide) ?_
                                refine G_iloadN X0 hx (pc' := 113) rfl (hb hby d_expd_112) rfl ?_
                                refine G_bipush X0 hx (pc' := 115) rfl (hb hby d_expd_113) (z := (33 : Int32)) rfl ?_
                                by_cases hc115_64 : v0 = (33 : Int32)
                                · refine G_icmpYes X0 hx (pc' := 178) (hb hby d_expd_115) (teq hc115_64).1 (by decide) (by decide) ?_
                                  refine G_iconst X0 hx (pc' := 179) rfl (hb hby d_expd_178) (z := (1 : Int32)) rfl ?_
                                  refine Go.fin X0 hlk (v := some (.int (1 : Int32))) (fun h => by rw [Bd.returns] at h; cases h) (by decide) (by decide) ?_ (fun fs hr => retN X0 hx (t := .boolean) Bd.returns (by simp) (hb hby d_expd_179) hr)
                                  show Q_expd Z v0 h0 n0 _ s₁.heap _
                                  rw [e0]
                                  exact ⟨congrArg (fun z => some (Value.int z)) (by unfold own_exp; simp [*]), N0, rfl⟩
                                · refine G_icmpNo X0 hx (pc' := 118) rfl (hb hby d_expd_115) (feq hc115_64).1 ?_
                                  refine G_iloadN X0 hx (pc' := 119) rfl (hb hby d_expd_118) rfl ?_
                                  refine G_bipush X0 hx (pc' := 121) rfl (hb hby d_expd_119) (z := (36 : Int32)) rfl ?_
                                  by_cases hc121_65 : v0 = (36 : Int32)
                                  · refine G_icmpYes X0 hx (pc' := 178) (hb hby d_expd_121) (teq hc121_65).1 (by decide) (by decide) ?_
                                    refine G_iconst X0 hx (pc' := 179) rfl (hb hby d_expd_178) (z := (1 : Int32)) rfl ?_
                                    refine Go.fin X0 hlk (v := some (.int (1 : Int32))) (fun h => by rw [Bd.returns] at h; cases h) (by decide) (by decide) ?_ (fun fs hr => retN X0 hx (t := .boolean) Bd.returns (by simp) (hb hby d_expd_179) hr)
                                    show Q_expd Z v0 h0 n0 _ s₁.heap _
                                    rw [e0]
                                    exact ⟨congrArg (fun z => some (Value.int z)) (by unfold own_exp; simp [*]), N0, rfl⟩
                                  · refine G_icmpNo X0 hx (pc' := 124) rfl (hb hby d_expd_121) (feq hc121_65).1 ?_
                                    refine G_iloadN X0 hx (pc' := 125) rfl (hb hby d_expd_124) rfl ?_
                                    refine G_bipush X0 hx (pc' := 127) rfl (hb hby d_expd_125) (z := (38 : Int32)) rfl ?_
                                    by_cases hc127_66 : v0 = (38 : Int32)
                                    · refine G_icmpYes X0 hx (pc' := 178) (hb hby d_expd_127) (teq hc127_66).1 (by decide) (by decide) ?_
                                      refine G_iconst X0 hx (pc' := 179) rfl (hb hby d_expd_178) (z := (1 : Int32)) rfl ?_
                                      refine Go.fin X0 hlk (v := some (.int (1 : Int32))) (fun h => by rw [Bd.returns] at h; cases h) (by decide) (by decide) ?_ (fun fs hr => retN X0 hx (t := .boolean) Bd.returns (by simp) (hb hby d_expd_179) hr)
                                      show Q_expd Z v0 h0 n0 _ s₁.heap _
                                      rw [e0]
                                      exact ⟨congrArg (fun z => some (Value.int z)) (by unfold own_exp; simp [*]), N0, rfl⟩
                                    · refine G_icmpNo X0 hx (pc' := 130) rfl (hb hby d_expd_127) (feq hc127_66).1 ?_
                                      refine G_iloadN X0 hx (pc' := 131) rfl (hb hby d_expd_130) rfl ?_
                                      refine G_bipush X0 hx (pc' := 133) rfl (hb hby d_expd_131) (z := (39 : Int32)) rfl ?_
                                      by_cases hc133_67 : v0 = (39 : Int32)
                                      · refine G_icmpYes X0 hx (pc' := 178) (hb hby d_expd_133) (teq hc133_67).1 (by decide) (by decide) ?_
                                        refine G_iconst X0 hx (pc' := 179) rfl (hb hby d_expd_178) (z := (1 : Int32)) rfl ?_
                                        refine Go.fin X0 hlk (v := some (.int (1 : Int32))) (fun h => by rw [Bd.returns] at h; cases h) (by decide) (by decide) ?_ (fun fs hr => retN X0 hx (t := .boolean) Bd.returns (by simp) (hb hby d_expd_179) hr)
                                        show Q_expd Z v0 h0 n0 _ s₁.heap _
                                        rw [e0]
                                        exact ⟨congrArg (fun z => some (Value.int z)) (by unfold own_exp; simp [*]), N0, rfl⟩
                                      · refine G_icmpNo X0 hx (pc' := 136) rfl (hb hby d_expd_133) (feq hc133_67).1 ?_
                                        refine G_iloadN X0 hx (pc' := 137) rfl (hb hby d_expd_136) rfl ?_
                                        refine G_bipush X0 hx (pc' := 139) rfl (hb hby d_expd_137) (z := (40 : Int32)) rfl ?_
                                        by_cases hc139_68 : v0 = (40 : Int32)
                                        · refine G_icmpYes X0 hx (pc' := 178) (hb hby d_expd_139) (teq hc139_68).1 (by decide) (by decide) ?_
                                          refine G_iconst X0 hx (pc' := 179) rfl (hb hby d_expd_178) (z := (1 : Int32)) rfl ?_
                                          refine Go.fin X0 hlk (v := some (.int (1 : Int32))) (fun h => by rw [Bd.returns] at h; cases h) (by decide) (by decide) ?_ (fun fs hr => retN X0 hx (t := .boolean) Bd.returns (by simp) (hb hby d_expd_179) hr)
                                          show Q_expd Z v0 h0 n0 _ s₁.heap _
                                          rw [e0]
                                          exact ⟨congrArg (fun z => some (Value.int z)) (by unfold own_exp; simp [*]), N0, rfl⟩
                                        · refine G_icmpNo X0 hx (pc' := 142) rfl (hb hby d_expd_139) (feq hc139_68).1 ?_
                                          refine G_iloadN X0 hx (pc' := 143) rfl (hb hby d_expd_142) rfl ?_
                                          refine G_bipush X0 hx (pc' := 145) rfl (hb hby d_expd_143) (z := (41 : Int32)) rfl ?_
                                          by_cases hc145_69 : v0 = (41 : Int32)
                                          · refine G_icmpYes X0 hx (pc' := 178) (hb hby d_expd_145) (teq hc145_69).1 (by decide) (by decide) ?_
                                            refine G_iconst X0 hx (pc' := 179) rfl (hb hby d_expd_178) (z := (1 : Int32)) rfl ?_
                                            refine Go.fin X0 hlk (v := some (.int (1 : Int32))) (fun h => by rw [Bd.returns] at h; cases h) (by decide) (by decide) ?_ (fun fs hr => retN X0 hx (t := .boolean) Bd.returns (by simp) (hb hby d_expd_179) hr)
                                            show Q_expd Z v0 h0 n0 _ s₁.heap _
                                            rw [e0]
                                            exact ⟨congrArg (fun z => some (Value.int z)) (by unfold own_exp; simp [*]), N0, rfl⟩
                                          · refine G_icmpNo X0 hx (pc' := 148) rfl (hb hby d_expd_145) (feq hc145_69).1 ?_
                                            refine G_iloadN X0 hx (pc' := 149) rfl (hb hby d_expd_148) rfl ?_
                                            refine G_bipush X0 hx (pc' := 151) rfl (hb hby d_expd_149) (z := (42 : Int32)) rfl ?_
                                            by_cases hc151_70 : v0 = (42 : Int32)
                                            · refine G_icmpYes X0 hx (pc' := 178) (hb hby d_expd_151) (teq hc151_70).1 (by decide) (by decide) ?_
                                              refine G_iconst X0 hx (pc' := 179) rfl (hb hby d_expd_178) (z := (1 : Int32)) rfl ?_
                                              refine Go.fin X0 hlk (v := some (.int (1 : Int32))) (fun h => by rw [Bd.returns] at h; cases h) (by decide) (by decide) ?_ (fun fs hr => retN X0 hx (t := .boolean) Bd.returns (by simp) (hb hby d_expd_179) hr)
                                              show Q_expd Z v0 h0 n0 _ s₁.heap _
                                              rw [e0]
                                              exact ⟨congrArg (fun z => some (Value.int z)) (by unfold own_exp; simp [*]), N0, rfl⟩
                                            · refine G_icmpNo X0 hx (pc' := 154) rfl (hb hby d_expd_151) (feq hc151_70).1 ?_
                                              refine G_iloadN X0 hx (pc' := 155) rfl (hb hby d_expd_154) rfl ?_
                                              refine G_bipush X0 hx (pc' := 157) rfl (hb hby d_expd_155) (z := (43 : Int32)) rfl ?_
                                              by_cases hc157_71 : v0 = (43 : Int32)
                                              · refine G_icmpYes X0 hx (pc' := 178) (hb hby d_expd_157) (teq hc157_71).1 (by decide) (by decide) ?_
                                                refine G_iconst X0 hx (pc' := 179) rfl (hb hby d_expd_178) (z := (1 : Int32)) rfl ?_
                                                refine Go.fin X0 hlk (v := some (.int (1 : Int32))) (fun h => by rw [Bd.returns] at h; cases h) (by decide) (by decide) ?_ (fun fs hr => retN X0 hx (t := .boolean) Bd.returns (by simp) (hb hby d_expd_179) hr)
                                                show Q_expd Z v0 h0 n0 _ s₁.heap _
                                                rw [e0]
                                                exact ⟨congrArg (fun z => some (Value.int z)) (by unfold own_exp; simp [*]), N0, rfl⟩
                                              · refine G_icmpNo X0 hx (pc' := 160) rfl (hb hby d_expd_157) (feq hc157_71).1 ?_
                                                refine G_iloadN X0 hx (pc' := 161) rfl (hb hby d_expd_160) rfl ?_
                                                refine G_bipush X0 hx (pc' := 163) rfl (hb hby d_expd_161) (z := (44 : Int32)) rfl ?_
                                                by_cases hc163_72 : v0 = (44 : Int32)
                                                · refine G_icmpYes X0 hx (pc' := 178) (hb hby d_expd_163) (teq hc163_72).1 (by decide) (by decide) ?_
                                                  refine G_iconst X0 hx (pc' := 179) rfl (hb hby d_expd_178) (z := (1 : Int32)) rfl ?_
                                                  refine Go.fin X0 hlk (v := some (.int (1 : Int32))) (fun h => by rw [Bd.returns] at h; cases h) (by decide) (by decide) ?_ (fun fs hr => retN X0 hx (t := .boolean) Bd.returns (by simp) (hb hby d_expd_179) hr)
                                                  show Q_expd Z v0 h0 n0 _ s₁.heap _
                                                  rw [e0]
                                                  exact ⟨congrArg (fun z => some (Value.int z)) (by unfold own_exp; simp [*]), N0, rfl⟩
                                                · refine G_icmpNo X0 hx (pc' := 166) rfl (hb hby d_expd_163) (feq hc163_72).1 ?_
                                                  refine G_iloadN X0 hx (pc' := 167) rfl (hb hby d_expd_166) rfl ?_
                                                  refine G_bipush X0 hx (pc' := 169) rfl (hb hby d_expd_167) (z := (59 : Int32)) rfl ?_
                                                  by_cases hc169_73 : v0 = (59 : Int32)
                                                  · refine G_icmpYes X0 hx (pc' := 178) (hb hby d_expd_169) (teq hc169_73).1 (by decide) (by decide) ?_
                                                    refine G_iconst X0 hx (pc' := 179) rfl (hb hby d_expd_178) (z := (1 : Int32)) rfl ?_
                                                    refine Go.fin X0 hlk (v := some (.int (1 : Int32))) (fun h => by rw [Bd.returns] at h; cases h) (by decide) (by decide) ?_ (fun fs hr => retN X0 hx (t := .boolean) Bd.returns (by simp) (hb hby d_expd_179) hr)
                                                    show Q_expd Z v0 h0 n0 _ s₁.heap _
                                                    rw [e0]
                                                    exact ⟨congrArg (fun z => some (Value.int z)) (by unfold own_exp; simp [*]), N0, rfl⟩
                                                  · refine G_icmpNo X0 hx (pc' := 172) rfl (hb hby d_expd_169) (feq hc169_73).1 ?_
                                                    refine G_iloadN X0 hx (pc' := 173) rfl (hb hby d_expd_172) rfl ?_
                                                    refine G_bipush X0 hx (pc' := 175) rfl (hb hby d_expd_173) (z := (61 : Int32)) rfl ?_
                                                    by_cases hc175_74 : v0 = (61 : Int32)
                                                    · refine G_icmpNo X0 hx (pc' := 178) rfl (hb hby d_expd_175) (teq hc175_74).2 ?_
                                                      refine G_iconst X0 hx (pc' := 179) rfl (hb hby d_expd_178) (z := (1 : Int32)) rfl ?_
                                                      refine Go.fin X0 hlk (v := some (.int (1 : Int32))) (fun h => by rw [Bd.returns] at h; cases h) (by decide) (by decide) ?_ (fun fs hr => retN X0 hx (t := .boolean) Bd.returns (by simp) (hb hby d_expd_179) hr)
                                                      show Q_expd Z v0 h0 n0 _ s₁.heap _
                                                      rw [e0]
                                                      exact ⟨congrArg (fun z => some (Value.int z)) (by unfold own_exp; simp [*]), N0, rfl⟩
                                                    · refine G_icmpYes X0 hx (pc' := 180) (hb hby d_expd_175) (feq hc175_74).2 (by decide) (by decide) ?_
                                                      refine G_iloadN X0 hx (pc' := 181) rfl (hb hby d_expd_180) rfl ?_
                                                      refine G_bipush X0 hx (pc' := 183) rfl (hb hby d_expd_181) (z := (37 : Int32)) rfl ?_
                                                      by_cases hc183_75 : v0 = (37 : Int32)
                                                      · refine G_icmpNo X0 hx (pc' := 186) rfl (hb hby d_expd_183) (teq hc183_75).2 ?_
                                                        refine G_iconst X0 hx (pc' := 187) rfl (hb hby d_expd_186) (z := (1 : Int32)) rfl ?_
                                                        refine Go.fin X0 hlk (v := some (.int (1 : Int32))) (fun h => by rw [Bd.returns] at h; cases h) (by decide) (by decide) ?_ (fun fs hr => retN X0 hx (t := .boolean) Bd.returns (by simp) (hb hby d_expd_187) hr)
                                                        show Q_expd Z v0 h0 n0 _ s₁.heap _
                                                        rw [e0]
                                                        exact ⟨congrArg (fun z => some (Value.int z)) (by unfold own_exp; simp [*]), N0, rfl⟩
                                                      · refine G_icmpYes X0 hx (pc' := 188) (hb hby d_expd_183) (feq hc183_75).2 (by decide) (by decide) ?_
                                                        refine G_iconst X0 hx (pc' := 189) rfl (hb hby d_expd_188) (z := (0 : Int32)) rfl ?_
                                                        refine Go.fin X0 hlk (v := some (.int (0 : Int32))) (fun h => by rw [Bd.returns] at h; cases h) (by decide) (by decide) ?_ (fun fs hr => retN X0 hx (t := .boolean) Bd.returns (by simp) (hb hby d_expd_189) hr)
                                                        show Q_expd Z v0 h0 n0 _ s₁.heap _
                                                        rw [e0]
                                                        exact ⟨congrArg (fun z => some (Value.int z)) (by unfold own_exp; simp [*]), N0, rfl⟩
        · refine G_icmpNo X0 hx (pc' := 34) rfl (hb hby d_expd_31) (flt hc31_52).1 ?_
          refine G_iloadN X0 hx (pc' := 35) rfl (hb hby d_expd_34) rfl ?_
          refine G_bipush X0 hx (pc' := 37) rfl (hb hby d_expd_35) (z := (57 : Int32)) rfl ?_
          by_cases hc37_76 : (57 : Int32) < v0
          · refine G_icmpYes X0 hx (pc' := 42) (hb hby d_expd_37) (tlt hc37_76).2.2.1 (by decide) (by decide) ?_
            refine G_iloadN X0 hx (pc' := 43) rfl (hb hby d_expd_42) rfl ?_
            refine G_bipush X0 hx (pc' := 45) rfl (hb hby d_expd_43) (z := (45 : Int32)) rfl ?_
            by_cases hc45_77 : v0 = (45 : Int32)
            · refine G_icmpYes X0 hx (pc' := 66) (hb hby d_expd_45) (teq hc45_77).1 (by decide) (by decide) ?_
              refine G_iconst X0 hx (pc' := 67) rfl (hb hby d_expd_66) (z := (1 : Int32)) rfl ?_
              refine Go.fin X0 hlk (v := some (.int (1 : Int32))) (fun h => by rw [Bd.returns] at h; cases h) (by decide) (by decide) ?_ (fun fs hr => retN X0 hx (t := .boolean) Bd.returns (by simp) (hb hby d_expd_67) hr)
              show Q_expd Z v0 h0 n0 _ s₁.heap _
              rw [e0]
              exact ⟨congrArg (fun z => some (Value.int z)) (by unfold own_exp; simp [*]), N0, rfl⟩
            · refine G_icmpNo X0 hx (pc' := 48) rfl (hb hby d_expd_45) (feq hc45_77).1 ?_
              refine G_iloadN X0 hx (pc' := 49) rfl (hb hby d_expd_48) rfl ?_
              refine G_bipush X0 hx (pc' := 51) rfl (hb hby d_expd_49) (z := (46 : Int32)) rfl ?_
              by_cases hc51_78 : v0 = (46 : Int32)
              · refine G_icmpYes X0 hx (pc' := 66) (hb hby d_expd_51) (teq hc51_78).1 (by decide) (by decide) ?_
                refine G_iconst X0 hx (pc' := 67) rfl (hb hby d_expd_66) (z := (1 : Int32)) rfl ?_
                refine Go.fin X0 hlk (v := some (.int (1 : Int32))) (fun h => by rw [Bd.returns] at h; cases h) (by decide) (by decide) ?_ (fun fs hr => retN X0 hx (t := .boolean) Bd.returns (by simp) (hb hby d_expd_67) hr)
                show Q_expd Z v0 h0 n0 _ s₁.heap _
                rw [e0]
                exact ⟨congrArg (fun z => some (Value.int z)) (by unfold own_exp; simp [*]), N0, rfl⟩
              · refine G_icmpNo X0 hx (pc' := 54) rfl (hb hby d_expd_51) (feq hc51_78).1 ?_
                refine G_iloadN X0 hx (pc' := 55) rfl (hb hby d_expd_54) rfl ?_
                refine G_bipush X0 hx (pc' := 57) rfl (hb hby d_expd_55) (z := (95 : Int32)) rfl ?_
                by_cases hc57_79 : v0 = (95 : Int32)
                · refine G_icmpYes X0 hx (pc' := 66) (hb hby d_expd_57) (teq hc57_79).1 (by decide) (by decide) ?_
                  refine G_iconst X0 hx (pc' := 67) rfl (hb hby d_expd_66) (z := (1 : Int32)) rfl ?_
                  refine Go.fin X0 hlk (v := some (.int (1 : Int32))) (fun h => by rw [Bd.returns] at h; cases h) (by decide) (by decide) ?_ (fun fs hr => retN X0 hx (t := .boolean) Bd.returns (by simp) (hb hby d_expd_67) hr)
                  show Q_expd Z v0 h0 n0 _ s₁.heap _
                  rw [e0]
                  exact ⟨congrArg (fun z => some (Value.int z)) (by unfold own_exp; simp [*]), N0, rfl⟩
                · refine G_icmpNo X0 hx (pc' := 60) rfl (hb hby d_expd_57) (feq hc57_79).1 ?_
                  refine G_iloadN X0 hx (pc' := 61) rfl (hb hby d_expd_60) rfl ?_
                  refine G_bipush X0 hx (pc' := 63) rfl (hb hby d_expd_61) (z := (126 : Int32)) rfl ?_
                  by_cases hc63_80 : v0 = (126 : Int32)
                  · refine G_icmpNo X0 hx (pc' := 66) rfl (hb hby d_expd_63) (teq hc63_80).2 ?_
                    refine G_iconst X0 hx (pc' := 67) rfl (hb hby d_expd_66) (z := (1 : Int32)) rfl ?_
                    refine Go.fin X0 hlk (v := some (.int (1 : Int32))) (fun h => by rw [Bd.returns] at h; cases h) (by decide) (by decide) ?_ (fun fs hr => retN X0 hx (t := .boolean) Bd.returns (by simp) (hb hby d_expd_67) hr)
                    show Q_expd Z v0 h0 n0 _ s₁.heap _
                    rw [e0]
                    exact ⟨congrArg (fun z => some (Value.int z)) (by unfold own_exp; simp [*]), N0, rfl⟩
                  · refine G_icmpYes X0 hx (pc' := 68) (hb hby d_expd_63) (feq hc63_80).2 (by decide) (by decide) ?_
                    refine G_iloadN X0 hx (pc' := 69) rfl (hb hby d_expd_68) rfl ?_
                    refine G_bipush X0 hx (pc' := 71) rfl (hb hby d_expd_69) (z := (58 : Int32)) rfl ?_
                    by_cases hc71_81 : v0 = (58 : Int32)
                    · refine G_icmpYes X0 hx (pc' := 110) (hb hby d_expd_71) (teq hc71_81).1 (by decide) (by decide) ?_
                      refine G_iconst X0 hx (pc' := 111) rfl (hb hby d_expd_110) (z := (1 : Int32)) rfl ?_
                      refine Go.fin X0 hlk (v := some (.int (1 : Int32))) (fun h => by rw [Bd.returns] at h; cases h) (by decide) (by decide) ?_ (fun fs hr => retN X0 hx (t := .boolean) Bd.returns (by simp) (hb hby d_expd_111) hr)
                      show Q_expd Z v0 h0 n0 _ s₁.heap _
                      rw [e0]
                      exact ⟨congrArg (fun z => some (Value.int z)) (by unfold own_exp; simp [*]), N0, rfl⟩
                    · refine G_icmpNo X0 hx (pc' := 74) rfl (hb hby d_expd_71) (feq hc71_81).1 ?_
                      refine G_iloadN X0 hx (pc' := 75) rfl (hb hby d_expd_74) rfl ?_
                      refine G_bipush X0 hx (pc' := 77) rfl (hb hby d_expd_75) (z := (47 : Int32)) rfl ?_
                      by_cases hc77_82 : v0 = (47 : Int32)
                      · refine G_icmpYes X0 hx (pc' := 110) (hb hby d_expd_77) (teq hc77_82).1 (by decide) (by decide) ?_
                        refine G_iconst X0 hx (pc' := 111) rfl (hb hby d_expd_110) (z := (1 : Int32)) rfl ?_
                        refine Go.fin X0 hlk (v := some (.int (1 : Int32))) (fun h => by rw [Bd.returns] at h; cases h) (by decide) (by decide) ?_ (fun fs hr => retN X0 hx (t := .boolean) Bd.returns (by simp) (hb hby d_expd_111) hr)
                        show Q_expd Z v0 h0 n0 _ s₁.heap _
                        rw [e0]
                        exact ⟨congrArg (fun z => some (Value.int z)) (by unfold own_exp; simp [*]), N0, rfl⟩
                      · refine G_icmpNo X0 hx (pc' := 80) rfl (hb hby d_expd_77) (feq hc77_82).1 ?_
                        refine G_iloadN X0 hx (pc' := 81) rfl (hb hby d_expd_80) rfl ?_
                        refine G_bipush X0 hx (pc' := 83) rfl (hb hby d_expd_81) (z := (63 : Int32)) rfl ?_
                        by_cases hc83_83 : v0 = (63 : Int32)
                        · refine G_icmpYes X0 hx (pc' := 110) (hb hby d_expd_83) (teq hc83_83).1 (by decide) (by decide) ?_
                          refine G_iconst X0 hx (pc' := 111) rfl (hb hby d_expd_110) (z := (1 : Int32)) rfl ?_
                          refine Go.fin X0 hlk (v := some (.int (1 : Int32))) (fun h => by rw [Bd.returns] at h; cases h) (by decide) (by decide) ?_ (fun fs hr => retN X0 hx (t := .boolean) Bd.returns (by simp) (hb hby d_expd_111) hr)
                          show Q_expd Z v0 h0 n0 _ s₁.heap _
                          rw [e0]
                          exact ⟨congrArg (fun z => some (Value.int z)) (by unfold own_exp; simp [*]), N0, rfl⟩
                        · refine G_icmpNo X0 hx (pc' := 86) rfl (hb hby d_expd_83) (feq hc83_83).1 ?_
                          refine G_iloadN X0 hx (pc' := 87) rfl (hb hby d_expd_86) rfl ?_
                          refine G_bipush X0 hx (pc' := 89) rfl (hb hby d_expd_87) (z := (35 : Int32)) rfl ?_
                          by_cases hc89_84 : v0 = (35 : Int32)
                          · refine G_icmpYes X0 hx (pc' := 110) (hb hby d_expd_89) (teq hc89_84).1 (by decide) (by decide) ?_
                            refine G_iconst X0 hx (pc' := 111) rfl (hb hby d_expd_110) (z := (1 : Int32)) rfl ?_
                            refine Go.fin X0 hlk (v := some (.int (1 : Int32))) (fun h => by rw [Bd.returns] at h; cases h) (by decide) (by decide) ?_ (fun fs hr => retN X0 hx (t := .boolean) Bd.returns (by simp) (hb hby d_expd_111) hr)
                            show Q_expd Z v0 h0 n0 _ s₁.heap _
                            rw [e0]
                            exact ⟨congrArg (fun z => some (Value.int z)) (by unfold own_exp; simp [*]), N0, rfl⟩
                          · refine G_icmpNo X0 hx (pc' := 92) rfl (hb hby d_expd_89) (feq hc89_84).1 ?_
                            refine G_iloadN X0 hx (pc' := 93) rfl (hb hby d_expd_92) rfl ?_
                            refine G_bipush X0 hx (pc' := 95) rfl (hb hby d_expd_93) (z := (91 : Int32)) rfl ?_
                            by_cases hc95_85 : v0 = (91 : Int32)
                            · refine G_icmpYes X0 hx (pc' := 110) (hb hby d_expd_95) (teq hc95_85).1 (by decide) (by decide) ?_
                              refine G_iconst X0 hx (pc' := 111) rfl (hb hby d_expd_110) (z := (1 : Int32)) rfl ?_
                              refine Go.fin X0 hlk (v := some (.int (1 : Int32))) (fun h => by rw [Bd.returns] at h; cases h) (by decide) (by decide) ?_ (fun fs hr => retN X0 hx (t := .boolean) Bd.returns (by simp) (hb hby d_expd_111) hr)
                              show Q_expd Z v0 h0 n0 _ s₁.heap _
                              rw [e0]
                              exact ⟨congrArg (fun z => some (Value.int z)) (by unfold own_exp; simp [*]), N0, rfl⟩
                            · refine G_icmpNo X0 hx (pc' := 98) rfl (hb hby d_expd_95) (feq hc95_85).1 ?_
                              refine G_iloadN X0 hx (pc' := 99) rfl (hb hby d_expd_98) rfl ?_
                              refine G_bipush X0 hx (pc' := 101) rfl (hb hby d_expd_99) (z := (93 : Int32)) rfl ?_
                              by_cases hc101_86 : v0 = (93 : Int32)
                              · refine G_icmpYes X0 hx (pc' := 110) (hb hby d_expd_101) (teq hc101_86).1 (by decide) (by decide) ?_
                                refine G_iconst X0 hx (pc' := 111) rfl (hb hby d_expd_110) (z := (1 : Int32)) rfl ?_
                                refine Go.fin X0 hlk (v := some (.int (1 : Int32))) (fun h => by rw [Bd.returns] at h; cases h) (by decide) (by decide) ?_ (fun fs hr => retN X0 hx (t := .boolean) Bd.returns (by simp) (hb hby d_expd_111) hr)
                                show Q_expd Z v0 h0 n0 _ s₁.heap _
                                rw [e0]
                                exact ⟨congrArg (fun z => some (Value.int z)) (by unfold own_exp; simp [*]), N0, rfl⟩
                              · refine G_icmpNo X0 hx (pc' := 104) rfl (hb hby d_expd_101) (feq hc101_86).1 ?_
                                refine G_iloadN X0 hx (pc' := 105) rfl (hb hby d_expd_104) rfl ?_
                                refine G_bipush X0 hx (pc' := 107) rfl (hb hby d_expd_105) (z := (64 : Int32)) rfl ?_
                                by_cases hc107_87 : v0 = (64 : Int32)
                                · refine G_icmpNo X0 hx (pc' := 110) rfl (hb hby d_expd_107) (teq hc107_87).2 ?_
                                  refine G_iconst X0 hx (pc' := 111) rfl (hb hby d_expd_110) (z := (1 : Int32)) rfl ?_
                                  refine Go.fin X0 hlk (v := some (.int (1 : Int32))) (fun h => by rw [Bd.returns] at h; cases h) (by decide) (by decide) ?_ (fun fs hr => retN X0 hx (t := .boolean) Bd.returns (by simp) (hb hby d_expd_111) hr)
                                  show Q_expd Z v0 h0 n0 _ s₁.heap _
                                  rw [e0]
                                  exact ⟨congrArg (fun z => some (Value.int z)) (by unfold own_exp; simp [*]), N0, rfl⟩
                                · refine G_icmpYes X0 hx (pc' := 112) (hb hby d_expd_107) (feq hc107_87).2 (by decide) (by decide) ?_
                                  refine G_iloadN X0 hx (pc' := 113) rfl (hb hby d_expd_112) rfl ?_
                                  refine G_bipush X0 hx (pc' := 115) rfl (hb hby d_expd_113) (z := (33 : Int32)) rfl ?_
                                  by_cases hc115_88 : v0 = (33 : Int32)
                                  · refine G_icmpYes X0 hx (pc' := 178) (hb hby d_expd_115) (teq hc115_88).1 (by decide) (by decide) ?_
                                    refine G_iconst X0 hx (pc' := 179) rfl (hb hby d_expd_178) (z := (1 : Int32)) rfl ?_
                                    refine Go.fin X0 hlk (v := some (.int (1 : Int32))) (fun h => by rw [Bd.returns] at h; cases h) (by decide) (by decide) ?_ (fun fs hr => retN X0 hx (t := .boolean) Bd.returns (by simp) (hb hby d_expd_179) hr)
                                    show Q_expd Z v0 h0 n0 _ s₁.heap _
                                    rw [e0]
                                    exact ⟨congrArg (fun z => some (Value.int z)) (by unfold own_exp; simp [*]), N0, rfl⟩
                                  · refine G_icmpNo X0 hx (pc' := 118) rfl (hb hby d_expd_115) (feq hc115_88).1 ?_
                                    refine G_iloadN X0 hx (pc' := 119) rfl (hb hby d_expd_118) rfl ?_
                                    refine G_bipush X0 hx (pc' := 121) rfl (hb hby d_expd_119) (z := (36 : Int32)) rfl ?_
                                    by_cases hc121_89 : v0 = (36 : Int32)
                                    · refine G_icmpYes X0 hx (pc' := 178) (hb hby d_expd_121) (teq hc121_89).1 (by decide) (by decide) ?_
                                      refine G_iconst X0 hx (pc' := 179) rfl (hb hby d_expd_178) (z := (1 : Int32)) rfl ?_
                                      refine Go.fin X0 hlk (v := some (.int (1 : Int32))) (fun h => by rw [Bd.returns] at h; cases h) (by decide) (by decide) ?_ (fun fs hr => retN X0 hx (t := .boolean) Bd.returns (by simp) (hb hby d_expd_179) hr)
                                      show Q_expd Z v0 h0 n0 _ s₁.heap _
                                      rw [e0]
                                      exact ⟨congrArg (fun z => some (Value.int z)) (by unfold own_exp; simp [*]), N0, rfl⟩
                                    · refine G_icmpNo X0 hx (pc' := 124) rfl (hb hby d_expd_121) (feq hc121_89).1 ?_
                                      refine G_iloadN X0 hx (pc' := 125) rfl (hb hby d_expd_124) rfl ?_
                                      refine G_bipush X0 hx (pc' := 127) rfl (hb hby d_expd_125) (z := (38 : Int32)) rfl ?_
                                      by_cases hc127_90 : v0 = (38 : Int32)
                                      · refine G_icmpYes X0 hx (pc' := 178) (hb hby d_expd_127) (teq hc127_90).1 (by decide) (by decide) ?_
                                        refine G_iconst X0 hx (pc' := 179) rfl (hb hby d_expd_178) (z := (1 : Int32)) rfl ?_
                                        refine Go.fin X0 hlk (v := some (.int (1 : Int32))) (fun h => by rw [Bd.returns] at h; cases h) (by decide) (by decide) ?_ (fun fs hr => retN X0 hx (t := .boolean) Bd.returns (by simp) (hb hby d_expd_179) hr)
                                        show Q_expd Z v0 h0 n0 _ s₁.heap _
                                        rw [e0]
                                        exact ⟨congrArg (fun z => some (Value.int z)) (by unfold own_exp; simp [*]), N0, rfl⟩
                                      · refine G_icmpNo X0 hx (pc' := 130) rfl (hb hby d_expd_127) (feq hc127_90).1 ?_
                                        refine G_iloadN X0 hx (pc' := 131) rfl (hb hby d_expd_130) rfl ?_
                                        refine G_bipush X0 hx (pc' := 133) rfl (hb hby d_expd_131) (z := (39 : Int32)) rfl ?_
                                        by_cases hc133_91 : v0 = (39 : Int32)
                                        · refine G_icmpYes X0 hx (pc' := 178) (hb hby d_expd_133) (teq hc133_91).1 (by decide) (by decide) ?_
                                          refine G_iconst X0 hx (pc' := 179) rfl (hb hby d_expd_178) (z := (1 : Int32)) rfl ?_
                                          refine Go.fin X0 hlk (v := some (.int (1 : Int32))) (fun h => by rw [Bd.returns] at h; cases h) (by decide) (by decide) ?_ (fun fs hr => retN X0 hx (t := .boolean) Bd.returns (by simp) (hb hby d_expd_179) hr)
                                          show Q_expd Z v0 h0 n0 _ s₁.heap _
                                          rw [e0]
                                          exact ⟨congrArg (fun z => some (Value.int z)) (by unfold own_exp; simp [*]), N0, rfl⟩
                                        · refine G_icmpNo X0 hx (pc' := 136) rfl (hb hby d_expd_133) (feq hc133_91).1 ?_
                                          refine G_iloadN X0 hx (pc' := 137) rfl (hb hby d_expd_136) rfl ?_
                                          refine G_bipush X0 hx (pc' := 139) rfl (hb hby d_expd_137) (z := (40 : Int32)) rfl ?_
                                          by_cases hc139_92 : v0 = (40 : Int32)
                                          · refine G_icmpYes X0 hx (pc' := 178) (hb hby d_expd_139) (teq hc139_92).1 (by decide) (by decide) ?_
                                            refine G_iconst X0 hx (pc' := 179) rfl (hb hby d_expd_178) (z := (1 : Int32)) rfl ?_
                                            refine Go.fin X0 hlk (v := some (.int (1 : Int32))) (fun h => by rw [Bd.returns] at h; cases h) (by decide) (by decide) ?_ (fun fs hr => retN X0 hx (t := .boolean) Bd.returns (by simp) (hb hby d_expd_179) hr)
                                            show Q_expd Z v0 h0 n0 _ s₁.heap _
                                            rw [e0]
                                            exact ⟨congrArg (fun z => some (Value.int z)) (by unfold own_exp; simp [*]), N0, rfl⟩
                                          · refine G_icmpNo X0 hx (pc' := 142) rfl (hb hby d_expd_139) (feq hc139_92).1 ?_
                                            refine G_iloadN X0 hx (pc' := 143) rfl (hb hby d_expd_142) rfl ?_
                                            refine G_bipush X0 hx (pc' := 145) rfl (hb hby d_expd_143) (z := (41 : Int32)) rfl ?_
                                            by_cases hc145_93 : v0 = (41 : Int32)
                                            · refine G_icmpYes X0 hx (pc' := 178) (hb hby d_expd_145) (teq hc145_93).1 (by decide) (by decide) ?_
                                              refine G_iconst X0 hx (pc' := 179) rfl (hb hby d_expd_178) (z := (1 : Int32)) rfl ?_
                                              refine Go.fin X0 hlk (v := some (.int (1 : Int32))) (fun h => by rw [Bd.returns] at h; cases h) (by decide) (by decide) ?_ (fun fs hr => retN X0 hx (t := .boolean) Bd.returns (by simp) (hb hby d_expd_179) hr)
                                              show Q_expd Z v0 h0 n0 _ s₁.heap _
                                              rw [e0]
                                              exact ⟨congrArg (fun z => some (Value.int z)) (by unfold own_exp; simp [*]), N0, rfl⟩
                                            · refine G_icmpNo X0 hx (pc' := 148) rfl (hb hby d_expd_145) (feq hc145_93).1 ?_
                                              refine G_iloadN X0 hx (pc' := 149) rfl (hb hby d_expd_148) rfl ?_
                                              refine G_bipush X0 hx (pc' := 151) rfl (hb hby d_expd_149) (z := (42 : Int32)) rfl ?_
                                              by_cases hc151_94 : v0 = (42 : Int32)
                                              · refine G_icmpYes X0 hx (pc' := 178) (hb hby d_expd_151) (teq hc151_94).1 (by decide) (by decide) ?_
                                                refine G_iconst X0 hx (pc' := 179) rfl (hb hby d_expd_178) (z := (1 : Int32)) rfl ?_
                                                refine Go.fin X0 hlk (v := some (.int (1 : Int32))) (fun h => by rw [Bd.returns] at h; cases h) (by decide) (by decide) ?_ (fun fs hr => retN X0 hx (t := .boolean) Bd.returns (by simp) (hb hby d_expd_179) hr)
                                                show Q_expd Z v0 h0 n0 _ s₁.heap _
                                                rw [e0]
                                                exact ⟨congrArg (fun z => some (Value.int z)) (by unfold own_exp; simp [*]), N0, rfl⟩
                                              · refine G_icmpNo X0 hx (pc' := 154) rfl (hb hby d_expd_151) (feq hc151_94).1 ?_
                                                refine G_iloadN X0 hx (pc' := 155) rfl (hb hby d_expd_154) rfl ?_
                                                refine G_bipush X0 hx (pc' := 157) rfl (hb hby d_expd_155) (z := (43 : Int32)) rfl ?_
                                                by_cases hc157_95 : v0 = (43 : Int32)
                                                · refine G_icmpYes X0 hx (pc' := 178) (hb hby d_expd_157) (teq hc157_95).1 (by decide) (by decide) ?_
                                                  refine G_iconst X0 hx (pc' := 179) rfl (hb hby d_expd_178) (z := (1 : Int32)) rfl ?_
                                                  refine Go.fin X0 hlk (v := some (.int (1 : Int32))) (fun h => by rw [Bd.returns] at h; cases h) (by decide) (by decide) ?_ (fun fs hr => retN X0 hx (t := .boolean) Bd.returns (by simp) (hb hby d_expd_179) hr)
                                                  show Q_expd Z v0 h0 n0 _ s₁.heap _
                                                  rw [e0]
                                                  exact ⟨congrArg (fun z => some (Value.int z)) (by unfold own_exp; simp [*]), N0, rfl⟩
                                                · refine G_icmpNo X0 hx (pc' := 160) rfl (hb hby d_expd_157) (feq hc157_95).1 ?_
                                                  refine G_iloadN X0 hx (pc' := 161) rfl (hb hby d_expd_160) rfl ?_
                                                  refine G_bipush X0 hx (pc' := 163) rfl (hb hby d_expd_161) (z := (44 : Int32)) rfl ?_
                                                  by_cases hc163_96 : v0 = (44 : Int32)
                                                  · refine G_icmpYes X0 hx (pc' := 178) (hb hby d_expd_163) (teq hc163_96).1 (by decide) (by decide) ?_
                                                    refine G_iconst X0 hx (pc' := 179) rfl (hb hby d_expd_178) (z := (1 : Int32)) rfl ?_
                                                    refine Go.fin X0 hlk (v := some (.int (1 : Int32))) (fun h => by rw [Bd.returns] at h; cases h) (by decide) (by decide) ?_ (fun fs hr => retN X0 hx (t := .boolean) Bd.returns (by simp) (hb hby d_expd_179) hr)
                                                    show Q_expd Z v0 h0 n0 _ s₁.heap _
                                                    rw [e0]
                                                    exact ⟨congrArg (fun z => some (Value.int z)) (by unfold own_exp; simp [*]), N0, rfl⟩
                                                  · refine G_icmpNo X0 hx (pc' := 166) rfl (hb hby d_expd_163) (feq hc163_96).1 ?_
                                                    refine G_iloadN X0 hx (pc' := 167) rfl (hb hby d_expd_166) rfl ?_
                                                    refine G_bipush X0 hx (pc' := 169) rfl (hb hby d_expd_167) (z := (59 : Int32)) rfl ?_
                                                    by_cases hc169_97 : v0 = (59 : Int32)
                                                    · refine G_icmpYes X0 hx (pc' := 178) (hb hby d_expd_169) (teq hc169_97).1 (by decide) (by decide) ?_
                                                      refine G_iconst X0 hx (pc' := 179) rfl (hb hby d_expd_178) (z := (1 : Int32)) rfl ?_
                                                      refine Go.fin X0 hlk (v := some (.int (1 : Int32))) (fun h => by rw [Bd.returns] at h; cases h) (by decide) (by decide) ?_ (fun fs hr => retN X0 hx (t := .boolean) Bd.returns (by simp) (hb hby d_expd_179) hr)
                                                      show Q_expd Z v0 h0 n0 _ s₁.heap _
                                                      rw [e0]
                                                      exact ⟨congrArg (fun z => some (Value.int z)) (by unfold own_exp; simp [*]), N0, rfl⟩
                                                    · refine G_icmpNo X0 hx (pc' := 172) rfl (hb hby d_expd_169) (feq hc169_97).1 ?_
                                                      refine G_iloadN X0 hx (pc' := 173) rfl (hb hby d_expd_172) rfl ?_
                                                      refine G_bipush X0 hx (pc' := 175) rfl (hb hby d_expd_173) (z := (61 : Int32)) rfl ?_
                                                      by_cases hc175_98 : v0 = (61 : Int32)
                                                      · refine G_icmpNo X0 hx (pc' := 178) rfl (hb hby d_expd_175) (teq hc175_98).2 ?_
                                                        refine G_iconst X0 hx (pc' := 179) rfl (hb hby d_expd_178) (z := (1 : Int32)) rfl ?_
                                                        refine Go.fin X0 hlk (v := some (.int (1 : Int32))) (fun h => by rw [Bd.returns] at h; cases h) (by decide) (by decide) ?_ (fun fs hr => retN X0 hx (t := .boolean) Bd.returns (by simp) (hb hby d_expd_179) hr)
                                                        show Q_expd Z v0 h0 n0 _ s₁.heap _
                                                        rw [e0]
                                                        exact ⟨congrArg (fun z => some (Value.int z)) (by unfold own_exp; simp [*]), N0, rfl⟩
                                                      · refine G_icmpYes X0 hx (pc' := 180) (hb hby d_expd_175) (feq hc175_98).2 (by decide) (by decide) ?_
                                                        refine G_iloadN X0 hx (pc' := 181) rfl (hb hby d_expd_180) rfl ?_
                                                        refine G_bipush X0 hx (pc' := 183) rfl (hb hby d_expd_181) (z := (37 : Int32)) rfl ?_
                                                        by_cases hc183_99 : v0 = (37 : Int32)
                                                        · refine G_icmpNo X0 hx (pc' := 186) rfl (hb hby d_expd_183) (teq hc183_99).2 ?_
                                                          refine G_iconst X0 hx (pc' := 187) rfl (hb hby d_expd_186) (z := (1 : Int32)) rfl ?_
                                                          refine Go.fin X0 hlk (v := some (.int (1 : Int32))) (fun h => by rw [Bd.returns] at h; cases h) (by decide) (by decide) ?_ (fun fs hr => retN X0 hx (t := .boolean) Bd.returns (by simp) (hb hby d_expd_187) hr)
                                                          show Q_expd Z v0 h0 n0 _ s₁.heap _
                                                          rw [e0]
                                                          exact ⟨congrArg (fun z => some (Value.int z)) (by unfold own_exp; simp [*]), N0, rfl⟩
                                                        · refine G_icmpYes X0 hx (pc' := 188) (hb hby d_expd_183) (feq hc183_99).2 (by decide) (by decide) ?_
                                                          refine G_iconst X0 hx (pc' := 189) rfl (hb hby d_expd_188) (z := (0 : Int32)) rfl ?_
                                                          refine Go.fin X0 hlk (v := some (.int (0 : Int32))) (fun h => by rw [Bd.returns] at h; cases h) (by decide) (by decide) ?_ (fun fs hr => retN X0 hx (t := .boolean) Bd.returns (by simp) (hb hby d_expd_189) hr)
                                                          show Q_expd Z v0 h0 n0 _ s₁.heap _
                                                          rw [e0]
                                                          exact ⟨congrArg (fun z => some (Value.int z)) (by unfold own_exp; simp [*]), N0, rfl⟩
          · refine G_icmpNo X0 hx (pc' := 40) rfl (hb hby d_expd_37) (flt hc37_76).2.2.1 ?_
            refine G_iconst X0 hx (pc' := 41) rfl (hb hby d_expd_40) (z := (1 : Int32)) rfl ?_
            refine Go.fin X0 hlk (v := some (.int (1 : Int32))) (fun h => by rw [Bd.returns] at h; cases h) (by decide) (by decide) ?_ (fun fs hr => retN X0 hx (t := .boolean) Bd.returns (by simp) (hb hby d_expd_41) hr)
            show Q_expd Z v0 h0 n0 _ s₁.heap _
            rw [e0]
            exact ⟨congrArg (fun z => some (Value.int z)) (by unfold own_exp; simp [*]), N0, rfl⟩
      · refine G_icmpNo X0 hx (pc' := 26) rfl (hb hby d_expd_23) (flt hc23_51).2.2.1 ?_
        refine G_iconst X0 hx (pc' := 27) rfl (hb hby d_expd_26) (z := (1 : Int32)) rfl ?_
        refine Go.fin X0 hlk (v := some (.int (1 : Int32))) (fun h => by rw [Bd.returns] at h; cases h) (by decide) (by decide) ?_ (fun fs hr => retN X0 hx (t := .boolean) Bd.returns (by simp) (hb hby d_expd_27) hr)
        show Q_expd Z v0 h0 n0 _ s₁.heap _
        rw [e0]
        exact ⟨congrArg (fun z => some (Value.int z)) (by unfold own_exp; simp [*]), N0, rfl⟩
  · refine G_icmpNo X0 hx (pc' := 6) rfl (hb hby d_expd_3) (flt hc3_1).1 ?_
    refine G_iloadN X0 hx (pc' := 7) rfl (hb hby d_expd_6) rfl ?_
    refine G_bipush X0 hx (pc' := 9) rfl (hb hby d_expd_7) (z := (90 : Int32)) rfl ?_
    by_cases hc9_100 : (90 : Int32) < v0
    · refine G_icmpYes X0 hx (pc' := 14) (hb hby d_expd_9) (tlt hc9_100).2.2.1 (by decide) (by decide) ?_
      refine G_iloadN X0 hx (pc' := 15) rfl (hb hby d_expd_14) rfl ?_
      refine G_bipush X0 hx (pc' := 17) rfl (hb hby d_expd_15) (z := (97 : Int32)) rfl ?_
      by_cases hc17_101 : v0 < (97 : Int32)
      · refine G_icmpYes X0 hx (pc' := 28) (hb hby d_expd_17) (tlt hc17_101).1 (by decide) (by decide) ?_
        refine G_iloadN X0 hx (pc' := 29) rfl (hb hby d_expd_28) rfl ?_
        refine G_bipush X0 hx (pc' := 31) rfl (hb hby d_expd_29) (z := (48 : Int32)) rfl ?_
        by_cases hc31_102 : v0 < (48 : Int32)
        · refine G_icmpYes X0 hx (pc' := 42) (hb hby d_expd_31) (tlt hc31_102).1 (by decide) (by decide) ?_
          refine G_iloadN X0 hx (pc' := 43) rfl (hb hby d_expd_42) rfl ?_
          refine G_bipush X0 hx (pc' := 45) rfl (hb hby d_expd_43) (z := (45 : Int32)) rfl ?_
          by_cases hc45_103 : v0 = (45 : Int32)
          · refine G_icmpYes X0 hx (pc' := 66) (hb hby d_expd_45) (teq hc45_103).1 (by decide) (by decide) ?_
            refine G_iconst X0 hx (pc' := 67) rfl (hb hby d_expd_66) (z := (1 : Int32)) rfl ?_
            refine Go.fin X0 hlk (v := some (.int (1 : Int32))) (fun h => by rw [Bd.returns] at h; cases h) (by decide) (by decide) ?_ (fun fs hr => retN X0 hx (t := .boolean) Bd.returns (by simp) (hb hby d_expd_67) hr)
            show Q_expd Z v0 h0 n0 _ s₁.heap _
            rw [e0]
            exact ⟨congrArg (fun z => some (Value.int z)) (by unfold own_exp; simp [*]), N0, rfl⟩
          · refine G_icmpNo X0 hx (pc' := 48) rfl (hb hby d_expd_45) (feq hc45_103).1 ?_
            refine G_iloadN X0 hx (pc' := 49) rfl (hb hby d_expd_48) rfl ?_
            refine G_bipush X0 hx (pc' := 51) rfl (hb hby d_expd_49) (z := (46 : Int32)) rfl ?_
            by_cases hc51_104 : v0 = (46 : Int32)
            · refine G_icmpYes X0 hx (pc' := 66) (hb hby d_expd_51) (teq hc51_104).1 (by decide) (by decide) ?_
              refine G_iconst X0 hx (pc' := 67) rfl (hb hby d_expd_66) (z := (1 : Int32)) rfl ?_
              refine Go.fin X0 hlk (v := some (.int (1 : Int32))) (fun h => by rw [Bd.returns] at h; cases h) (by decide) (by decide) ?_ (fun fs hr => retN X0 hx (t := .boolean) Bd.returns (by simp) (hb hby d_expd_67) hr)
              show Q_expd Z v0 h0 n0 _ s₁.heap _
              rw [e0]
              exact ⟨congrArg (fun z => some (Value.int z)) (by unfold own_exp; simp [*]), N0, rfl⟩
            · refine G_icmpNo X0 hx (pc' := 54) rfl (hb hby d_expd_51) (feq hc51_104).1 ?_
              refine G_iloadN X0 hx (pc' := 55) rfl (hb hby d_expd_54) rfl ?_
              refine G_bipush X0 hx (pc' := 57) rfl (hb hby d_expd_55) (z := (95 : Int32)) rfl ?_
              by_cases hc57_105 : v0 = (95 : Int32)
              · refine G_icmpYes X0 hx (pc' := 66) (hb hby d_expd_57) (teq hc57_105).1 (by decide) (by decide) ?_
                refine G_iconst X0 hx (pc' := 67) rfl (hb hby d_expd_66) (z := (1 : Int32)) rfl ?_
                refine Go.fin X0 hlk (v := some (.int (1 : Int32))) (fun h => by rw [Bd.returns] at h; cases h) (by decide) (by decide) ?_ (fun fs hr => retN X0 hx (t := .boolean) Bd.returns (by simp) (hb hby d_expd_67) hr)
                show Q_expd Z v0 h0 n0 _ s₁.heap _
                rw [e0]
                exact ⟨congrArg (fun z => some (Value.int z)) (by unfold own_exp; simp [*]), N0, rfl⟩
              · refine G_icmpNo X0 hx (pc' := 60) rfl (hb hby d_expd_57) (feq hc57_105).1 ?_
                refine G_iloadN X0 hx (pc' := 61) rfl (hb hby d_expd_60) rfl ?_
                refine G_bipush X0 hx (pc' := 63) rfl (hb hby d_expd_61) (z := (126 : Int32)) rfl ?_
                by_cases hc63_106 : v0 = (126 : Int32)
                · refine G_icmpNo X0 hx (pc' := 66) rfl (hb hby d_expd_63) (teq hc63_106).2 ?_
                  refine G_iconst X0 hx (pc' := 67) rfl (hb hby d_expd_66) (z := (1 : Int32)) rfl ?_
                  refine Go.fin X0 hlk (v := some (.int (1 : Int32))) (fun h => by rw [Bd.returns] at h; cases h) (by decide) (by decide) ?_ (fun fs hr => retN X0 hx (t := .boolean) Bd.returns (by simp) (hb hby d_expd_67) hr)
                  show Q_expd Z v0 h0 n0 _ s₁.heap _
                  rw [e0]
                  exact ⟨congrArg (fun z => some (Value.int z)) (by unfold own_exp; simp [*]), N0, rfl⟩
                · refine G_icmpYes X0 hx (pc' := 68) (hb hby d_expd_63) (feq hc63_106).2 (by decide) (by decide) ?_
                  refine G_iloadN X0 hx (pc' := 69) rfl (hb hby d_expd_68) rfl ?_
                  refine G_bipush X0 hx (pc' := 71) rfl (hb hby d_expd_69) (z := (58 : Int32)) rfl ?_
                  by_cases hc71_107 : v0 = (58 : Int32)
                  · refine G_icmpYes X0 hx (pc' := 110) (hb hby d_expd_71) (teq hc71_107).1 (by decide) (by decide) ?_
                    refine G_iconst X0 hx (pc' := 111) rfl (hb hby d_expd_110) (z := (1 : Int32)) rfl ?_
                    refine Go.fin X0 hlk (v := some (.int (1 : Int32))) (fun h => by rw [Bd.returns] at h; cases h) (by decide) (by decide) ?_ (fun fs hr => retN X0 hx (t := .boolean) Bd.returns (by simp) (hb hby d_expd_111) hr)
                    show Q_expd Z v0 h0 n0 _ s₁.heap _
                    rw [e0]
                    exact ⟨congrArg (fun z => some (Value.int z)) (by unfold own_exp; simp [*]), N0, rfl⟩
                  · refine G_icmpNo X0 hx (pc' := 74) rfl (hb hby d_expd_71) (feq hc71_107).1 ?_
                    refine G_iloadN X0 hx (pc' := 75) rfl (hb hby d_expd_74) rfl ?_
                    refine G_bipush X0 hx (pc' := 77) rfl (hb hby d_expd_75) (z := (47 : Int32)) rfl ?_
                    by_cases hc77_108 : v0 = (47 : Int32)
                    · refine G_icmpYes X0 hx (pc' := 110) (hb hby d_expd_77) (teq hc77_108).1 (by decide) (by decide) ?_
                      refine G_iconst X0 hx (pc' := 111) rfl (hb hby d_expd_110) (z := (1 : Int32)) rfl ?_
                      refine Go.fin X0 hlk (v := some (.int (1 : Int32))) (fun h => by rw [Bd.returns] at h; cases h) (by decide) (by decide) ?_ (fun fs hr => retN X0 hx (t := .boolean) Bd.returns (by simp) (hb hby d_expd_111) hr)
                      show Q_expd Z v0 h0 n0 _ s₁.heap _
                      rw [e0]
                      exact ⟨congrArg (fun z => some (Value.int z)) (by unfold own_exp; simp [*]), N0, rfl⟩
                    · refine G_icmpNo X0 hx (pc' := 80) rfl (hb hby d_expd_77) (feq hc77_108).1 ?_
                      refine G_iloadN X0 hx (pc' := 81) rfl (hb hby d_expd_80) rfl ?_
                      refine G_bipush X0 hx (pc' := 83) rfl (hb hby d_expd_81) (z := (63 : Int32)) rfl ?_
                      by_cases hc83_109 : v0 = (63 : Int32)
                      · refine G_icmpYes X0 hx (pc' := 110) (hb hby d_expd_83) (teq hc83_109).1 (by decide) (by decide) ?_
                        refine G_iconst X0 hx (pc' := 111) rfl (hb hby d_expd_110) (z := (1 : Int32)) rfl ?_
                        refine Go.fin X0 hlk (v := some (.int (1 : Int32))) (fun h => by rw [Bd.returns] at h; cases h) (by decide) (by decide) ?_ (fun fs hr => retN X0 hx (t := .boolean) Bd.returns (by simp) (hb hby d_expd_111) hr)
                        show Q_expd Z v0 h0 n0 _ s₁.heap _
                        rw [e0]
                        exact ⟨congrArg (fun z => some (Value.int z)) (by unfold own_exp; simp [*]), N0, rfl⟩
                      · refine G_icmpNo X0 hx (pc' := 86) rfl (hb hby d_expd_83) (feq hc83_109).1 ?_
                        refine G_iloadN X0 hx (pc' := 87) rfl (hb hby d_expd_86) rfl ?_
                        refine G_bipush X0 hx (pc' := 89) rfl (hb hby d_expd_87) (z := (35 : Int32)) rfl ?_
                        by_cases hc89_110 : v0 = (35 : Int32)
                        · refine G_icmpYes X0 hx (pc' := 110) (hb hby d_expd_89) (teq hc89_110).1 (by decide) (by decide) ?_
                          refine G_iconst X0 hx (pc' := 111) rfl (hb hby d_expd_110) (z := (1 : Int32)) rfl ?_
                          refine Go.fin X0 hlk (v := some (.int (1 : Int32))) (fun h => by rw [Bd.returns] at h; cases h) (by decide) (by decide) ?_ (fun fs hr => retN X0 hx (t := .boolean) Bd.returns (by simp) (hb hby d_expd_111) hr)
                          show Q_expd Z v0 h0 n0 _ s₁.heap _
                          rw [e0]
                          exact ⟨congrArg (fun z => some (Value.int z)) (by unfold own_exp; simp [*]), N0, rfl⟩
                        · refine G_icmpNo X0 hx (pc' := 92) rfl (hb hby d_expd_89) (feq hc89_110).1 ?_
                          refine G_iloadN X0 hx (pc' := 93) rfl (hb hby d_expd_92) rfl ?_
                          refine G_bipush X0 hx (pc' := 95) rfl (hb hby d_expd_93) (z := (91 : Int32)) rfl ?_
                          by_cases hc95_111 : v0 = (91 : Int32)
                          · refine G_icmpYes X0 hx (pc' := 110) (hb hby d_expd_95) (teq hc95_111).1 (by decide) (by decide) ?_
                            refine G_iconst X0 hx (pc' := 111) rfl (hb hby d_expd_110) (z := (1 : Int32)) rfl ?_
                            refine Go.fin X0 hlk (v := some (.int (1 : Int32))) (fun h => by rw [Bd.returns] at h; cases h) (by decide) (by decide) ?_ (fun fs hr => retN X0 hx (t := .boolean) Bd.returns (by simp) (hb hby d_expd_111) hr)
                            show Q_expd Z v0 h0 n0 _ s₁.heap _
                            rw [e0]
                            exact ⟨congrArg (fun z => some (Value.int z)) (by unfold own_exp; simp [*]), N0, rfl⟩
                          · refine G_icmpNo X0 hx (pc' := 98) rfl (hb hby d_expd_95) (feq hc95_111).1 ?_
                            refine G_iloadN X0 hx (pc' := 99) rfl (hb hby d_expd_98) rfl ?_
                            refine G_bipush X0 hx (pc' := 101) rfl (hb hby d_expd_99) (z := (93 : Int32)) rfl ?_
                            by_cases hc101_112 : v0 = (93 : Int32)
                            · refine G_icmpYes X0 hx (pc' := 110) (hb hby d_expd_101) (teq hc101_112).1 (by decide) (by decide) ?_
                              refine G_iconst X0 hx (pc' := 111) rfl (hb hby d_expd_110) (z := (1 : Int32)) rfl ?_
                              refine Go.fin X0 hlk (v := some (.int (1 : Int32))) (fun h => by rw [Bd.returns] at h; cases h) (by decide) (by decide) ?_ (fun fs hr => retN X0 hx (t := .boolean) Bd.returns (by simp) (hb hby d_expd_111) hr)
                              show Q_expd Z v0 h0 n0 _ s₁.heap _
                              rw [e0]
                              exact ⟨congrArg (fun z => some (Value.int z)) (by unfold own_exp; simp [*]), N0, rfl⟩
                            · refine G_icmpNo X0 hx (pc' := 104) rfl (hb hby d_expd_101) (feq hc101_112).1 ?_
                              refine G_iloadN X0 hx (pc' := 105) rfl (hb hby d_expd_104) rfl ?_
                              refine G_bipush X0 hx (pc' := 107) rfl (hb hby d_expd_105) (z := (64 : Int32)) rfl ?_
                              by_cases hc107_113 : v0 = (64 : Int32)
                              · refine G_icmpNo X0 hx (pc' := 110) rfl (hb hby d_expd_107) (teq hc107_113).2 ?_
                                refine G_iconst X0 hx (pc' := 111) rfl (hb hby d_expd_110) (z := (1 : Int32)) rfl ?_
                                refine Go.fin X0 hlk (v := some (.int (1 : Int32))) (fun h => by rw [Bd.returns] at h; cases h) (by decide) (by decide) ?_ (fun fs hr => retN X0 hx (t := .boolean) Bd.returns (by simp) (hb hby d_expd_111) hr)
                                show Q_expd Z v0 h0 n0 _ s₁.heap _
                                rw [e0]
                                exact ⟨congrArg (fun z => some (Value.int z)) (by unfold own_exp; simp [*]), N0, rfl⟩
                              · refine G_icmpYes X0 hx (pc' := 112) (hb hby d_expd_107) (feq hc107_113).2 (by decide) (by decide) ?_
                                refine G_iloadN X0 hx (pc' := 113) rfl (hb hby d_expd_112) rfl ?_
                                refine G_bipush X0 hx (pc' := 115) rfl (hb hby d_expd_113) (z := (33 : Int32)) rfl ?_
                                by_cases hc115_114 : v0 = (33 : Int32)
                                · refine G_icmpYes X0 hx (pc' := 178) (hb hby d_expd_115) (teq hc115_114).1 (by decide) (by decide) ?_
                                  refine G_iconst X0 hx (pc' := 179) rfl (hb hby d_expd_178) (z := (1 : Int32)) rfl ?_
                                  refine Go.fin X0 hlk (v := some (.int (1 : Int32))) (fun h => by rw [Bd.returns] at h; cases h) (by decide) (by decide) ?_ (fun fs hr => retN X0 hx (t := .boolean) Bd.returns (by simp) (hb hby d_expd_179) hr)
                                  show Q_expd Z v0 h0 n0 _ s₁.heap _
                                  rw [e0]
                                  exact ⟨congrArg (fun z => some (Value.int z)) (by unfold own_exp; simp [*]), N0, rfl⟩
                                · refine G_icmpNo X0 hx (pc' := 118) rfl (hb hby d_expd_115) (feq hc115_114).1 ?_
                                  refine G_iloadN X0 hx (pc' := 119) rfl (hb hby d_expd_118) rfl ?_
                                  refine G_bipush X0 hx (pc' := 121) rfl (hb hby d_expd_119) (z := (36 : Int32)) rfl ?_
                                  by_cases hc121_115 : v0 = (36 : Int32)
                                  · refine G_icmpYes X0 hx (pc' := 178) (hb hby d_expd_121) (teq hc121_115).1 (by decide) (by decide) ?_
                                    refine G_iconst X0 hx (pc' := 179) rfl (hb hby d_expd_178) (z := (1 : Int32)) rfl ?_
                                    refine Go.fin X0 hlk (v := some (.int (1 : Int32))) (fun h => by rw [Bd.returns] at h; cases h) (by decide) (by decide) ?_ (fun fs hr => retN X0 hx (t := .boolean) Bd.returns (by simp) (hb hby d_expd_179) hr)
                                    show Q_expd Z v0 h0 n0 _ s₁.heap _
                                    rw [e0]
                                    exact ⟨congrArg (fun z => some (Value.int z)) (by unfold own_exp; simp [*]), N0, rfl⟩
                                  · refine G_icmpNo X0 hx (pc' := 124) rfl (hb hby d_expd_121) (feq hc121_115).1 ?_
                                    refine G_iloadN X0 hx (pc' := 125) rfl (hb hby d_expd_124) rfl ?_
                                    refine G_bipush X0 hx (pc' := 127) rfl (hb hby d_expd_125) (z := (38 : Int32)) rfl ?_
                                    by_cases hc127_116 : v0 = (38 : Int32)
                                    · refine G_icmpYes X0 hx (pc' := 178) (hb hby d_expd_127) (teq hc127_116).1 (by decide) (by decide) ?_
                                      refine G_iconst X0 hx (pc' := 179) rfl (hb hby d_expd_178) (z := (1 : Int32)) rfl ?_
                                      refine Go.fin X0 hlk (v := some (.int (1 : Int32))) (fun h => by rw [Bd.returns] at h; cases h) (by decide) (by decide) ?_ (fun fs hr => retN X0 hx (t := .boolean) Bd.returns (by simp) (hb hby d_expd_179) hr)
                                      show Q_expd Z v0 h0 n0 _ s₁.heap _
                                      rw [e0]
                                      exact ⟨congrArg (fun z => some (Value.int z)) (by unfold own_exp; simp [*]), N0, rfl⟩
                                    · refine G_icmpNo X0 hx (pc' := 130) rfl (hb hby d_expd_127) (feq hc127_116).1 ?_
                                      refine G_iloadN X0 hx (pc' := 131) rfl (hb hby d_expd_130) rfl ?_
                                      refine G_bipush X0 hx (pc' := 133) rfl (hb hby d_expd_131) (z := (39 : Int32)) rfl ?_
                                      by_cases hc133_117 : v0 = (39 : Int32)
                                      · refine G_icmpYes X0 hx (pc' := 178) (hb hby d_expd_133) (teq hc133_117).1 (by decide) (by decide) ?_
                                        refine G_iconst X0 hx (pc' := 179) rfl (hb hby d_expd_178) (z := (1 : Int32)) rfl ?_
                                        refine Go.fin X0 hlk (v := some (.int (1 : Int32))) (fun h => by rw [Bd.returns] at h; cases h) (by decide) (by decide) ?_ (fun fs hr => retN X0 hx (t := .boolean) Bd.returns (by simp) (hb hby d_expd_179) hr)
                                        show Q_expd Z v0 h0 n0 _ s₁.heap _
                                        rw [e0]
                                        exact ⟨congrArg (fun z => some (Value.int z)) (by unfold own_exp; simp [*]), N0, rfl⟩
                                      · refine G_icmpNo X0 hx (pc' := 136) rfl (hb hby d_expd_133) (feq hc133_117).1 ?_
                                        refine G_iloadN X0 hx (pc' := 137) rfl (hb hby d_expd_136) rfl ?_
                                        refine G_bipush X0 hx (pc' := 139) rfl (hb hby d_expd_137) (z := (40 : Int32)) rfl ?_
                                        by_cases hc139_118 : v0 = (40 : Int32)
                                        · refine G_icmpYes X0 hx (pc' := 178) (hb hby d_expd_139) (teq hc139_118).1 (by decide) (by decide) ?_
                                          refine G_iconst X0 hx (pc' := 179) rfl (hb hby d_expd_178) (z := (1 : Int32)) rfl ?_
                                          refine Go.fin X0 hlk (v := some (.int (1 : Int32))) (fun h => by rw [Bd.returns] at h; cases h) (by decide) (by decide) ?_ (fun fs hr => retN X0 hx (t := .boolean) Bd.returns (by simp) (hb hby d_expd_179) hr)
                                          show Q_expd Z v0 h0 n0 _ s₁.heap _
                                          rw [e0]
                                          exact ⟨congrArg (fun z => some (Value.int z)) (by unfold own_exp; simp [*]), N0, rfl⟩
                                        · refine G_icmpNo X0 hx (pc' := 142) rfl (hb hby d_expd_139) (feq hc139_118).1 ?_
                                          refine G_iloadN X0 hx (pc' := 143) rfl (hb hby d_expd_142) rfl ?_
                                          refine G_bipush X0 hx (pc' := 145) rfl (hb hby d_expd_143) (z := (41 : Int32)) rfl ?_
                                          by_cases hc145_119 : v0 = (41 : Int32)
                                          · refine G_icmpYes X0 hx (pc' := 178) (hb hby d_expd_145) (teq hc145_119).1 (by decide) (by decide) ?_
                                            refine G_iconst X0 hx (pc' := 179) rfl (hb hby d_expd_178) (z := (1 : Int32)) rfl ?_
                                            refine Go.fin X0 hlk (v := some (.int (1 : Int32))) (fun h => by rw [Bd.returns] at h; cases h) (by decide) (by decide) ?_ (fun fs hr => retN X0 hx (t := .boolean) Bd.returns (by simp) (hb hby d_expd_179) hr)
                                            show Q_expd Z v0 h0 n0 _ s₁.heap _
                                            rw [e0]
                                            exact ⟨congrArg (fun z => some (Value.int z)) (by unfold own_exp; simp [*]), N0, rfl⟩
                                          · refine G_icmpNo X0 hx (pc' := 148) rfl (hb hby d_expd_145) (feq hc145_119).1 ?_
                                            refine G_iloadN X0 hx (pc' := 149) rfl (hb hby d_expd_148) rfl ?_
                                            refine G_bipush X0 hx (pc' := 151) rfl (hb hby d_expd_149) (z := (42 : Int32)) rfl ?_
                                            by_cases hc151_120 : v0 = (42 : Int32)
                                            · refine G_icmpYes X0 hx (pc' := 178) (hb hby d_expd_151) (teq hc151_120).1 (by decide) (by decide) ?_
                                              refine G_iconst X0 hx (pc' := 179) rfl (hb hby d_expd_178) (z := (1 : Int32)) rfl ?_
                                              refine Go.fin X0 hlk (v := some (.int (1 : Int32))) (fun h => by rw [Bd.returns] at h; cases h) (by decide) (by decide) ?_ (fun fs hr => retN X0 hx (t := .boolean) Bd.returns (by simp) (hb hby d_expd_179) hr)
                                              show Q_expd Z v0 h0 n0 _ s₁.heap _
                                              rw [e0]
                                              exact ⟨congrArg (fun z => some (Value.int z)) (by unfold own_exp; simp [*]), N0, rfl⟩
                                            · refine G_icmpNo X0 hx (pc' := 154) rfl (hb hby d_expd_151) (feq hc151_120).1 ?_
                                              refine G_iloadN X0 hx (pc' := 155) rfl (hb hby d_expd_154) rfl ?_
                                              refine G_bipush X0 hx (pc' := 157) rfl (hb hby d_expd_155) (z := (43 : Int32)) rfl ?_
                                              by_cases hc157_121 : v0 = (43 : Int32)
                                              · refine G_icmpYes X0 hx (pc' := 178) (hb hby d_expd_157) (teq hc157_121).1 (by decide) (by decide) ?_
                                                refine G_iconst X0 hx (pc' := 179) rfl (hb hby d_expd_178) (z := (1 : Int32)) rfl ?_
                                                refine Go.fin X0 hlk (v := some (.int (1 : Int32))) (fun h => by rw [Bd.returns] at h; cases h) (by decide) (by decide) ?_ (fun fs hr => retN X0 hx (t := .boolean) Bd.returns (by simp) (hb hby d_expd_179) hr)
                                                show Q_expd Z v0 h0 n0 _ s₁.heap _
                                                rw [e0]
                                                exact ⟨congrArg (fun z => some (Value.int z)) (by unfold own_exp; simp [*]), N0, rfl⟩
                                              · refine G_icmpNo X0 hx (pc' := 160) rfl (hb hby d_expd_157) (feq hc157_121).1 ?_
                                                refine G_iloadN X0 hx (pc' := 161) rfl (hb hby d_expd_160) rfl ?_
                                                refine G_bipush X0 hx (pc' := 163) rfl (hb hby d_expd_161) (z := (44 : Int32)) rfl ?_
                                                by_cases hc163_122 : v0 = (44 : Int32)
                                                · refine G_icmpYes X0 hx (pc' := 178) (hb hby d_expd_163) (teq hc163_122).1 (by decide) (by decide) ?_
                                                  refine G_iconst X0 hx (pc' := 179) rfl (hb hby d_expd_178) (z := (1 : Int32)) rfl ?_
                                                  refine Go.fin X0 hlk (v := some (.int (1 : Int32))) (fun h => by rw [Bd.returns] at h; cases h) (by decide) (by decide) ?_ (fun fs hr => retN X0 hx (t := .boolean) Bd.returns (by simp) (hb hby d_expd_179) hr)
                                                  show Q_expd Z v0 h0 n0 _ s₁.heap _
                                                  rw [e0]
                                                  exact ⟨congrArg (fun z => some (Value.int z)) (by unfold own_exp; simp [*]), N0, rfl⟩
                                                · refine G_icmpNo X0 hx (pc' := 166) rfl (hb hby d_expd_163) (feq hc163_122).1 ?_
                                                  refine G_iloadN X0 hx (pc' := 167) rfl (hb hby d_expd_166) rfl ?_
                                                  refine G_bipush X0 hx (pc' := 169) rfl (hb hby d_expd_167) (z := (59 : Int32)) rfl ?_
                                                  by_cases hc169_123 : v0 = (59 : Int32)
                                                  · refine G_icmpYes X0 hx (pc' := 178) (hb hby d_expd_169) (teq hc169_123).1 (by decide) (by decide) ?_
                                                    refine G_iconst X0 hx (pc' := 179) rfl (hb hby d_expd_178) (z := (1 : Int32)) rfl ?_
                                                    refine Go.fin X0 hlk (v := some (.int (1 : Int32))) (fun h => by rw [Bd.returns] at h; cases h) (by decide) (by decide) ?_ (fun fs hr => retN X0 hx (t := .boolean) Bd.returns (by simp) (hb hby d_expd_179) hr)
                                                    show Q_expd Z v0 h0 n0 _ s₁.heap _
                                                    rw [e0]
                                                    exact ⟨congrArg (fun z => some (Value.int z)) (by unfold own_exp; simp [*]), N0, rfl⟩
                                                  · refine G_icmpNo X0 hx (pc' := 172) rfl (hb hby d_expd_169) (feq hc169_123).1 ?_
                                                    refine G_iloadN X0 hx (pc' := 173) rfl (hb hby d_expd_172) rfl ?_
                                                    refine G_bipush X0 hx (pc' := 175) rfl (hb hby d_expd_173) (z := (61 : Int32)) rfl ?_
                                                    by_cases hc175_124 : v0 = (61 : Int32)
                                                    · refine G_icmpNo X0 hx (pc' := 178) rfl (hb hby d_expd_175) (teq hc175_124).2 ?_
                                                      refine G_iconst X0 hx (pc' := 179) rfl (hb hby d_expd_178) (z := (1 : Int32)) rfl ?_
                                                      refine Go.fin X0 hlk (v := some (.int (1 : Int32))) (fun h => by rw [Bd.returns] at h; cases h) (by decide) (by decide) ?_ (fun fs hr => retN X0 hx (t := .boolean) Bd.returns (by simp) (hb hby d_expd_179) hr)
                                                      show Q_expd Z v0 h0 n0 _ s₁.heap _
                                                      rw [e0]
                                                      exact ⟨congrArg (fun z => some (Value.int z)) (by unfold own_exp; simp [*]), N0, rfl⟩
                                                    · refine G_icmpYes X0 hx (pc' := 180) (hb hby d_expd_175) (feq hc175_124).2 (by decide) (by decide) ?_
                                                      refine G_iloadN X0 hx (pc' := 181) rfl (hb hby d_expd_180) rfl ?_
                                                      refine G_bipush X0 hx (pc' := 183) rfl (hb hby d_expd_181) (z := (37 : Int32)) rfl ?_
                                                      by_cases hc183_125 : v0 = (37 : Int32)
                                                      · refine G_icmpNo X0 hx (pc' := 186) rfl (hb hby d_expd_183) (teq hc183_125).2 ?_
                                                        refine G_iconst X0 hx (pc' := 187) rfl (hb hby d_expd_186) (z := (1 : Int32)) rfl ?_
                                                        refine Go.fin X0 hlk (v := some (.int (1 : Int32))) (fun h => by rw [Bd.returns] at h; cases h) (by decide) (by decide) ?_ (fun fs hr => retN X0 hx (t := .boolean) Bd.returns (by simp) (hb hby d_expd_187) hr)
                                                        show Q_expd Z v0 h0 n0 _ s₁.heap _
                                                        rw [e0]
                                                        exact ⟨congrArg (fun z => some (Value.int z)) (by unfold own_exp; simp [*]), N0, rfl⟩
                                                      · refine G_icmpYes X0 hx (pc' := 188) (hb hby d_expd_183) (feq hc183_125).2 (by decide) (by decide) ?_
                                                        refine G_iconst X0 hx (pc' := 189) rfl (hb hby d_expd_188) (z := (0 : Int32)) rfl ?_
                                                        refine Go.fin X0 hlk (v := some (.int (0 : Int32))) (fun h => by rw [Bd.returns] at h; cases h) (by decide) (by decide) ?_ (fun fs hr => retN X0 hx (t := .boolean) Bd.returns (by simp) (hb hby d_expd_189) hr)
                                                        show Q_expd Z v0 h0 n0 _ s₁.heap _
                                                        rw [e0]
                                                        exact ⟨congrArg (fun z => some (Value.int z)) (by unfold own_exp; simp [*]), N0, rfl⟩
        · refine G_icmpNo X0 hx (pc' := 34) rfl (hb hby d_expd_31) (flt hc31_102).1 ?_
          refine G_iloadN X0 hx (pc' := 35) rfl (hb hby d_expd_34) rfl ?_
          refine G_bipush X0 hx (pc' := 37) rfl (hb hby d_expd_35) (z := (57 : Int32)) rfl ?_
          by_cases hc37_126 : (57 : Int32) < v0
          · refine G_icmpYes X0 hx (pc' := 42) (hb hby d_expd_37) (tlt hc37_126).2.2.1 (by decide) (by decide) ?_
            refine G_iloadN X0 hx (pc' := 43) rfl (hb hby d_expd_42) rfl ?_
            refine G_bipush X0 hx (pc' := 45) rfl (hb hby d_expd_43) (z := (45 : Int32)) rfl ?_
            by_cases hc45_127 : v0 = (45 : Int32)
            · refine G_icmpYes X0 hx (pc' := 66) (hb hby d_expd_45) (teq hc45_127).1 (by decide) (by decide) ?_
              refine G_iconst X0 hx (pc' := 67) rfl (hb hby d_expd_66) (z := (1 : Int32)) rfl ?_
              refine Go.fin X0 hlk (v := some (.int (1 : Int32))) (fun h => by rw [Bd.returns] at h; cases h) (by decide) (by decide) ?_ (fun fs hr => retN X0 hx (t := .boolean) Bd.returns (by simp) (hb hby d_expd_67) hr)
              show Q_expd Z v0 h0 n0 _ s₁.heap _
              rw [e0]
              exact ⟨congrArg (fun z => some (Value.int z)) (by unfold own_exp; simp [*]), N0, rfl⟩
            · refine G_icmpNo X0 hx (pc' := 48) rfl (hb hby d_expd_45) (feq hc45_127).1 ?_
              refine G_iloadN X0 hx (pc' := 49) rfl (hb hby d_expd_48) rfl ?_
              refine G_bipush X0 hx (pc' := 51) rfl (hb hby d_expd_49) (z := (46 : Int32)) rfl ?_
              by_cases hc51_128 : v0 = (46 : Int32)
              · refine G_icmpYes X0 hx (pc' := 66) (hb hby d_expd_51) (teq hc51_128).1 (by decide) (by decide) ?_
                refine G_iconst X0 hx (pc' := 67) rfl (hb hby d_expd_66) (z := (1 : Int32)) rfl ?_
                refine Go.fin X0 hlk (v := some (.int (1 : Int32))) (fun h => by rw [Bd.returns] at h; cases h) (by decide) (by decide) ?_ (fun fs hr => retN X0 hx (t := .boolean) Bd.returns (by simp) (hb hby d_expd_67) hr)
                show Q_expd Z v0 h0 n0 _ s₁.heap _
                rw [e0]
                exact ⟨congrArg (fun z => some (Value.int z)) (by unfold own_exp; simp [*]), N0, rfl⟩
              · refine G_icmpNo X0 hx (pc' := 54) rfl (hb hby d_expd_51) (feq hc51_128).1 ?_
                refine G_iloadN X0 hx (pc' := 55) rfl (hb hby d_expd_54) rfl ?_
                refine G_bipush X0 hx (pc' := 57) rfl (hb hby d_expd_55) (z := (95 : Int32)) rfl ?_
                by_cases hc57_129 : v0 = (95 : Int32)
                · refine G_icmpYes X0 hx (pc' := 66) (hb hby d_expd_57) (teq hc57_129).1 (by decide) (by decide) ?_
                  refine G_iconst X0 hx (pc' := 67) rfl (hb hby d_expd_66) (z := (1 : Int32)) rfl ?_
                  refine Go.fin X0 hlk (v := some (.int (1 : Int32))) (fun h => by rw [Bd.returns] at h; cases h) (by decide) (by decide) ?_ (fun fs hr => retN X0 hx (t := .boolean) Bd.returns (by simp) (hb hby d_expd_67) hr)
                  show Q_expd Z v0 h0 n0 _ s₁.heap _
                  rw [e0]
                  exact ⟨congrArg (fun z => some (Value.int z)) (by unfold own_exp; simp [*]), N0, rfl⟩
                · refine G_icmpNo X0 hx (pc' := 60) rfl (hb hby d_expd_57) (feq hc57_129).1 ?_
                  refine G_iloadN X0 hx (pc' := 61) rfl (hb hby d_expd_60) rfl ?_
                  refine G_bipush X0 hx (pc' := 63) rfl (hb hby d_expd_61) (z := (126 : Int32)) rfl ?_
                  by_cases hc63_130 : v0 = (126 : Int32)
                  · refine G_icmpNo X0 hx (pc' := 66) rfl (hb hby d_expd_63) (teq hc63_130).2 ?_
                    refine G_iconst X0 hx (pc' := 67) rfl (hb hby d_expd_66) (z := (1 : Int32)) rfl ?_
                    refine Go.fin X0 hlk (v := some (.int (1 : Int32))) (fun h => by rw [Bd.returns] at h; cases h) (by decide) (by decide) ?_ (fun fs hr => retN X0 hx (t := .boolean) Bd.returns (by simp) (hb hby d_expd_67) hr)
                    show Q_expd Z v0 h0 n0 _ s₁.heap _
                    rw [e0]
                    exact ⟨congrArg (fun z => some (Value.int z)) (by unfold own_exp; simp [*]), N0, rfl⟩
                  · refine G_icmpYes X0 hx (pc' := 68) (hb hby d_expd_63) (feq hc63_130).2 (by decide) (by decide) ?_
                    refine G_iloadN X0 hx (pc' := 69) rfl (hb hby d_expd_68) rfl ?_
                    refine G_bipush X0 hx (pc' := 71) rfl (hb hby d_expd_69) (z := (58 : Int32)) rfl ?_
                    by_cases hc71_131 : v0 = (58 : Int32)
                    · refine G_icmpYes X0 hx (pc' := 110) (hb hby d_expd_71) (teq hc71_131).1 (by decide) (by decide) ?_
                      refine G_iconst X0 hx (pc' := 111) rfl (hb hby d_expd_110) (z := (1 : Int32)) rfl ?_
                      refine Go.fin X0 hlk (v := some (.int (1 : Int32))) (fun h => by rw [Bd.returns] at h; cases h) (by decide) (by decide) ?_ (fun fs hr => retN X0 hx (t := .boolean) Bd.returns (by simp) (hb hby d_expd_111) hr)
                      show Q_expd Z v0 h0 n0 _ s₁.heap _
                      rw [e0]
                      exact ⟨congrArg (fun z => some (Value.int z)) (by unfold own_exp; simp [*]), N0, rfl⟩
                    · refine G_icmpNo X0 hx (pc' := 74) rfl (hb hby d_expd_71) (feq hc71_131).1 ?_
                      refine G_iloadN X0 hx (pc' := 75) rfl (hb hby d_expd_74) rfl ?_
                      refine G_bipush X0 hx (pc' := 77) rfl (hb hby d_expd_75) (z := (47 : Int32)) rfl ?_
                      by_cases hc77_132 : v0 = (47 : Int32)
                      · refine G_icmpYes X0 hx (pc' := 110) (hb hby d_expd_77) (teq hc77_132).1 (by decide) (by decide) ?_
                        refine G_iconst X0 hx (pc' := 111) rfl (hb hby d_expd_110) (z := (1 : Int32)) rfl ?_
                        refine Go.fin X0 hlk (v := some (.int (1 : Int32))) (fun h => by rw [Bd.returns] at h; cases h) (by decide) (by decide) ?_ (fun fs hr => retN X0 hx (t := .boolean) Bd.returns (by simp) (hb hby d_expd_111) hr)
                        show Q_expd Z v0 h0 n0 _ s₁.heap _
                        rw [e0]
                        exact ⟨congrArg (fun z => some (Value.int z)) (by unfold own_exp; simp [*]), N0, rfl⟩
                      · refine G_icmpNo X0 hx (pc' := 80) rfl (hb hby d_expd_77) (feq hc77_132).1 ?_
                        refine G_iloadN X0 hx (pc' := 81) rfl (hb hby d_expd_80) rfl ?_
                        refine G_bipush X0 hx (pc' := 83) rfl (hb hby d_expd_81) (z := (63 : Int32)) rfl ?_
                        by_cases hc83_133 : v0 = (63 : Int32)
                        · refine G_icmpYes X0 hx (pc' := 110) (hb hby d_expd_83) (teq hc83_133).1 (by decide) (by decide) ?_
                          refine G_iconst X0 hx (pc' := 111) rfl (hb hby d_expd_110) (z := (1 : Int32)) rfl ?_
                          refine Go.fin X0 hlk (v := some (.int (1 : Int32))) (fun h => by rw [Bd.returns] at h; cases h) (by decide) (by decide) ?_ (fun fs hr => retN X0 hx (t := .boolean) Bd.returns (by simp) (hb hby d_expd_111) hr)
                          show Q_expd Z v0 h0 n0 _ s₁.heap _
                          rw [e0]
                          exact ⟨congrArg (fun z => some (Value.int z)) (by unfold own_exp; simp [*]), N0, rfl⟩
                        · refine G_icmpNo X0 hx (pc' := 86) rfl (hb hby d_expd_83) (feq hc83_133).1 ?_
                          refine G_iloadN X0 hx (pc' := 87) rfl (hb hby d_expd_86) rfl ?_
                          refine G_bipush X0 hx (pc' := 89) rfl (hb hby d_expd_87) (z := (35 : Int32)) rfl ?_
                          by_cases hc89_134 : v0 = (35 : Int32)
                          · refine G_icmpYes X0 hx (pc' := 110) (hb hby d_expd_89) (teq hc89_134).1 (by decide) (by decide) ?_
                            refine G_iconst X0 hx (pc' := 111) rfl (hb hby d_expd_110) (z := (1 : Int32)) rfl ?_
                            refine Go.fin X0 hlk (v := some (.int (1 : Int32))) (fun h => by rw [Bd.returns] at h; cases h) (by decide) (by decide) ?_ (fun fs hr => retN X0 hx (t := .boolean) Bd.returns (by simp) (hb hby d_expd_111) hr)
                            show Q_expd Z v0 h0 n0 _ s₁.heap _
                            rw [e0]
                            exact ⟨congrArg (fun z => some (Value.int z)) (by unfold own_exp; simp [*]), N0, rfl⟩
                          · refine G_icmpNo X0 hx (pc' := 92) rfl (hb hby d_expd_89) (feq hc89_134).1 ?_
                            refine G_iloadN X0 hx (pc' := 93) rfl (hb hby d_expd_92) rfl ?_
                            refine G_bipush X0 hx (pc' := 95) rfl (hb hby d_expd_93) (z := (91 : Int32)) rfl ?_
                            by_cases hc95_135 : v0 = (91 : Int32)
                            · refine G_icmpYes X0 hx (pc' := 110) (hb hby d_expd_95) (teq hc95_135).1 (by decide) (by decide) ?_
                              refine G_iconst X0 hx (pc' := 111) rfl (hb hby d_expd_110) (z := (1 : Int32)) rfl ?_
                              refine Go.fin X0 hlk (v := some (.int (1 : Int32))) (fun h => by rw [Bd.returns] at h; cases h) (by decide) (by decide) ?_ (fun fs hr => retN X0 hx (t := .boolean) Bd.returns (by simp) (hb hby d_expd_111) hr)
                              show Q_expd Z v0 h0 n0 _ s₁.heap _
                              rw [e0]
                              exact ⟨congrArg (fun z => some (Value.int z)) (by unfold own_exp; simp [*]), N0, rfl⟩
                            · refine G_icmpNo X0 hx (pc' := 98) rfl (hb hby d_expd_95) (feq hc95_135).1 ?_
                              refine G_iloadN X0 hx (pc' := 99) rfl (hb hby d_expd_98) rfl ?_
                              refine G_bipush X0 hx (pc' := 101) rfl (hb hby d_expd_99) (z := (93 : Int32)) rfl ?_
                              by_cases hc101_136 : v0 = (93 : Int32)
                              · refine G_icmpYes X0 hx (pc' := 110) (hb hby d_expd_101) (teq hc101_136).1 (by decide) (by decide) ?_
                                refine G_iconst X0 hx (pc' := 111) rfl (hb hby d_expd_110) (z := (1 : Int32)) rfl ?_
                                refine Go.fin X0 hlk (v := some (.int (1 : Int32))) (fun h => by rw [Bd.returns] at h; cases h) (by decide) (by decide) ?_ (fun fs hr => retN X0 hx (t := .boolean) Bd.returns (by simp) (hb hby d_expd_111) hr)
                                show Q_expd Z v0 h0 n0 _ s₁.heap _
                                rw [e0]
                                exact ⟨congrArg (fun z => some (Value.int z)) (by unfold own_exp; simp [*]), N0, rfl⟩
                              · refine G_icmpNo X0 hx (pc' := 104) rfl (hb hby d_expd_101) (feq hc101_136).1 ?_
                                refine G_iloadN X0 hx (pc' := 105) rfl (hb hby d_expd_104) rfl ?_
                                refine G_bipush X0 hx (pc' := 107) rfl (hb hby d_expd_105) (z := (64 : Int32)) rfl ?_
                                by_cases hc107_137 : v0 = (64 : Int32)
                                · refine G_icmpNo X0 hx (pc' := 110) rfl (hb hby d_expd_107) (teq hc107_137).2 ?_
                                  refine G_iconst X0 hx (pc' := 111) rfl (hb hby d_expd_110) (z := (1 : Int32)) rfl ?_
                                  refine Go.fin X0 hlk (v := some (.int (1 : Int32))) (fun h => by rw [Bd.returns] at h; cases h) (by decide) (by decide) ?_ (fun fs hr => retN X0 hx (t := .boolean) Bd.returns (by simp) (hb hby d_expd_111) hr)
                                  show Q_expd Z v0 h0 n0 _ s₁.heap _
                                  rw [e0]
                                  exact ⟨congrArg (fun z => some (Value.int z)) (by unfold own_exp; simp [*]), N0, rfl⟩
                                · refine G_icmpYes X0 hx (pc' := 112) (hb hby d_expd_107) (feq hc107_137).2 (by decide) (by decide) ?_
                                  refine G_iloadN X0 hx (pc' := 113) rfl (hb hby d_expd_112) rfl ?_
                                  refine G_bipush X0 hx (pc' := 115) rfl (hb hby d_expd_113) (z := (33 : Int32)) rfl ?_
                                  by_cases hc115_138 : v0 = (33 : Int32)
                                  · refine G_icmpYes X0 hx (pc' := 178) (hb hby d_expd_115) (teq hc115_138).1 (by decide) (by decide) ?_
                                    refine G_iconst X0 hx (pc' := 179) rfl (hb hby d_expd_178) (z := (1 : Int32)) rfl ?_
                                    refine Go.fin X0 hlk (v := some (.int (1 : Int32))) (fun h => by rw [Bd.returns] at h; cases h) (by decide) (by decide) ?_ (fun fs hr => retN X0 hx (t := .boolean) Bd.returns (by simp) (hb hby d_expd_179) hr)
                                    show Q_expd Z v0 h0 n0 _ s₁.heap _
                                    rw [e0]
                                    exact ⟨congrArg (fun z => some (Value.int z)) (by unfold own_exp; simp [*]), N0, rfl⟩
                                  · refine G_icmpNo X0 hx (pc' := 118) rfl (hb hby d_expd_115) (feq hc115_138).1 ?_
                                    refine G_iloadN X0 hx (pc' := 119) rfl (hb hby d_expd_118) rfl ?_
                                    refine G_bipush X0 hx (pc' := 121) rfl (hb hby d_expd_119) (z := (36 : Int32)) rfl ?_
                                    by_cases hc121_139 : v0 = (36 : Int32)
                                    · refine G_icmpYes X0 hx (pc' := 178) (hb hby d_expd_121) (teq hc121_139).1 (by decide) (by decide) ?_
                                      refine G_iconst X0 hx (pc' := 179) rfl (hb hby d_expd_178) (z := (1 : Int32)) rfl ?_
                                      refine Go.fin X0 hlk (v := some (.int (1 : Int32))) (fun h => by rw [Bd.returns] at h; cases h) (by decide) (by decide) ?_ (fun fs hr => retN X0 hx (t := .boolean) Bd.returns (by simp) (hb hby d_expd_179) hr)
                                      show Q_expd Z v0 h0 n0 _ s₁.heap _
                                      rw [e0]
                                      exact ⟨congrArg (fun z => some (Value.int z)) (by unfold own_exp; simp [*]), N0, rfl⟩
                                    · refine G_icmpNo X0 hx (pc' := 124) rfl (hb hby d_expd_121) (feq hc121_139).1 ?_
                                      refine G_iloadN X0 hx (pc' := 125) rfl (hb hby d_expd_124) rfl ?_
                                      refine G_bipush X0 hx (pc' := 127) rfl (hb hby d_expd_125) (z := (38 : Int32)) rfl ?_
                                      by_cases hc127_140 : v0 = (38 : Int32)
                                      · refine G_icmpYes X0 hx (pc' := 178) (hb hby d_expd_127) (teq hc127_140).1 (by decide) (by decide) ?_
                                        refine G_iconst X0 hx (pc' := 179) rfl (hb hby d_expd_178) (z := (1 : Int32)) rfl ?_
                                        refine Go.fin X0 hlk (v := some (.int (1 : Int32))) (fun h => by rw [Bd.returns] at h; cases h) (by decide) (by decide) ?_ (fun fs hr => retN X0 hx (t := .boolean) Bd.returns (by simp) (hb hby d_expd_179) hr)
                                        show Q_expd Z v0 h0 n0 _ s₁.heap _
                                        rw [e0]
                                        exact ⟨congrArg (fun z => some (Value.int z)) (by unfold own_exp; simp [*]), N0, rfl⟩
                                      · refine G_icmpNo X0 hx (pc' := 130) rfl (hb hby d_expd_127) (feq hc127_140).1 ?_
                                        refine G_iloadN X0 hx (pc' := 131) rfl (hb hby d_expd_130) rfl ?_
                                        refine G_bipush X0 hx (pc' := 133) rfl (hb hby d_expd_131) (z := (39 : Int32)) rfl ?_
                                        by_cases hc133_141 : v0 = (39 : Int32)
                                        · refine G_icmpYes X0 hx (pc' := 178) (hb hby d_expd_133) (teq hc133_141).1 (by decide) (by decide) ?_
                                          refine G_iconst X0 hx (pc' := 179) rfl (hb hby d_expd_178) (z := (1 : Int32)) rfl ?_
                                          refine Go.fin X0 hlk (v := some (.int (1 : Int32))) (fun h => by rw [Bd.returns] at h; cases h) (by decide) (by decide) ?_ (fun fs hr => retN X0 hx (t := .boolean) Bd.returns (by simp) (hb hby d_expd_179) hr)
                                          show Q_expd Z v0 h0 n0 _ s₁.heap _
                                          rw [e0]
                                          exact ⟨congrArg (fun z => some (Value.int z)) (by unfold own_exp; simp [*]), N0, rfl⟩
                                        · refine G_icmpNo X0 hx (pc' := 136) rfl (hb hby d_expd_133) (feq hc133_141).1 ?_
                                          refine G_iloadN X0 hx (pc' := 137) rfl (hb hby d_expd_136) rfl ?_
                                          refine G_bipush X0 hx (pc' := 139) rfl (hb hby d_expd_137) (z := (40 : Int32)) rfl ?_
                                          by_cases hc139_142 : v0 = (40 : Int32)
                                          · refine G_icmpYes X0 hx (pc' := 178) (hb hby d_expd_139) (teq hc139_142).1 (by decide) (by decide) ?_
                                            refine G_iconst X0 hx (pc' := 179) rfl (hb hby d_expd_178) (z := (1 : Int32)) rfl ?_
                                            refine Go.fin X0 hlk (v := some (.int (1 : Int32))) (fun h => by rw [Bd.returns] at h; cases h) (by decide) (by decide) ?_ (fun fs hr => retN X0 hx (t := .boolean) Bd.returns (by simp) (hb hby d_expd_179) hr)
                                            show Q_expd Z v0 h0 n0 _ s₁.heap _
                                            rw [e0]
                                            exact ⟨congrArg (fun z => some (Value.int z)) (by unfold own_exp; simp [*]), N0, rfl⟩
                                          · refine G_icmpNo X0 hx (pc' := 142) rfl (hb hby d_expd_139) (feq hc139_142).1 ?_
                                            refine G_iloadN X0 hx (pc' := 143) rfl (hb hby d_expd_142) rfl ?_
                                            refine G_bipush X0 hx (pc' := 145) rfl (hb hby d_expd_143) (z := (41 : Int32)) rfl ?_
                                            by_cases hc145_143 : v0 = (41 : Int32)
                                            · refine G_icmpYes X0 hx (pc' := 178) (hb hby d_expd_145) (teq hc145_143).1 (by decide) (by decide) ?_
                                              refine G_iconst X0 hx (pc' := 179) rfl (hb hby d_expd_178) (z := (1 : Int32)) rfl ?_
                                              refine Go.fin X0 hlk (v := some (.int (1 : Int32))) (fun h => by rw [Bd.returns] at h; cases h) (by decide) (by decide) ?_ (fun fs hr => retN X0 hx (t := .boolean) Bd.returns (by simp) (hb hby d_expd_179) hr)
                                              show Q_expd Z v0 h0 n0 _ s₁.heap _
                                              rw [e0]
                                              exact ⟨congrArg (fun z => some (Value.int z)) (by unfold own_exp; simp [*]), N0, rfl⟩
                                            · refine G_icmpNo X0 hx (pc' := 148) rfl (hb hby d_expd_145) (feq hc145_143).1 ?_
                                              refine G_iloadN X0 hx (pc' := 149) rfl (hb hby d_expd_148) rfl ?_
                                              refine G_bipush X0 hx (pc' := 151) rfl (hb hby d_expd_149) (z := (42 : Int32)) rfl ?_
                                              by_cases hc151_144 : v0 = (42 : Int32)
                                              · refine G_icmpYes X0 hx (pc' := 178) (hb hby d_expd_151) (teq hc151_144).1 (by decide) (by decide) ?_
                                                refine G_iconst X0 hx (pc' := 179) rfl (hb hby d_expd_178) (z := (1 : Int32)) rfl ?_
                                                refine Go.fin X0 hlk (v := some (.int (1 : Int32))) (fun h => by rw [Bd.returns] at h; cases h) (by decide) (by decide) ?_ (fun fs hr => retN X0 hx (t := .boolean) Bd.returns (by simp) (hb hby d_expd_179) hr)
                                                show Q_expd Z v0 h0 n0 _ s₁.heap _
                                                rw [e0]
                                                exact ⟨congrArg (fun z => some (Value.int z)) (by unfold own_exp; simp [*]), N0, rfl⟩
                                              · refine G_icmpNo X0 hx (pc' := 154) rfl (hb hby d_expd_151) (feq hc151_144).1 ?_
                                                refine G_iloadN X0 hx (pc' := 155) rfl (hb hby d_expd_154) rfl ?_
                                                refine G_bipush X0 hx (pc' := 157) rfl (hb hby d_expd_155) (z := (43 : Int32)) rfl ?_
                                                by_cases hc157_145 : v0 = (43 : Int32)
                                                · refine G_icmpYes X0 hx (pc' := 178) (hb hby d_expd_157) (teq hc157_145).1 (by decide) (by decide) ?_
                                                  refine G_iconst X0 hx (pc' := 179) rfl (hb hby d_expd_178) (z := (1 : Int32)) rfl ?_
                                                  refine Go.fin X0 hlk (v := some (.int (1 : Int32))) (fun h => by rw [Bd.returns] at h; cases h) (by decide) (by decide) ?_ (fun fs hr => retN X0 hx (t := .boolean) Bd.returns (by simp) (hb hby d_expd_179) hr)
                                                  show Q_expd Z v0 h0 n0 _ s₁.heap _
                                                  rw [e0]
                                                  exact ⟨congrArg (fun z => some (Value.int z)) (by unfold own_exp; simp [*]), N0, rfl⟩
                                                · refine G_icmpNo X0 hx (pc' := 160) rfl (hb hby d_expd_157) (feq hc157_145).1 ?_
                                                  refine G_iloadN X0 hx (pc' := 161) rfl (hb hby d_expd_160) rfl ?_
                                                  refine G_bipush X0 hx (pc' := 163) rfl (hb hby d_expd_161) (z := (44 : Int32)) rfl ?_
                                                  by_cases hc163_146 : v0 = (44 : Int32)
                                                  · refine G_icmpYes X0 hx (pc' := 178) (hb hby d_expd_163) (teq hc163_146).1 (by decide) (by decide) ?_
                                                    refine G_iconst X0 hx (pc' := 179) rfl (hb hby d_expd_178) (z := (1 : Int32)) rfl ?_
                                                    refine Go.fin X0 hlk (v := some (.int (1 : Int32))) (fun h => by rw [Bd.returns] at h; cases h) (by decide) (by decide) ?_ (fun fs hr => retN X0 hx (t := .boolean) Bd.returns (by simp) (hb hby d_expd_179) hr)
                                                    show Q_expd Z v0 h0 n0 _ s₁.heap _
                                                    rw [e0]
                                                    exact ⟨congrArg (fun z => some (Value.int z)) (by unfold own_exp; simp [*]), N0, rfl⟩
                                                  · refine G_icmpNo X0 hx (pc' := 166) rfl (hb hby d_expd_163) (feq hc163_146).1 ?_
                                                    refine G_iloadN X0 hx (pc' := 167) rfl (hb hby d_expd_166) rfl ?_
                                                    refine G_bipush X0 hx (pc' := 169) rfl (hb hby d_expd_167) (z := (59 : Int32)) rfl ?_
                                                    by_cases hc169_147 : v0 = (59 : Int32)
                                                    · refine G_icmpYes X0 hx (pc' := 178) (hb hby d_expd_169) (teq hc169_147).1 (by decide) (by decide) ?_
                                                      refine G_iconst X0 hx (pc' := 179) rfl (hb hby d_expd_178) (z := (1 : Int32)) rfl ?_
                                                      refine Go.fin X0 hlk (v := some (.int (1 : Int32))) (fun h => by rw [Bd.returns] at h; cases h) (by decide) (by decide) ?_ (fun fs hr => retN X0 hx (t := .boolean) Bd.returns (by simp) (hb hby d_expd_179) hr)
                                                      show Q_expd Z v0 h0 n0 _ s₁.heap _
                                                      rw [e0]
                                                      exact ⟨congrArg (fun z => some (Value.int z)) (by unfold own_exp; simp [*]), N0, rfl⟩
                                                    · refine G_icmpNo X0 hx (pc' := 172) rfl (hb hby d_expd_169) (feq hc169_147).1 ?_
                                                      refine G_iloadN X0 hx (pc' := 173) rfl (hb hby d_expd_172) rfl ?_
                                                      refine G_bipush X0 hx (pc' := 175) rfl (hb hby d_expd_173) (z := (61 : Int32)) rfl ?_
                                                      by_cases hc175_148 : v0 = (61 : Int32)
                                                      · refine G_icmpNo X0 hx (pc' := 178) rfl (hb hby d_expd_175) (teq hc175_148).2 ?_
                                                        refine G_iconst X0 hx (pc' := 179) rfl (hb hby d_expd_178) (z := (1 : Int32)) rfl ?_
                                                        refine Go.fin X0 hlk (v := some (.int (1 : Int32))) (fun h => by rw [Bd.returns] at h; cases h) (by decide) (by decide) ?_ (fun fs hr => retN X0 hx (t := .boolean) Bd.returns (by simp) (hb hby d_expd_179) hr)
                                                        show Q_expd Z v0 h0 n0 _ s₁.heap _
                                                        rw [e0]
                                                        exact ⟨congrArg (fun z => some (Value.int z)) (by unfold own_exp; simp [*]), N0, rfl⟩
                                                      · refine G_icmpYes X0 hx (pc' := 180) (hb hby d_expd_175) (feq hc175_148).2 (by decide) (by decide) ?_
                                                        refine G_iloadN X0 hx (pc' := 181) rfl (hb hby d_expd_180) rfl ?_
                                                        refine G_bipush X0 hx (pc' := 183) rfl (hb hby d_expd_181) (z := (37 : Int32)) rfl ?_
                                                        by_cases hc183_149 : v0 = (37 : Int32)
                                                        · refine G_icmpNo X0 hx (pc' := 186) rfl (hb hby d_expd_183) (teq hc183_149).2 ?_
                                                          refine G_iconst X0 hx (pc' := 187) rfl (hb hby d_expd_186) (z := (1 : Int32)) rfl ?_
                                                          refine Go.fin X0 hlk (v := some (.int (1 : Int32))) (fun h => by rw [Bd.returns] at h; cases h) (by decide) (by decide) ?_ (fun fs hr => retN X0 hx (t := .boolean) Bd.returns (by simp) (hb hby d_expd_187) hr)
                                                          show Q_expd Z v0 h0 n0 _ s₁.heap _
                                                          rw [e0]
                                                          exact ⟨congrArg (fun z => some (Value.int z)) (by unfold own_exp; simp [*]), N0, rfl⟩
                                                        · refine G_icmpYes X0 hx (pc' := 188) (hb hby d_expd_183) (feq hc183_149).2 (by decide) (by decide) ?_
                                                          refine G_iconst X0 hx (pc' := 189) rfl (hb hby d_expd_188) (z := (0 : Int32)) rfl ?_
                                                          refine Go.fin X0 hlk (v := some (.int (0 : Int32))) (fun h => by rw [Bd.returns] at h; cases h) (by decide) (by decide) ?_ (fun fs hr => retN X0 hx (t := .boolean) Bd.returns (by simp) (hb hby d_expd_189) hr)
                                                          show Q_expd Z v0 h0 n0 _ s₁.heap _
                                                          rw [e0]
                                                          exact ⟨congrArg (fun z => some (Value.int z)) (by unfold own_exp; simp [*]), N0, rfl⟩
          · refine G_icmpNo X0 hx (pc' := 40) rfl (hb hby d_expd_37) (flt hc37_126).2.2.1 ?_
            refine G_iconst X0 hx (pc' := 41) rfl (hb hby d_expd_40) (z := (1 : Int32)) rfl ?_
            refine Go.fin X0 hlk (v := some (.int (1 : Int32))) (fun h => by rw [Bd.returns] at h; cases h) (by decide) (by decide) ?_ (fun fs hr => retN X0 hx (t := .boolean) Bd.returns (by simp) (hb hby d_expd_41) hr)
            show Q_expd Z v0 h0 n0 _ s₁.heap _
            rw [e0]
            exact ⟨congrArg (fun z => some (Value.int z)) (by unfold own_exp; simp [*]), N0, rfl⟩
      · refine G_icmpNo X0 hx (pc' := 20) rfl (hb hby d_expd_17) (flt hc17_101).1 ?_
        refine G_iloadN X0 hx (pc' := 21) rfl (hb hby d_expd_20) rfl ?_
        refine G_bipush X0 hx (pc' := 23) rfl (hb hby d_expd_21) (z := (122 : Int32)) rfl ?_
        by_cases hc23_150 : (122 : Int32) < v0
        · refine G_icmpYes X0 hx (pc' := 28) (hb hby d_expd_23) (tlt hc23_150).2.2.1 (by decide) (by decide) ?_
          refine G_iloadN X0 hx (pc' := 29) rfl (hb hby d_expd_28) rfl ?_
          refine G_bipush X0 hx (pc' := 31) rfl (hb hby d_expd_29) (z := (48 : Int32)) rfl ?_
          by_cases hc31_151 : v0 < (48 : Int32)
          · refine G_icmpYes X0 hx (pc' := 42) (hb hby d_expd_31) (tlt hc31_151).1 (by decide) (by decide) ?_
            refine G_iloadN X0 hx (pc' := 43) rfl (hb hby d_expd_42) rfl ?_
            refine G_bipush X0 hx (pc' := 45) rfl (hb hby d_expd_43) (z := (45 : Int32)) rfl ?_
            by_cases hc45_152 : v0 = (45 : Int32)
            · refine G_icmpYes X0 hx (pc' := 66) (hb hby d_expd_45) (teq hc45_152).1 (by decide) (by decide) ?_
              refine G_iconst X0 hx (pc' := 67) rfl (hb hby d_expd_66) (z := (1 : Int32)) rfl ?_
              refine Go.fin X0 hlk (v := some (.int (1 : Int32))) (fun h => by rw [Bd.returns] at h; cases h) (by decide) (by decide) ?_ (fun fs hr => retN X0 hx (t := .boolean) Bd.returns (by simp) (hb hby d_expd_67) hr)
              show Q_expd Z v0 h0 n0 _ s₁.heap _
              rw [e0]
              exact ⟨congrArg (fun z => some (Value.int z)) (by unfold own_exp; simp [*]), N0, rfl⟩
            · refine G_icmpNo X0 hx (pc' := 48) rfl (hb hby d_expd_45) (feq hc45_152).1 ?_
              refine G_iloadN X0 hx (pc' := 49) rfl (hb hby d_expd_48) rfl ?_
              refine G_bipush X0 hx (pc' := 51) rfl (hb hby d_expd_49) (z := (46 : Int32)) rfl ?_
              by_cases hc51_153 : v0 = (46 : Int32)
              · refine G_icmpYes X0 hx (pc' := 66) (hb hby d_expd_51) (teq hc51_153).1 (by decide) (by decide) ?_
                refine G_iconst X0 hx (pc' := 67) rfl (hb hby d_expd_66) (z := (1 : Int32)) rfl ?_
                refine Go.fin X0 hlk (v := some (.int (1 : Int32))) (fun h => by rw [Bd.returns] at h; cases h) (by decide) (by decide) ?_ (fun fs hr => retN X0 hx (t := .boolean) Bd.returns (by simp) (hb hby d_expd_67) hr)
                show Q_expd Z v0 h0 n0 _ s₁.heap _
                rw [e0]
                exact ⟨congrArg (fun z => some (Value.int z)) (by unfold own_exp; simp [*]), N0, rfl⟩
              · refine G_icmpNo X0 hx (pc' := 54) rfl (hb hby d_expd_51) (feq hc51_153).1 ?_
                refine G_iloadN X0 hx (pc' := 55) rfl (hb hby d_expd_54) rfl ?_
                refine G_bipush X0 hx (pc' := 57) rfl (hb hby d_expd_55) (z := (95 : Int32)) rfl ?_
                by_cases hc57_154 : v0 = (95 : Int32)
                · refine G_icmpYes X0 hx (pc' := 66) (hb hby d_expd_57) (teq hc57_154).1 (by decide) (by decide) ?_
                  refine G_iconst X0 hx (pc' := 67) rfl (hb hby d_expd_66) (z := (1 : Int32)) rfl ?_
                  refine Go.fin X0 hlk (v := some (.int (1 : Int32))) (fun h => by rw [Bd.returns] at h; cases h) (by decide) (by decide) ?_ (fun fs hr => retN X0 hx (t := .boolean) Bd.returns (by simp) (hb hby d_expd_67) hr)
                  show Q_expd Z v0 h0 n0 _ s₁.heap _
                  rw [e0]
                  exact ⟨congrArg (fun z => some (Value.int z)) (by unfold own_exp; simp [*]), N0, rfl⟩
                · refine G_icmpNo X0 hx (pc' := 60) rfl (hb hby d_expd_57) (feq hc57_154).1 ?_
                  refine G_iloadN X0 hx (pc' := 61) rfl (hb hby d_expd_60) rfl ?_
                  refine G_bipush X0 hx (pc' := 63) rfl (hb hby d_expd_61) (z := (126 : Int32)) rfl ?_
                  by_cases hc63_155 : v0 = (126 : Int32)
                  · refine G_icmpNo X0 hx (pc' := 66) rfl (hb hby d_expd_63) (teq hc63_155).2 ?_
                    refine G_iconst X0 hx (pc' := 67) rfl (hb hby d_expd_66) (z := (1 : Int32)) rfl ?_
                    refine Go.fin X0 hlk (v := some (.int (1 : Int32))) (fun h => by rw [Bd.returns] at h; cases h) (by decide) (by decide) ?_ (fun fs hr => retN X0 hx (t := .boolean) Bd.returns (by simp) (hb hby d_expd_67) hr)
                    show Q_expd Z v0 h0 n0 _ s₁.heap _
                    rw [e0]
                    exact ⟨congrArg (fun z => some (Value.int z)) (by unfold own_exp; simp [*]), N0, rfl⟩
                  · refine G_icmpYes X0 hx (pc' := 68) (hb hby d_expd_63) (feq hc63_155).2 (by decide) (by decide) ?_
                    refine G_iloadN X0 hx (pc' := 69) rfl (hb hby d_expd_68) rfl ?_
                    refine G_bipush X0 hx (pc' := 71) rfl (hb hby d_expd_69) (z := (58 : Int32)) rfl ?_
                    by_cases hc71_156 : v0 = (58 : Int32)
                    · refine G_icmpYes X0 hx (pc' := 110) (hb hby d_expd_71) (teq hc71_156).1 (by decide) (by decide) ?_
                      refine G_iconst X0 hx (pc' := 111) rfl (hb hby d_expd_110) (z := (1 : Int32)) rfl ?_
                      refine Go.fin X0 hlk (v := some (.int (1 : Int32))) (fun h => by rw [Bd.returns] at h; cases h) (by decide) (by decide) ?_ (fun fs hr => retN X0 hx (t := .boolean) Bd.returns (by simp) (hb hby d_expd_111) hr)
                      show Q_expd Z v0 h0 n0 _ s₁.heap _
                      rw [e0]
                      exact ⟨congrArg (fun z => some (Value.int z)) (by unfold own_exp; simp [*]), N0, rfl⟩
                    · refine G_icmpNo X0 hx (pc' := 74) rfl (hb hby d_expd_71) (feq hc71_156).1 ?_
                      refine G_iloadN X0 hx (pc' := 75) rfl (hb hby d_expd_74) rfl ?_
                      refine G_bipush X0 hx (pc' := 77) rfl (hb hby d_expd_75) (z := (47 : Int32)) rfl ?_
                      by_cases hc77_157 : v0 = (47 : Int32)
                      · refine G_icmpYes X0 hx (pc' := 110) (hb hby d_expd_77) (teq hc77_157).1 (by decide) (by decide) ?_
                        refine G_iconst X0 hx (pc' := 111) rfl (hb hby d_expd_110) (z := (1 : Int32)) rfl ?_
                        refine Go.fin X0 hlk (v := some (.int (1 : Int32))) (fun h => by rw [Bd.returns] at h; cases h) (by decide) (by decide) ?_ (fun fs hr => retN X0 hx (t := .boolean) Bd.returns (by simp) (hb hby d_expd_111) hr)
                        show Q_expd Z v0 h0 n0 _ s₁.heap _
                        rw [e0]
                        exact ⟨congrArg (fun z => some (Value.int z)) (by unfold own_exp; simp [*]), N0, rfl⟩
                      · refine G_icmpNo X0 hx (pc' := 80) rfl (hb hby d_expd_77) (feq hc77_157).1 ?_
                        refine G_iloadN X0 hx (pc' := 81) rfl (hb hby d_expd_80) rfl ?_
                        refine G_bipush X0 hx (pc' := 83) rfl (hb hby d_expd_81) (z := (63 : Int32)) rfl ?_
                        by_cases hc83_158 : v0 = (63 : Int32)
                        · refine G_icmpYes X0 hx (pc' := 110) (hb hby d_expd_83) (teq hc83_158).1 (by decide) (by decide) ?_
                          refine G_iconst X0 hx (pc' := 111) rfl (hb hby d_expd_110) (z := (1 : Int32)) rfl ?_
                          refine Go.fin X0 hlk (v := some (.int (1 : Int32))) (fun h => by rw [Bd.returns] at h; cases h) (by decide) (by decide) ?_ (fun fs hr => retN X0 hx (t := .boolean) Bd.returns (by simp) (hb hby d_expd_111) hr)
                          show Q_expd Z v0 h0 n0 _ s₁.heap _
                          rw [e0]
                          exact ⟨congrArg (fun z => some (Value.int z)) (by unfold own_exp; simp [*]), N0, rfl⟩
                        · refine G_icmpNo X0 hx (pc' := 86) rfl (hb hby d_expd_83) (feq hc83_158).1 ?_
                          refine G_iloadN X0 hx (pc' := 87) rfl (hb hby d_expd_86) rfl ?_
                          refine G_bipush X0 hx (pc' := 89) rfl (hb hby d_expd_87) (z := (35 : Int32)) rfl ?_
                          by_cases hc89_159 : v0 = (35 : Int32)
                          · refine G_icmpYes X0 hx (pc' := 110) (hb hby d_expd_89) (teq hc89_159).1 (by decide) (by decide) ?_
                            refine G_iconst X0 hx (pc' := 111) rfl (hb hby d_expd_110) (z := (1 : Int32)) rfl ?_
                            refine Go.fin X0 hlk (v := some (.int (1 : Int32))) (fun h => by rw [Bd.returns] at h; cases h) (by decide) (by decide) ?_ (fun fs hr => retN X0 hx (t := .boolean) Bd.returns (by simp) (hb hby d_expd_111) hr)
                            show Q_expd Z v0 h0 n0 _ s₁.heap _
                            rw [e0]
                            exact ⟨congrArg (fun z => some (Value.int z)) (by unfold own_exp; simp [*]), N0, rfl⟩
                          · refine G_icmpNo X0 hx (pc' := 92) rfl (hb hby d_expd_89) (feq hc89_159).1 ?_
                            refine G_iloadN X0 hx (pc' := 93) rfl (hb hby d_expd_92) rfl ?_
                            refine G_bipush X0 hx (pc' := 95) rfl (hb hby d_expd_93) (z := (91 : Int32)) rfl ?_
                            by_cases hc95_160 : v0 = (91 : Int32)
                            · refine G_icmpYes X0 hx (pc' := 110) (hb hby d_expd_95) (teq hc95_160).1 (by decide) (by decide) ?_
                              refine G_iconst X0 hx (pc' := 111) rfl (hb hby d_expd_110) (z := (1 : Int32)) rfl ?_
                              refine Go.fin X0 hlk (v := some (.int (1 : Int32))) (fun h => by rw [Bd.returns] at h; cases h) (by decide) (by decide) ?_ (fun fs hr => retN X0 hx (t := .boolean) Bd.returns (by simp) (hb hby d_expd_111) hr)
                              show Q_expd Z v0 h0 n0 _ s₁.heap _
                              rw [e0]
                              exact ⟨congrArg (fun z => some (Value.int z)) (by unfold own_exp; simp [*]), N0, rfl⟩
                            · refine G_icmpNo X0 hx (pc' := 98) rfl (hb hby d_expd_95) (feq hc95_160).1 ?_
                              refine G_iloadN X0 hx (pc' := 99) rfl (hb hby d_expd_98) rfl ?_
                              refine G_bipush X0 hx (pc' := 101) rfl (hb hby d_expd_99) (z := (93 : Int32)) rfl ?_
                              by_cases hc101_161 : v0 = (93 : Int32)
                              · refine G_icmpYes X0 hx (pc' := 110) (hb hby d_expd_101) (teq hc101_161).1 (by decide) (by decide) ?_
                                refine G_iconst X0 hx (pc' := 111) rfl (hb hby d_expd_110) (z := (1 : Int32)) rfl ?_
                                refine Go.fin X0 hlk (v := some (.int (1 : Int32))) (fun h => by rw [Bd.returns] at h; cases h) (by decide) (by decide) ?_ (fun fs hr => retN X0 hx (t := .boolean) Bd.returns (by simp) (hb hby d_expd_111) hr)
                                show Q_expd Z v0 h0 n0 _ s₁.heap _
                                rw [e0]
                                exact ⟨congrArg (fun z => some (Value.int z)) (by unfold own_exp; simp [*]), N0, rfl⟩
                              · refine G_icmpNo X0 hx (pc' := 104) rfl (hb hby d_expd_101) (feq hc101_161).1 ?_
                                refine G_iloadN X0 hx (pc' := 105) rfl (hb hby d_expd_104) rfl ?_
                                refine G_bipush X0 hx (pc' := 107) rfl (hb hby d_expd_105) (z := (64 : Int32)) rfl ?_
                                by_cases hc107_162 : v0 = (64 : Int32)
                                · refine G_icmpNo X0 hx (pc' := 110) rfl (hb hby d_expd_107) (teq hc107_162).2 ?_
                                  refine G_iconst X0 hx (pc' := 111) rfl (hb hby d_expd_110) (z := (1 : Int32)) rfl ?_
                                  refine Go.fin X0 hlk (v := some (.int (1 : Int32))) (fun h => by rw [Bd.returns] at h; cases h) (by decide) (by decide) ?_ (fun fs hr => retN X0 hx (t := .boolean) Bd.returns (by simp) (hb hby d_expd_111) hr)
                                  show Q_expd Z v0 h0 n0 _ s₁.heap _
                                  rw [e0]
                                  exact ⟨congrArg (fun z => some (Value.int z)) (by unfold own_exp; simp [*]), N0, rfl⟩
                                · refine G_icmpYes X0 hx (pc' := 112) (hb hby d_expd_107) (feq hc107_162).2 (by decide) (by decide) ?_
                                  refine G_iloadN X0 hx (pc' := 113) rfl (hb hby d_expd_112) rfl ?_
                                  refine G_bipush X0 hx (pc' := 115) rfl (hb hby d_expd_113) (z := (33 : Int32)) rfl ?_
                                  by_cases hc115_163 : v0 = (33 : Int32)
                                  · refine G_icmpYes X0 hx (pc' := 178) (hb hby d_expd_115) (teq hc115_163).1 (by decide) (by decide) ?_
                                    refine G_iconst X0 hx (pc' := 179) rfl (hb hby d_expd_178) (z := (1 : Int32)) rfl ?_
                                    refine Go.fin X0 hlk (v := some (.int (1 : Int32))) (fun h => by rw [Bd.returns] at h; cases h) (by decide) (by decide) ?_ (fun fs hr => retN X0 hx (t := .boolean) Bd.returns (by simp) (hb hby d_expd_179) hr)
                                    show Q_expd Z v0 h0 n0 _ s₁.heap _
                                    rw [e0]
                                    exact ⟨congrArg (fun z => some (Value.int z)) (by unfold own_exp; simp [*]), N0, rfl⟩
                                  · refine G_icmpNo X0 hx (pc' := 118) rfl (hb hby d_expd_115) (feq hc115_163).1 ?_
                                    refine G_iloadN X0 hx (pc' := 119) rfl (hb hby d_expd_118) rfl ?_
                                    refine G_bipush X0 hx (pc' := 121) rfl (hb hby d_expd_119) (z := (36 : Int32)) rfl ?_
                                    by_cases hc121_164 : v0 = (36 : Int32)
                                    · refine G_icmpYes X0 hx (pc' := 178) (hb hby d_expd_121) (teq hc121_164).1 (by decide) (by decide) ?_
                                      refine G_iconst X0 hx (pc' := 179) rfl (hb hby d_expd_178) (z := (1 : Int32)) rfl ?_
                                      refine Go.fin X0 hlk (v := some (.int (1 : Int32))) (fun h => by rw [Bd.returns] at h; cases h) (by decide) (by decide) ?_ (fun fs hr => retN X0 hx (t := .boolean) Bd.returns (by simp) (hb hby d_expd_179) hr)
                                      show Q_expd Z v0 h0 n0 _ s₁.heap _
                                      rw [e0]
                                      exact ⟨congrArg (fun z => some (Value.int z)) (by unfold own_exp; simp [*]), N0, rfl⟩
                                    · refine G_icmpNo X0 hx (pc' := 124) rfl (hb hby d_expd_121) (feq hc121_164).1 ?_
                                      refine G_iloadN X0 hx (pc' := 125) rfl (hb hby d_expd_124) rfl ?_
                                      refine G_bipush X0 hx (pc' := 127) rfl (hb hby d_expd_125) (z := (38 : Int32)) rfl ?_
                                      by_cases hc127_165 : v0 = (38 : Int32)
                                      · refine G_icmpYes X0 hx (pc' := 178) (hb hby d_expd_127) (teq hc127_165).1 (by decide) (by decide) ?_
                                        refine G_iconst X0 hx (pc' := 179) rfl (hb hby d_expd_178) (z := (1 : Int32)) rfl ?_
                                        refine Go.fin X0 hlk (v := some (.int (1 : Int32))) (fun h => by rw [Bd.returns] at h; cases h) (by decide) (by decide) ?_ (fun fs hr => retN X0 hx (t := .boolean) Bd.returns (by simp) (hb hby d_expd_179) hr)
                                        show Q_expd Z v0 h0 n0 _ s₁.heap _
                                        rw [e0]
                                        exact ⟨congrArg (fun z => some (Value.int z)) (by unfold own_exp; simp [*]), N0, rfl⟩
                                      · refine G_icmpNo X0 hx (pc' := 130) rfl (hb hby d_expd_127) (feq hc127_165).1 ?_
                                        refine G_iloadN X0 hx (pc' := 131) rfl (hb hby d_expd_130) rfl ?_
                                        refine G_bipush X0 hx (pc' := 133) rfl (hb hby d_expd_131) (z := (39 : Int32)) rfl ?_
                                        by_cases hc133_166 : v0 = (39 : Int32)
                                        · refine G_icmpYes X0 hx (pc' := 178) (hb hby d_expd_133) (teq hc133_166).1 (by decide) (by decide) ?_
                                          refine G_iconst X0 hx (pc' := 179) rfl (hb hby d_expd_178) (z := (1 : Int32)) rfl ?_
                                          refine Go.fin X0 hlk (v := some (.int (1 : Int32))) (fun h => by rw [Bd.returns] at h; cases h) (by decide) (by decide) ?_ (fun fs hr => retN X0 hx (t := .boolean) Bd.returns (by simp) (hb hby d_expd_179) hr)
                                          show Q_expd Z v0 h0 n0 _ s₁.heap _
                                          rw [e0]
                                          exact ⟨congrArg (fun z => some (Value.int z)) (by unfold own_exp; simp [*]), N0, rfl⟩
                                        · refine G_icmpNo X0 hx (pc' := 136) rfl (hb hby d_expd_133) (feq hc133_166).1 ?_
                                          refine G_iloadN X0 hx (pc' := 137) rfl (hb hby d_expd_136) rfl ?_
                                          refine G_bipush X0 hx (pc' := 139) rfl (hb hby d_expd_137) (z := (40 : Int32)) rfl ?_
                                          by_cases hc139_167 : v0 = (40 : Int32)
                                          · refine G_icmpYes X0 hx (pc' := 178) (hb hby d_expd_139) (teq hc139_167).1 (by decide) (by decide) ?_
                                            refine G_iconst X0 hx (pc' := 179) rfl (hb hby d_expd_178) (z := (1 : Int32)) rfl ?_
                                            refine Go.fin X0 hlk (v := some (.int (1 : Int32))) (fun h => by rw [Bd.returns] at h; cases h) (by decide) (by decide) ?_ (fun fs hr => retN X0 hx (t := .boolean) Bd.returns (by simp) (hb hby d_expd_179) hr)
                                            show Q_expd Z v0 h0 n0 _ s₁.heap _
                                            rw [e0]
                                            exact ⟨congrArg (fun z => some (Value.int z)) (by unfold own_exp; simp [*]), N0, rfl⟩
                                          · refine G_icmpNo X0 hx (pc' := 142) rfl (hb hby d_expd_139) (feq hc139_167).1 ?_
                                            refine G_iloadN X0 hx (pc' := 143) rfl (hb hby d_expd_142) rfl ?_
                                            refine G_bipush X0 hx (pc' := 145) rfl (hb hby d_expd_143) (z := (41 : Int32)) rfl ?_
                                            by_cases hc145_168 : v0 = (41 : Int32)
                                            · refine G_icmpYes X0 hx (pc' := 178) (hb hby d_expd_145) (teq hc145_168).1 (by decide) (by decide) ?_
                                              refine G_iconst X0 hx (pc' := 179) rfl (hb hby d_expd_178) (z := (1 : Int32)) rfl ?_
                                              refine Go.fin X0 hlk (v := some (.int (1 : Int32))) (fun h => by rw [Bd.returns] at h; cases h) (by decide) (by decide) ?_ (fun fs hr => retN X0 hx (t := .boolean) Bd.returns (by simp) (hb hby d_expd_179) hr)
                                              show Q_expd Z v0 h0 n0 _ s₁.heap _
                                              rw [e0]
                                              exact ⟨congrArg (fun z => some (Value.int z)) (by unfold own_exp; simp [*]), N0, rfl⟩
                                            · refine G_icmpNo X0 hx (pc' := 148) rfl (hb hby d_expd_145) (feq hc145_168).1 ?_
                                              refine G_iloadN X0 hx (pc' := 149) rfl (hb hby d_expd_148) rfl ?_
                                              refine G_bipush X0 hx (pc' := 151) rfl (hb hby d_expd_149) (z := (42 : Int32)) rfl ?_
                                              by_cases hc151_169 : v0 = (42 : Int32)
                                              · refine G_icmpYes X0 hx (pc' := 178) (hb hby d_expd_151) (teq hc151_169).1 (by decide) (by decide) ?_
                                                refine G_iconst X0 hx (pc' := 179) rfl (hb hby d_expd_178) (z := (1 : Int32)) rfl ?_
                                                refine Go.fin X0 hlk (v := some (.int (1 : Int32))) (fun h => by rw [Bd.returns] at h; cases h) (by decide) (by decide) ?_ (fun fs hr => retN X0 hx (t := .boolean) Bd.returns (by simp) (hb hby d_expd_179) hr)
                                                show Q_expd Z v0 h0 n0 _ s₁.heap _
                                                rw [e0]
                                                exact ⟨congrArg (fun z => some (Value.int z)) (by unfold own_exp; simp [*]), N0, rfl⟩
                                              · refine G_icmpNo X0 hx (pc' := 154) rfl (hb hby d_expd_151) (feq hc151_169).1 ?_
                                                refine G_iloadN X0 hx (pc' := 155) rfl (hb hby d_expd_154) rfl ?_
                                                refine G_bipush X0 hx (pc' := 157) rfl (hb hby d_expd_155) (z := (43 : Int32)) rfl ?_
                                                by_cases hc157_170 : v0 = (43 : Int32)
                                                · refine G_icmpYes X0 hx (pc' := 178) (hb hby d_expd_157) (teq hc157_170).1 (by decide) (by decide) ?_
                                                  refine G_iconst X0 hx (pc' := 179) rfl (hb hby d_expd_178) (z := (1 : Int32)) rfl ?_
                                                  refine Go.fin X0 hlk (v := some (.int (1 : Int32))) (fun h => by rw [Bd.returns] at h; cases h) (by decide) (by decide) ?_ (fun fs hr => retN X0 hx (t := .boolean) Bd.returns (by simp) (hb hby d_expd_179) hr)
                                                  show Q_expd Z v0 h0 n0 _ s₁.heap _
                                                  rw [e0]
                                                  exact ⟨congrArg (fun z => some (Value.int z)) (by unfold own_exp; simp [*]), N0, rfl⟩
                                                · refine G_icmpNo X0 hx (pc' := 160) rfl (hb hby d_expd_157) (feq hc157_170).1 ?_
                                                  refine G_iloadN X0 hx (pc' := 161) rfl (hb hby d_expd_160) rfl ?_
                                                  refine G_bipush X0 hx (pc' := 163) rfl (hb hby d_expd_161) (z := (44 : Int32)) rfl ?_
                                                  by_cases hc163_171 : v0 = (44 : Int32)
                                                  · refine G_icmpYes X0 hx (pc' := 178) (hb hby d_expd_163) (teq hc163_171).1 (by decide) (by decide) ?_
                                                    refine G_iconst X0 hx (pc' := 179) rfl (hb hby d_expd_178) (z := (1 : Int32)) rfl ?_
                                                    refine Go.fin X0 hlk (v := some (.int (1 : Int32))) (fun h => by rw [Bd.returns] at h; cases h) (by decide) (by decide) ?_ (fun fs hr => retN X0 hx (t := .boolean) Bd.returns (by simp) (hb hby d_expd_179) hr)
                                                    show Q_expd Z v0 h0 n0 _ s₁.heap _
                                                    rw [e0]
                                                    exact ⟨congrArg (fun z => some (Value.int z)) (by unfold own_exp; simp [*]), N0, rfl⟩
                                                  · refine G_icmpNo X0 hx (pc' := 166) rfl (hb hby d_expd_163) (feq hc163_171).1 ?_
                                                    refine G_iloadN X0 hx (pc' := 167) rfl (hb hby d_expd_166) rfl ?_
                                                    refine G_bipush X0 hx (pc' := 169) rfl (hb hby d_expd_167) (z := (59 : Int32)) rfl ?_
                                                    by_cases hc169_172 : v0 = (59 : Int32)
                                                    · refine G_icmpYes X0 hx (pc' := 178) (hb hby d_expd_169) (teq hc169_172).1 (by decide) (by decide) ?_
                                                      refine G_iconst X0 hx (pc' := 179) rfl (hb hby d_expd_178) (z := (1 : Int32)) rfl ?_
                                                      refine Go.fin X0 hlk (v := some (.int (1 : Int32))) (fun h => by rw [Bd.returns] at h; cases h) (by decide) (by decide) ?_ (fun fs hr => retN X0 hx (t := .boolean) Bd.returns (by simp) (hb hby d_expd_179) hr)
                                                      show Q_expd Z v0 h0 n0 _ s₁.heap _
                                                      rw [e0]
                                                      exact ⟨congrArg (fun z => some (Value.int z)) (by unfold own_exp; simp [*]), N0, rfl⟩
                                                    · refine G_icmpNo X0 hx (pc' := 172) rfl (hb hby d_expd_169) (feq hc169_172).1 ?_
                                                      refine G_iloadN X0 hx (pc' := 173) rfl (hb hby d_expd_172) rfl ?_
                                                      refine G_bipush X0 hx (pc' := 175) rfl (hb hby d_expd_173) (z := (61 : Int32)) rfl ?_
                                                      by_cases hc175_173 : v0 = (61 : Int32)
                                                      · refine G_icmpNo X0 hx (pc' := 178) rfl (hb hby d_expd_175) (teq hc175_173).2 ?_
                                                        refine G_iconst X0 hx (pc' := 179) rfl (hb hby d_expd_178) (z := (1 : Int32)) rfl ?_
                                                        refine Go.fin X0 hlk (v := some (.int (1 : Int32))) (fun h => by rw [Bd.returns] at h; cases h) (by decide) (by decide) ?_ (fun fs hr => retN X0 hx (t := .boolean) Bd.returns (by simp) (hb hby d_expd_179) hr)
                                                        show Q_expd Z v0 h0 n0 _ s₁.heap _
                                                        rw [e0]
                                                        exact ⟨congrArg (fun z => some (Value.int z)) (by unfold own_exp; simp [*]), N0, rfl⟩
                                                      · refine G_icmpYes X0 hx (pc' := 180) (hb hby d_expd_175) (feq hc175_173).2 (by decide) (by decide) ?_
                                                        refine G_iloadN X0 hx (pc' := 181) rfl (hb hby d_expd_180) rfl ?_
                                                        refine G_bipush X0 hx (pc' := 183) rfl (hb hby d_expd_181) (z := (37 : Int32)) rfl ?_
                                                        by_cases hc183_174 : v0 = (37 : Int32)
                                                        · refine G_icmpNo X0 hx (pc' := 186) rfl (hb hby d_expd_183) (teq hc183_174).2 ?_
                                                          refine G_iconst X0 hx (pc' := 187) rfl (hb hby d_expd_186) (z := (1 : Int32)) rfl ?_
                                                          refine Go.fin X0 hlk (v := some (.int (1 : Int32))) (fun h => by rw [Bd.returns] at h; cases h) (by decide) (by decide) ?_ (fun fs hr => retN X0 hx (t := .boolean) Bd.returns (by simp) (hb hby d_expd_187) hr)
                                                          show Q_expd Z v0 h0 n0 _ s₁.heap _
                                                          rw [e0]
                                                          exact ⟨congrArg (fun z => some (Value.int z)) (by unfold own_exp; simp [*]), N0, rfl⟩
                                                        · refine G_icmpYes X0 hx (pc' := 188) (hb hby d_expd_183) (feq hc183_174).2 (by decide) (by decide) ?_
                                                          refine G_iconst X0 hx (pc' := 189) rfl (hb hby d_expd_188) (z := (0 : Int32)) rfl ?_
                                                          refine Go.fin X0 hlk (v := some (.int (0 : Int32))) (fun h => by rw [Bd.returns] at h; cases h) (by decide) (by decide) ?_ (fun fs hr => retN X0 hx (t := .boolean) Bd.returns (by simp) (hb hby d_expd_189) hr)
                                                          show Q_expd Z v0 h0 n0 _ s₁.heap _
                                                          rw [e0]
                                                          exact ⟨congrArg (fun z => some (Value.int z)) (by unfold own_exp; simp [*]), N0, rfl⟩
          · refine G_icmpNo X0 hx (pc' := 34) rfl (hb hby d_expd_31) (flt hc31_151).1 ?_
            refine G_iloadN X0 hx (pc' := 35) rfl (hb hby d_expd_34) rfl ?_
            refine G_bipush X0 hx (pc' := 37) rfl (hb hby d_expd_35) (z := (57 : Int32)) rfl ?_
            by_cases hc37_175 : (57 : Int32) < v0
            · refine G_icmpYes X0 hx (pc' := 42) (hb hby d_expd_37) (tlt hc37_175).2.2.1 (by decide) (by decide) ?_
              refine G_iloadN X0 hx (pc' := 43) rfl (hb hby d_expd_42) rfl ?_
              refine G_bipush X0 hx (pc' := 45) rfl (hb hby d_expd_43) (z := (45 : Int32)) rfl ?_
              by_cases hc45_176 : v0 = (45 : Int32)
              · refine G_icmpYes X0 hx (pc' := 66) (hb hby d_expd_45) (teq hc45_176).1 (by decide) (by decide) ?_
                refine G_iconst X0 hx (pc' := 67) rfl (hb hby d_expd_66) (z := (1 : Int32)) rfl ?_
                refine Go.fin X0 hlk (v := some (.int (1 : Int32))) (fun h => by rw [Bd.returns] at h; cases h) (by decide) (by decide) ?_ (fun fs hr => retN X0 hx (t := .boolean) Bd.returns (by simp) (hb hby d_expd_67) hr)
                show Q_expd Z v0 h0 n0 _ s₁.heap _
                rw [e0]
                exact ⟨congrArg (fun z => some (Value.int z)) (by unfold own_exp; simp [*]), N0, rfl⟩
              · refine G_icmpNo X0 hx (pc' := 48) rfl (hb hby d_expd_45) (feq hc45_176).1 ?_
                refine G_iloadN X0 hx (pc' := 49) rfl (hb hby d_expd_48) rfl ?_
                refine G_bipush X0 hx (pc' := 51) rfl (hb hby d_expd_49) (z := (46 : Int32)) rfl ?_
                by_cases hc51_177 : v0 = (46 : Int32)
                · refine G_icmpYes X0 hx (pc' := 66) (hb hby d_expd_51) (teq hc51_177).1 (by decide) (by decide) ?_
                  refine G_iconst X0 hx (pc' := 67) rfl (hb hby d_expd_66) (z := (1 : Int32)) rfl ?_
                  refine Go.fin X0 hlk (v := some (.int (1 : Int32))) (fun h => by rw [Bd.returns] at h; cases h) (by decide) (by decide) ?_ (fun fs hr => retN X0 hx (t := .boolean) Bd.returns (by simp) (hb hby d_expd_67) hr)
                  show Q_expd Z v0 h0 n0 _ s₁.heap _
                  rw [e0]
                  exact ⟨congrArg (fun z => some (Value.int z)) (by unfold own_exp; simp [*]), N0, rfl⟩
                · refine G_icmpNo X0 hx (pc' := 54) rfl (hb hby d_expd_51) (feq hc51_177).1 ?_
                  refine G_iloadN X0 hx (pc' := 55) rfl (hb hby d_expd_54) rfl ?_
                  refine G_bipush X0 hx (pc' := 57) rfl (hb hby d_expd_55) (z := (95 : Int32)) rfl ?_
                  by_cases hc57_178 : v0 = (95 : Int32)
                  · refine G_icmpYes X0 hx (pc' := 66) (hb hby d_expd_57) (teq hc57_178).1 (by decide) (by decide) ?_
                    refine G_iconst X0 hx (pc' := 67) rfl (hb hby d_expd_66) (z := (1 : Int32)) rfl ?_
                    refine Go.fin X0 hlk (v := some (.int (1 : Int32))) (fun h => by rw [Bd.returns] at h; cases h) (by decide) (by decide) ?_ (fun fs hr => retN X0 hx (t := .boolean) Bd.returns (by simp) (hb hby d_expd_67) hr)
                    show Q_expd Z v0 h0 n0 _ s₁.heap _
                    rw [e0]
                    exact ⟨congrArg (fun z => some (Value.int z)) (by unfold own_exp; simp [*]), N0, rfl⟩
                  · refine G_icmpNo X0 hx (pc' := 60) rfl (hb hby d_expd_57) (feq hc57_178).1 ?_
                    refine G_iloadN X0 hx (pc' := 61) rfl (hb hby d_expd_60) rfl ?_
                    refine G_bipush X0 hx (pc' := 63) rfl (hb hby d_expd_61) (z := (126 : Int32)) rfl ?_
                    by_cases hc63_179 : v0 = (126 : Int32)
                    · refine G_icmpNo X0 hx (pc' := 66) rfl (hb hby d_expd_63) (teq hc63_179).2 ?_
                      refine G_iconst X0 hx (pc' := 67) rfl (hb hby d_expd_66) (z := (1 : Int32)) rfl ?_
                      refine Go.fin X0 hlk (v := some (.int (1 : Int32))) (fun h => by rw [Bd.returns] at h; cases h) (by decide) (by decide) ?_ (fun fs hr => retN X0 hx (t := .boolean) Bd.returns (by simp) (hb hby d_expd_67) hr)
                      show Q_expd Z v0 h0 n0 _ s₁.heap _
                      rw [e0]
                      exact ⟨congrArg (fun z => some (Value.int z)) (by unfold own_exp; simp [*]), N0, rfl⟩
                    · refine G_icmpYes X0 hx (pc' := 68) (hb hby d_expd_63) (feq hc63_179).2 (by decide) (by decide) ?_
                      refine G_iloadN X0 hx (pc' := 69) rfl (hb hby d_expd_68) rfl ?_
                      refine G_bipush X0 hx (pc' := 71) rfl (hb hby d_expd_69) (z := (58 : Int32)) rfl ?_
                      by_cases hc71_180 : v0 = (58 : Int32)
                      · refine G_icmpYes X0 hx (pc' := 110) (hb hby d_expd_71) (teq hc71_180).1 (by decide) (by decide) ?_
                        refine G_iconst X0 hx (pc' := 111) rfl (hb hby d_expd_110) (z := (1 : Int32)) rfl ?_
                        refine Go.fin X0 hlk (v := some (.int (1 : Int32))) (fun h => by rw [Bd.returns] at h; cases h) (by decide) (by decide) ?_ (fun fs hr => retN X0 hx (t := .boolean) Bd.returns (by simp) (hb hby d_expd_111) hr)
                        show Q_expd Z v0 h0 n0 _ s₁.heap _
                        rw [e0]
                        exact ⟨congrArg (fun z => some (Value.int z)) (by unfold own_exp; simp [*]), N0, rfl⟩
                      · refine G_icmpNo X0 hx (pc' := 74) rfl (hb hby d_expd_71) (feq hc71_180).1 ?_
                        refine G_iloadN X0 hx (pc' := 75) rfl (hb hby d_expd_74) rfl ?_
                        refine G_bipush X0 hx (pc' := 77) rfl (hb hby d_expd_75) (z := (47 : Int32)) rfl ?_
                        by_cases hc77_181 : v0 = (47 : Int32)
                        · refine G_icmpYes X0 hx (pc' := 110) (hb hby d_expd_77) (teq hc77_181).1 (by decide) (by decide) ?_
                          refine G_iconst X0 hx (pc' := 111) rfl (hb hby d_expd_110) (z := (1 : Int32)) rfl ?_
                          refine Go.fin X0 hlk (v := some (.int (1 : Int32))) (fun h => by rw [Bd.returns] at h; cases h) (by decide) (by decide) ?_ (fun fs hr => retN X0 hx (t := .boolean) Bd.returns (by simp) (hb hby d_expd_111) hr)
                          show Q_expd Z v0 h0 n0 _ s₁.heap _
                          rw [e0]
                          exact ⟨congrArg (fun z => some (Value.int z)) (by unfold own_exp; simp [*]), N0, rfl⟩
                        · refine G_icmpNo X0 hx (pc' := 80) rfl (hb hby d_expd_77) (feq hc77_181).1 ?_
                          refine G_iloadN X0 hx (pc' := 81) rfl (hb hby d_expd_80) rfl ?_
                          refine G_bipush X0 hx (pc' := 83) rfl (hb hby d_expd_81) (z := (63 : Int32)) rfl ?_
                          by_cases hc83_182 : v0 = (63 : Int32)
                          · refine G_icmpYes X0 hx (pc' := 110) (hb hby d_expd_83) (teq hc83_182).1 (by decide) (by decide) ?_
                            refine G_iconst X0 hx (pc' := 111) rfl (hb hby d_expd_110) (z := (1 : Int32)) rfl ?_
                            refine Go.fin X0 hlk (v := some (.int (1 : Int32))) (fun h => by rw [Bd.returns] at h; cases h) (by decide) (by decide) ?_ (fun fs hr => retN X0 hx (t := .boolean) Bd.returns (by simp) (hb hby d_expd_111) hr)
                            show Q_expd Z v0 h0 n0 _ s₁.heap _
                            rw [e0]
                            exact ⟨congrArg (fun z => some (Value.int z)) (by unfold own_exp; simp [*]), N0, rfl⟩
                          · refine G_icmpNo X0 hx (pc' := 86) rfl (hb hby d_expd_83) (feq hc83_182).1 ?_
                            refine G_iloadN X0 hx (pc' := 87) rfl (hb hby d_expd_86) rfl ?_
                            refine G_bipush X0 hx (pc' := 89) rfl (hb hby d_expd_87) (z := (35 : Int32)) rfl ?_
                            by_cases hc89_183 : v0 = (35 : Int32)
                            · refine G_icmpYes X0 hx (pc' := 110) (hb hby d_expd_89) (teq hc89_183).1 (by decide) (by decide) ?_
                              refine G_iconst X0 hx (pc' := 111) rfl (hb hby d_expd_110) (z := (1 : Int32)) rfl ?_
                              refine Go.fin X0 hlk (v := some (.int (1 : Int32))) (fun h => by rw [Bd.returns] at h; cases h) (by decide) (by decide) ?_ (fun fs hr => retN X0 hx (t := .boolean) Bd.returns (by simp) (hb hby d_expd_111) hr)
                              show Q_expd Z v0 h0 n0 _ s₁.heap _
                              rw [e0]
                              exact ⟨congrArg (fun z => some (Value.int z)) (by unfold own_exp; simp [*]), N0, rfl⟩
                            · refine G_icmpNo X0 hx (pc' := 92) rfl (hb hby d_expd_89) (feq hc89_183).1 ?_
                              refine G_iloadN X0 hx (pc' := 93) rfl (hb hby d_expd_92) rfl ?_
                              refine G_bipush X0 hx (pc' := 95) rfl (hb hby d_expd_93) (z := (91 : Int32)) rfl ?_
                              by_cases hc95_184 : v0 = (91 : Int32)
                              · refine G_icmpYes X0 hx (pc' := 110) (hb hby d_expd_95) (teq hc95_184).1 (by decide) (by decide) ?_
                                refine G_iconst X0 hx (pc' := 111) rfl (hb hby d_expd_110) (z := (1 : Int32)) rfl ?_
                                refine Go.fin X0 hlk (v := some (.int (1 : Int32))) (fun h => by rw [Bd.returns] at h; cases h) (by decide) (by decide) ?_ (fun fs hr => retN X0 hx (t := .boolean) Bd.returns (by simp) (hb hby d_expd_111) hr)
                                show Q_expd Z v0 h0 n0 _ s₁.heap _
                                rw [e0]
                                exact ⟨congrArg (fun z => some (Value.int z)) (by unfold own_exp; simp [*]), N0, rfl⟩
                              · refine G_icmpNo X0 hx (pc' := 98) rfl (hb hby d_expd_95) (feq hc95_184).1 ?_
                                refine G_iloadN X0 hx (pc' := 99) rfl (hb hby d_expd_98) rfl ?_
                                refine G_bipush X0 hx (pc' := 101) rfl (hb hby d_expd_99) (z := (93 : Int32)) rfl ?_
                                by_cases hc101_185 : v0 = (93 : Int32)
                                · refine G_icmpYes X0 hx (pc' := 110) (hb hby d_expd_101) (teq hc101_185).1 (by decide) (by decide) ?_
                                  refine G_iconst X0 hx (pc' := 111) rfl (hb hby d_expd_110) (z := (1 : Int32)) rfl ?_
                                  refine Go.fin X0 hlk (v := some (.int (1 : Int32))) (fun h => by rw [Bd.returns] at h; cases h) (by decide) (by decide) ?_ (fun fs hr => retN X0 hx (t := .boolean) Bd.returns (by simp) (hb hby d_expd_111) hr)
                                  show Q_expd Z v0 h0 n0 _ s₁.heap _
                                  rw [e0]
                                  exact ⟨congrArg (fun z => some (Value.int z)) (by unfold own_exp; simp [*]), N0, rfl⟩
                                · refine G_icmpNo X0 hx (pc' := 104) rfl (hb hby d_expd_101) (feq hc101_185).1 ?_
                                  refine G_iloadN X0 hx (pc' := 105) rfl (hb hby d_expd_104) rfl ?_
                                  refine G_bipush X0 hx (pc' := 107) rfl (hb hby d_expd_105) (z := (64 : Int32)) rfl ?_
                                  by_cases hc107_186 : v0 = (64 : Int32)
                                  · refine G_icmpNo X0 hx (pc' := 110) rfl (hb hby d_expd_107) (teq hc107_186).2 ?_
                                    refine G_iconst X0 hx (pc' := 111) rfl (hb hby d_expd_110) (z := (1 : Int32)) rfl ?_
                                    refine Go.fin X0 hlk (v := some (.int (1 : Int32))) (fun h => by rw [Bd.returns] at h; cases h) (by decide) (by decide) ?_ (fun fs hr => retN X0 hx (t := .boolean) Bd.returns (by simp) (hb hby d_expd_111) hr)
                                    show Q_expd Z v0 h0 n0 _ s₁.heap _
                                    rw [e0]
                                    exact ⟨congrArg (fun z => some (Value.int z)) (by unfold own_exp; simp [*]), N0, rfl⟩
                                  · refine G_icmpYes X0 hx (pc' := 112) (hb hby d_expd_107) (feq hc107_186).2 (by decide) (by decide) ?_
                                    refine G_iloadN X0 hx (pc' := 113) rfl (hb hby d_expd_112) rfl ?_
                                    refine G_bipush X0 hx (pc' := 115) rfl (hb hby d_expd_113) (z := (33 : Int32)) rfl ?_
                                    by_cases hc115_187 : v0 = (33 : Int32)
                                    · refine G_icmpYes X0 hx (pc' := 178) (hb hby d_expd_115) (teq hc115_187).1 (by decide) (by decide) ?_
                                      refine G_iconst X0 hx (pc' := 179) rfl (hb hby d_expd_178) (z := (1 : Int32)) rfl ?_
                                      refine Go.fin X0 hlk (v := some (.int (1 : Int32))) (fun h => by rw [Bd.returns] at h; cases h) (by decide) (by decide) ?_ (fun fs hr => retN X0 hx (t := .boolean) Bd.returns (by simp) (hb hby d_expd_179) hr)
                                      show Q_expd Z v0 h0 n0 _ s₁.heap _
                                      rw [e0]
                                      exact ⟨congrArg (fun z => some (Value.int z)) (by unfold own_exp; simp [*]), N0, rfl⟩
                                    · refine G_icmpNo X0 hx (pc' := 118) rfl (hb hby d_expd_115) (feq hc115_187).1 ?_
                                      refine G_iloadN X0 hx (pc' := 119) rfl (hb hby d_expd_118) rfl ?_
                                      refine G_bipush X0 hx (pc' := 121) rfl (hb hby d_expd_119) (z := (36 : Int32)) rfl ?_
                                      by_cases hc121_188 : v0 = (36 : Int32)
                                      · refine G_icmpYes X0 hx (pc' := 178) (hb hby d_expd_121) (teq hc121_188).1 (by decide) (by decide) ?_
                                        refine G_iconst X0 hx (pc' := 179) rfl (hb hby d_expd_178) (z := (1 : Int32)) rfl ?_
                                        refine Go.fin X0 hlk (v := some (.int (1 : Int32))) (fun h => by rw [Bd.returns] at h; cases h) (by decide) (by decide) ?_ (fun fs hr => retN X0 hx (t := .boolean) Bd.returns (by simp) (hb hby d_expd_179) hr)
                                        show Q_expd Z v0 h0 n0 _ s₁.heap _
                                        rw [e0]
                                        exact ⟨congrArg (fun z => some (Value.int z)) (by unfold own_exp; simp [*]), N0, rfl⟩
                                      · refine G_icmpNo X0 hx (pc' := 124) rfl (hb hby d_expd_121) (feq hc121_188).1 ?_
                                        refine G_iloadN X0 hx (pc' := 125) rfl (hb hby d_expd_124) rfl ?_
                                        refine G_bipush X0 hx (pc' := 127) rfl (hb hby d_expd_125) (z := (38 : Int32)) rfl ?_
                                        by_cases hc127_189 : v0 = (38 : Int32)
                                        · refine G_icmpYes X0 hx (pc' := 178) (hb hby d_expd_127) (teq hc127_189).1 (by decide) (by decide) ?_
                                          refine G_iconst X0 hx (pc' := 179) rfl (hb hby d_expd_178) (z := (1 : Int32)) rfl ?_
                                          refine Go.fin X0 hlk (v := some (.int (1 : Int32))) (fun h => by rw [Bd.returns] at h; cases h) (by decide) (by decide) ?_ (fun fs hr => retN X0 hx (t := .boolean) Bd.returns (by simp) (hb hby d_expd_179) hr)
                                          show Q_expd Z v0 h0 n0 _ s₁.heap _
                                          rw [e0]
                                          exact ⟨congrArg (fun z => some (Value.int z)) (by unfold own_exp; simp [*]), N0, rfl⟩
                                        · refine G_icmpNo X0 hx (pc' := 130) rfl (hb hby d_expd_127) (feq hc127_189).1 ?_
                                          refine G_iloadN X0 hx (pc' := 131) rfl (hb hby d_expd_130) rfl ?_
                                          refine G_bipush X0 hx (pc' := 133) rfl (hb hby d_expd_131) (z := (39 : Int32)) rfl ?_
                                          by_cases hc133_190 : v0 = (39 : Int32)
                                          · refine G_icmpYes X0 hx (pc' := 178) (hb hby d_expd_133) (teq hc133_190).1 (by decide) (by decide) ?_
                                            refine G_iconst X0 hx (pc' := 179) rfl (hb hby d_expd_178) (z := (1 : Int32)) rfl ?_
                                            refine Go.fin X0 hlk (v := some (.int (1 : Int32))) (fun h => by rw [Bd.returns] at h; cases h) (by decide) (by decide) ?_ (fun fs hr => retN X0 hx (t := .boolean) Bd.returns (by simp) (hb hby d_expd_179) hr)
                                            show Q_expd Z v0 h0 n0 _ s₁.heap _
                                            rw [e0]
                                            exact ⟨congrArg (fun z => some (Value.int z)) (by unfold own_exp; simp [*]), N0, rfl⟩
                                          · refine G_icmpNo X0 hx (pc' := 136) rfl (hb hby d_expd_133) (feq hc133_190).1 ?_
                                            refine G_iloadN X0 hx (pc' := 137) rfl (hb hby d_expd_136) rfl ?_
                                            refine G_bipush X0 hx (pc' := 139) rfl (hb hby d_expd_137) (z := (40 : Int32)) rfl ?_
                                            by_cases hc139_191 : v0 = (40 : Int32)
                                            · refine G_icmpYes X0 hx (pc' := 178) (hb hby d_expd_139) (teq hc139_191).1 (by decide) (by decide) ?_
                                              refine G_iconst X0 hx (pc' := 179) rfl (hb hby d_expd_178) (z := (1 : Int32)) rfl ?_
                                              refine Go.fin X0 hlk (v := some (.int (1 : Int32))) (fun h => by rw [Bd.returns] at h; cases h) (by decide) (by decide) ?_ (fun fs hr => retN X0 hx (t := .boolean) Bd.returns (by simp) (hb hby d_expd_179) hr)
                                              show Q_expd Z v0 h0 n0 _ s₁.heap _
                                              rw [e0]
                                              exact ⟨congrArg (fun z => some (Value.int z)) (by unfold own_exp; simp [*]), N0, rfl⟩
                                            · refine G_icmpNo X0 hx (pc' := 142) rfl (hb hby d_expd_139) (feq hc139_191).1 ?_
                                              refine G_iloadN X0 hx (pc' := 143) rfl (hb hby d_expd_142) rfl ?_
                                              refine G_bipush X0 hx (pc' := 145) rfl (hb hby d_expd_143) (z := (41 : Int32)) rfl ?_
                                              by_cases hc145_192 : v0 = (41 : Int32)
                                              · refine G_icmpYes X0 hx (pc' := 178) (hb hby d_expd_145) (teq hc145_192).1 (by decide) (by decide) ?_
                                                refine G_iconst X0 hx (pc' := 179) rfl (hb hby d_expd_178) (z := (1 : Int32)) rfl ?_
                                                refine Go.fin X0 hlk (v := some (.int (1 : Int32))) (fun h => by rw [Bd.returns] at h; cases h) (by decide) (by decide) ?_ (fun fs hr => retN X0 hx (t := .boolean) Bd.returns (by simp) (hb hby d_expd_179) hr)
                                                show Q_expd Z v0 h0 n0 _ s₁.heap _
                                                rw [e0]
                                                exact ⟨congrArg (fun z => some (Value.int z)) (by unfold own_exp; simp [*]), N0, rfl⟩
                                              · refine G_icmpNo X0 hx (pc' := 148) rfl (hb hby d_expd_145) (feq hc145_192).1 ?_
                                                refine G_iloadN X0 hx (pc' := 149) rfl (hb hby d_expd_148) rfl ?_
                                                refine G_bipush X0 hx (pc' := 151) rfl (hb hby d_expd_149) (z := (42 : Int32)) rfl ?_
                                                by_cases hc151_193 : v0 = (42 : Int32)
                                                · refine G_icmpYes X0 hx (pc' := 178) (hb hby d_expd_151) (teq hc151_193).1 (by decide) (by decide) ?_
                                                  refine G_iconst X0 hx (pc' := 179) rfl (hb hby d_expd_178) (z := (1 : Int32)) rfl ?_
                                                  refine Go.fin X0 hlk (v := some (.int (1 : Int32))) (fun h => by rw [Bd.returns] at h; cases h) (by decide) (by decide) ?_ (fun fs hr => retN X0 hx (t := .boolean) Bd.returns (by simp) (hb hby d_expd_179) hr)
                                                  show Q_expd Z v0 h0 n0 _ s₁.heap _
                                                  rw [e0]
                                                  exact ⟨congrArg (fun z => some (Value.int z)) (by unfold own_exp; simp [*]), N0, rfl⟩
                                                · refine G_icmpNo X0 hx (pc' := 154) rfl (hb hby d_expd_151) (feq hc151_193).1 ?_
                                                  refine G_iloadN X0 hx (pc' := 155) rfl (hb hby d_expd_154) rfl ?_
                                                  refine G_bipush X0 hx (pc' := 157) rfl (hb hby d_expd_155) (z := (43 : Int32)) rfl ?_
                                                  by_cases hc157_194 : v0 = (43 : Int32)
                                                  · refine G_icmpYes X0 hx (pc' := 178) (hb hby d_expd_157) (teq hc157_194).1 (by decide) (by decide) ?_
                                                    refine G_iconst X0 hx (pc' := 179) rfl (hb hby d_expd_178) (z := (1 : Int32)) rfl ?_
                                                    refine Go.fin X0 hlk (v := some (.int (1 : Int32))) (fun h => by rw [Bd.returns] at h; cases h) (by decide) (by decide) ?_ (fun fs hr => retN X0 hx (t := .boolean) Bd.returns (by simp) (hb hby d_expd_179) hr)
                                                    show Q_expd Z v0 h0 n0 _ s₁.heap _
                                                    rw [e0]
                                                    exact ⟨congrArg (fun z => some (Value.int z)) (by unfold own_exp; simp [*]), N0, rfl⟩
                                                  · refine G_icmpNo X0 hx (pc' := 160) rfl (hb hby d_expd_157) (feq hc157_194).1 ?_
                                                    refine G_iloadN X0 hx (pc' := 161) rfl (hb hby d_expd_160) rfl ?_
                                                    refine G_bipush X0 hx (pc' := 163) rfl (hb hby d_expd_161) (z := (44 : Int32)) rfl ?_
                                                    by_cases hc163_195 : v0 = (44 : Int32)
                                                    · refine G_icmpYes X0 hx (pc' := 178) (hb hby d_expd_163) (teq hc163_195).1 (by decide) (by decide) ?_
                                                      refine G_iconst X0 hx (pc' := 179) rfl (hb hby d_expd_178) (z := (1 : Int32)) rfl ?_
                                                      refine Go.fin X0 hlk (v := some (.int (1 : Int32))) (fun h => by rw [Bd.returns] at h; cases h) (by decide) (by decide) ?_ (fun fs hr => retN X0 hx (t := .boolean) Bd.returns (by simp) (hb hby d_expd_179) hr)
                                                      show Q_expd Z v0 h0 n0 _ s₁.heap _
                                                      rw [e0]
                                                      exact ⟨congrArg (fun z => some (Value.int z)) (by unfold own_exp; simp [*]), N0, rfl⟩
                                                    · refine G_icmpNo X0 hx (pc' := 166) rfl (hb hby d_expd_163) (feq hc163_195).1 ?_
                                                      refine G_iloadN X0 hx (pc' := 167) rfl (hb hby d_expd_166) rfl ?_
                                                      refine G_bipush X0 hx (pc' := 169) rfl (hb hby d_expd_167) (z := (59 : Int32)) rfl ?_
                                                      by_cases hc169_196 : v0 = (59 : Int32)
                                                      · refine G_icmpYes X0 hx (pc' := 178) (hb hby d_expd_169) (teq hc169_196).1 (by decide) (by decide) ?_
                                                        refine G_iconst X0 hx (pc' := 179) rfl (hb hby d_expd_178) (z := (1 : Int32)) rfl ?_
                                                        refine Go.fin X0 hlk (v := some (.int (1 : Int32))) (fun h => by rw [Bd.returns] at h; cases h) (by decide) (by decide) ?_ (fun fs hr => retN X0 hx (t := .boolean) Bd.returns (by simp) (hb hby d_expd_179) hr)
                                                        show Q_expd Z v0 h0 n0 _ s₁.heap _
                                                        rw [e0]
                                                        exact ⟨congrArg (fun z => some (Value.int z)) (by unfold own_exp; simp [*]), N0, rfl⟩
                                                      · refine G_icmpNo X0 hx (pc' := 172) rfl (hb hby d_expd_169) (feq hc169_196).1 ?_
                                                        refine G_iloadN X0 hx (pc' := 173) rfl (hb hby d_expd_172) rfl ?_
                                                        refine G_bipush X0 hx (pc' := 175) rfl (hb hby d_expd_173) (z := (61 : Int32)) rfl ?_
                                                        by_cases hc175_197 : v0 = (61 : Int32)
                                                        · refine G_icmpNo X0 hx (pc' := 178) rfl (hb hby d_expd_175) (teq hc175_197).2 ?_
                                                          refine G_iconst X0 hx (pc' := 179) rfl (hb hby d_expd_178) (z := (1 : Int32)) rfl ?_
                                                          refine Go.fin X0 hlk (v := some (.int (1 : Int32))) (fun h => by rw [Bd.returns] at h; cases h) (by decide) (by decide) ?_ (fun fs hr => retN X0 hx (t := .boolean) Bd.returns (by simp) (hb hby d_expd_179) hr)
                                                          show Q_expd Z v0 h0 n0 _ s₁.heap _
                                                          rw [e0]
                                                          exact ⟨congrArg (fun z => some (Value.int z)) (by unfold own_exp; simp [*]), N0, rfl⟩
                                                        · refine G_icmpYes X0 hx (pc' := 180) (hb hby d_expd_175) (feq hc175_197).2 (by decide) (by decide) ?_
                                                          refine G_iloadN X0 hx (pc' := 181) rfl (hb hby d_expd_180) rfl ?_
                                                          refine G_bipush X0 hx (pc' := 183) rfl (hb hby d_expd_181) (z := (37 : Int32)) rfl ?_
                                                          by_cases hc183_198 : v0 = (37 : Int32)
                                                          · refine G_icmpNo X0 hx (pc' := 186) rfl (hb hby d_expd_183) (teq hc183_198).2 ?_
                                                            refine G_iconst X0 hx (pc' := 187) rfl (hb hby d_expd_186) (z := (1 : Int32)) rfl ?_
                                                            refine Go.fin X0 hlk (v := some (.int (1 : Int32))) (fun h => by rw [Bd.returns] at h; cases h) (by decide) (by decide) ?_ (fun fs hr => retN X0 hx (t := .boolean) Bd.returns (by simp) (hb hby d_expd_187) hr)
                                                            show Q_expd Z v0 h0 n0 _ s₁.heap _
                                                            rw [e0]
                                                            exact ⟨congrArg (fun z => some (Value.int z)) (by unfold own_exp; simp [*]), N0, rfl⟩
                                                          · refine G_icmpYes X0 hx (pc' := 188) (hb hby d_expd_183) (feq hc183_198).2 (by decide) (by decide) ?_
                                                            refine G_iconst X0 hx (pc' := 189) rfl (hb hby d_expd_188) (z := (0 : Int32)) rfl ?_
                                                            refine Go.fin X0 hlk (v := some (.int (0 : Int32))) (fun h => by rw [Bd.returns] at h; cases h) (by decide) (by decide) ?_ (fun fs hr => retN X0 hx (t := .boolean) Bd.returns (by simp) (hb hby d_expd_189) hr)
                                                            show Q_expd Z v0 h0 n0 _ s₁.heap _
                                                            rw [e0]
                                                            exact ⟨congrArg (fun z => some (Value.int z)) (by unfold own_exp; simp [*]), N0, rfl⟩
            · refine G_icmpNo X0 hx (pc' := 40) rfl (hb hby d_expd_37) (flt hc37_175).2.2.1 ?_
              refine G_iconst X0 hx (pc' := 41) rfl (hb hby d_expd_40) (z := (1 : Int32)) rfl ?_
              refine Go.fin X0 hlk (v := some (.int (1 : Int32))) (fun h => by rw [Bd.returns] at h; cases h) (by decide) (by decide) ?_ (fun fs hr => retN X0 hx (t := .boolean) Bd.returns (by simp) (hb hby d_expd_41) hr)
              show Q_expd Z v0 h0 n0 _ s₁.heap _
              rw [e0]
              exact ⟨congrArg (fun z => some (Value.int z)) (by unfold own_exp; simp [*]), N0, rfl⟩
        · refine G_icmpNo X0 hx (pc' := 26) rfl (hb hby d_expd_23) (flt hc23_150).2.2.1 ?_
          refine G_iconst X0 hx (pc' := 27) rfl (hb hby d_expd_26) (z := (1 : Int32)) rfl ?_
          refine Go.fin X0 hlk (v := some (.int (1 : Int32))) (fun h => by rw [Bd.returns] at h; cases h) (by decide) (by decide) ?_ (fun fs hr => retN X0 hx (t := .boolean) Bd.returns (by simp) (hb hby d_expd_27) hr)
          show Q_expd Z v0 h0 n0 _ s₁.heap _
          rw [e0]
          exact ⟨congrArg (fun z => some (Value.int z)) (by unfold own_exp; simp [*]), N0, rfl⟩
    · refine G_icmpNo X0 hx (pc' := 12) rfl (hb hby d_expd_9) (flt hc9_100).2.2.1 ?_
      refine G_iconst X0 hx (pc' := 13) rfl (hb hby d_expd_12) (z := (1 : Int32)) rfl ?_
      refine Go.fin X0 hlk (v := some (.int (1 : Int32))) (fun h => by rw [Bd.returns] at h; cases h) (by decide) (by decide) ?_ (fun fs hr => retN X0 hx (t := .boolean) Bd.returns (by simp) (hb hby d_expd_13) hr)
      show Q_expd Z v0 h0 n0 _ s₁.heap _
      rw [e0]
      exact ⟨congrArg (fun z => some (Value.int z)) (by unfold own_exp; simp [*]), N0, rfl⟩
theorem pd_0 : parseMethodDescriptor "(I)Z" = some ⟨[.int], some .boolean⟩ := by decide +kernel
def f_law (v0 : Int32) (v1 : Int32) : Int32 := (if (f_isUri v0) = (own_exp v0) then (if (f_isUri (v1 &&& (127 : Int32))) = (own_exp (v1 &&& (127 : Int32))) then (1 : Int32) else (0 : Int32)) else (if (f_isUri (v1 &&& (127 : Int32))) = (own_exp (v1 &&& (127 : Int32))) then (0 : Int32) else (0 : Int32)))
theorem ef_law (m : MethodId) (v0 : Int32) (v1 : Int32) : entryFrame m #[(.int v0), (.int v1)] maxLocals = mkF m 0 #[.val (.int v0), .val (.int v1), .unset, .unset, .unset] [] := by first | (simp [entryFrame, mkF, argsToLocals, Value.category, maxLocals]; done) | rfl
def Q_law (Z : State) (v0 : Int32) (v1 : Int32) (aU : Addr) (h0 : Heap) (n0 : Nat) (v : Option Value) (h : Heap) (L : List Loc) : Prop := v = some (.int (f_law v0 v1)) ∧ Fr n0 L
set_option maxRecDepth 65536 in
set_option maxHeartbeats 40000000 in
theorem rm_law (l : Launch) (Z : State) (a0 : Array Value) (hw : ∀ d ∈ tables_1, d.before a0 Z = true) (ws : List Jvm.Cond) (v0 : Int32) (v1 : Int32) (aU : Addr) (h0 : Heap) (n0 : Nat) (Z0 : n0 ≤ h0.size) (f0_S_com_example_bound_prefix_boundprefix_UriReferences : Sta Z h0 "com/example/bound_prefix/boundprefix/UriReferences" "URI_CHARACTERS" "[J" (.ref aU)) (f1_J_aU : AJ Z h0 aU [(-5764607548804038656 : Int64), (5188146765093666815 : Int64)]) :
    MetFree l x (head1 (Jvm.Cond.code x code maxLocals ret :: ws) room_1) (fun a U => a = #[(.int v0), (.int v1)] ∧ Z.Warmed39 U.vm ∧ U.heap = h0) (fun _ _ _ _ _ => True) (fun _ U o U' => ∃ v L, o = .returned v ∧ Q_law Z v0 v1 aU h0 n0 v U'.heap L ∧ FrameEnd U o U' L room_1.cells room_1.slots) := by
  refine MetFree.of_bodySF (plainFor_of_name (by first | (simp [plainName, overriddenIn]; done) | decide +kernel)) hisR ?_
  intro p e s m args below meth c s₁ Bd hml0 hP hK
  obtain ⟨rfl, hZ, hh⟩ := hP
  have hx := Bd.exec
  have hby := Bd.bytes
  have hml : c.maxLocals = 5 := hml0
  have hown : s.vm.findClass "com/example/bound_prefix/boundprefix/UriReferencesIsUriCharacterPinLaw" = some m.cls := findClass_of_methodNamed Bd.named
  have hnm := (name_of_methodNamed Bd.named Bd.method).1
  have hlk : meth.locks = false := Bd.notSynchronized
  have X0 : Stand p l e room_1 s m #[(.int v0), (.int v1)] below meth c s₁ [] 0 0 := Stand.of_body Bd
  have e0 : s₁.heap = h0 := by rw [← hh, Bd.state]; rfl
  have N0 := Fr.nil n0
  refine Go.enter (Q := Q_law Z v0 v1 aU h0 n0) (C := room_1.cells) (N := room_1.slots) (ef_law m v0 v1) ?_
  show Go p e below s _ _ _ s₁ (mkF m 0 #[.val (.int v0), .val (.int v1), .unset, .unset, .unset] [])
  refine G_iloadN X0 hx (pc' := 1) rfl (hb hby at_0) rfl ?_
  refine G_bipush X0 hx (pc' := 3) rfl (hb hby at_1) (z := (127 : Int32)) rfl ?_
  refine G_iand X0 hx (pc' := 4) rfl (hb hby at_3)  ?_
  refine G_istoreN X0 hx (pc' := 5) rfl (hb hby at_4) (L' := #[.val (.int v0), .val (.int v1), .val (.int (v1 &&& (127 : Int32))), .unset, .unset]) rfl ?_
  refine G_iloadN X0 hx (pc' := 6) rfl (hb hby at_5) rfl ?_
  obtain ⟨_, _, ⟨T2, L2, k2, n2⟩, -, X2, ⟨Lc2, hQ2, l2, y2, z2⟩, st2⟩ := Jvm.LawKit.callS X0 hx (y := (⟨"com/example/bound_prefix/boundprefix/UriReferences", "isUriCharacter", "(I)Z"⟩ : MethodName)) hown (mvT hZ (hw _ (List.mem_of_getElem? (i := 0) rfl))) (mvT hZ (hw _ (List.mem_of_getElem? (i := 1) rfl))) (mvT hZ (hw _ (List.mem_of_getElem? (i := 2) rfl))) (mvT hZ (hw _ (List.mem_of_getElem? (i := 3) rfl))) (by decide) (backOf (W := 0) (rm_isUri l Z a0 hw [] v0 aU h0 n0 Z0 f0_S_com_example_bound_prefix_boundprefix_UriReferences f1_J_aU) hZ (hw _ (List.mem_of_getElem? (i := 3) rfl)) (hw _ (List.mem_of_getElem? (i := 2) rfl)) (by decide) (by decide)) (g := (mkF m 6 #[.val (.int v0), .val (.int v1), .val (.int (v1 &&& (127 : Int32))), .unset, .unset] [(.int v0)])) rfl (by rw [hml]; rfl) (argsL := [(.int v0)]) (rest := []) (lenOf pd_0 rfl) rfl (by show 2 * 0 + _ ≤ _; exact Nat.le_of_eq rfl) (hb hby at_6) (fun _ _ => ⟨rfl, e0, (by decide : 0 + 0 ≤ _), (by decide : 0 + 0 ≤ _)⟩)
  dsimp only [Pt.U, Pt.locs, Pt.cells, Pt.slots] at X2 l2 y2 z2 st2 hQ2
  subst l2 y2 z2
  obtain ⟨rfl, N2q, e2⟩ := hQ2
  have N2 := Fr.app N0 N2q
  refine Go.st st2 ?_
  show Go p e below s _ _ _ T2 (mkF m 9 #[.val (.int v0), .val (.int v1), .val (.int (v1 &&& (127 : Int32))), .unset, .unset] [(.int (f_isUri v0))])
  refine G_iloadN X2 hx (pc' := 10) rfl (hb hby at_9) rfl ?_
  obtain ⟨_, _, ⟨T3, L3, k3, n3⟩, -, X3, ⟨Lc3, hQ3, l3, y3, z3⟩, st3⟩ := Jvm.LawKit.callS X2 hx (y := (⟨"com/example/bound_prefix/boundprefix/UriReferencesIsUriCharacterPinLaw", "expected", "(I)Z"⟩ : MethodName)) hown (mvT hZ (hw _ (List.mem_of_getElem? (i := 6) rfl))) (mvT hZ (hw _ (List.mem_of_getElem? (i := 7) rfl))) (mvT hZ (hw _ (List.mem_of_getElem? (i := 8) rfl))) (mvT hZ (hw _ (List.mem_of_getElem? (i := 9) rfl))) (by decide) (backOf (W := 1) (rm_expd l Z a0 hw [] v0 h0 n0 Z0 ) hZ (hw _ (List.mem_of_getElem? (i := 9) rfl)) (hw _ (List.mem_of_getElem? (i := 8) rfl)) (by decide) (by decide)) (g := (mkF m 10 #[.val (.int v0), .val (.int v1), .val (.int (v1 &&& (127 : Int32))), .unset, .unset] [(.int v0), (.int (f_isUri v0))])) rfl (by rw [hml]; rfl) (argsL := [(.int v0)]) (rest := [(.int (f_isUri v0))]) (lenOf pd_0 rfl) rfl (by show 2 * 0 + _ ≤ _; exact Nat.le_of_eq rfl) (hb hby at_10) (fun _ _ => ⟨rfl, e2, (by decide : 0 + 0 ≤ _), (by decide : 0 + 0 ≤ _)⟩)
  dsimp only [Pt.U, Pt.locs, Pt.cells, Pt.slots] at X3 l3 y3 z3 st3 hQ3
  subst l3 y3 z3
  obtain ⟨rfl, N3q, e3⟩ := hQ3
  have N3 := Fr.app N2 N3q
  refine Go.st st3 ?_
  show Go p e below s _ _ _ T3 (mkF m 13 #[.val (.int v0), .val (.int v1), .val (.int (v1 &&& (127 : Int32))), .unset, .unset] [(.int (own_exp v0)), (.int (f_isUri v0))])
  by_cases hc13_1 : (f_isUri v0) = (own_exp v0)
  · refine G_icmpNo X3 hx (pc' := 16) rfl (hb hby at_13) (teq hc13_1).2 ?_
    refine G_iconst X3 hx (pc' := 17) rfl (hb hby at_16) (z := (1 : Int32)) rfl ?_
    refine G_goto X3 hx (pc' := 21) (hb hby at_17)  (by decide) (by decide) ?_
    refine G_istoreN X3 hx (pc' := 22) rfl (hb hby at_21) (L' := #[.val (.int v0), .val (.int v1), .val (.int (v1 &&& (127 : Int32))), .val (.int (1 : Int32)), .unset]) rfl ?_
    refine G_iloadN X3 hx (pc' := 23) rfl (hb hby at_22) rfl ?_
    obtain ⟨_, _, ⟨T4, L4, k4, n4⟩, -, X4, ⟨Lc4, hQ4, l4, y4, z4⟩, st4⟩ := Jvm.LawKit.callS X3 hx (y := (⟨"com/example/bound_prefix/boundprefix/UriReferences", "isUriCharacter", "(I)Z"⟩ : MethodName)) hown (mvT hZ (hw _ (List.mem_of_getElem? (i := 0) rfl))) (mvT hZ (hw _ (List.mem_of_getElem? (i := 1) rfl))) (mvT hZ (hw _ (List.mem_of_getElem? (i := 2) rfl))) (mvT hZ (hw _ (List.mem_of_getElem? (i := 3) rfl))) (by decide) (backOf (W := 0) (rm_isUri l Z a0 hw [] (v1 &&& (127 : Int32)) aU h0 n0 Z0 f0_S_com_example_bound_prefix_boundprefix_UriReferences f1_J_aU) hZ (hw _ (List.mem_of_getElem? (i := 3) rfl)) (hw _ (List.mem_of_getElem? (i := 2) rfl)) (by decide) (by decide)) (g := (mkF m 23 #[.val (.int v0), .val (.int v1), .val (.int (v1 &&& (127 : Int32))), .val (.int (1 : Int32)), .unset] [(.int (v1 &&& (127 : Int32)))])) rfl (by rw [hml]; rfl) (argsL := [(.int (v1 &&& (127 : Int32)))]) (rest := []) (lenOf pd_0 rfl) rfl (by show 2 * 0 + _ ≤ _; exact Nat.le_of_eq rfl) (hb hby at_23) (fun _ _ => ⟨rfl, e3, (by decide : 0 + 0 ≤ _), (by decide : 0 + 0 ≤ _)⟩)
    dsimp only [Pt.U, Pt.locs, Pt.cells, Pt.slots] at X4 l4 y4 z4 st4 hQ4
    subst l4 y4 z4
    obtain ⟨rfl, N4q, e4⟩ := hQ4
    have N4 := Fr.app N3 N4q
    refine Go.st st4 ?_
    show Go p e below s _ _ _ T4 (mkF m 26 #[.val (.int v0), .val (.int v1), .val (.int (v1 &&& (127 : Int32))), .val (.int (1 : Int32)), .unset] [(.int (f_isUri (v1 &&& (127 : Int32))))])
    refine G_iloadN X4 hx (pc' := 27) rfl (hb hby at_26) rfl ?_
    obtain ⟨_, _, ⟨T5, L5, k5, n5⟩, -, X5, ⟨Lc5, hQ5, l5, y5, z5⟩, st5⟩ := Jvm.LawKit.callS X4 hx (y := (⟨"com/example/bound_prefix/boundprefix/UriReferencesIsUriCharacterPinLaw", "expected", "(I)Z"⟩ : MethodName)) hown (mvT hZ (hw _ (List.mem_of_getElem? (i := 6) rfl))) (mvT hZ (hw _ (List.mem_of_getElem? (i := 7) rfl))) (mvT hZ (hw _ (List.mem_of_getElem? (i := 8) rfl))) (mvT hZ (hw _ (List.mem_of_getElem? (i := 9) rfl))) (by decide) (backOf (W := 1) (rm_expd l Z a0 hw [] (v1 &&& (127 : Int32)) h0 n0 Z0 ) hZ (hw _ (List.mem_of_getElem? (i := 9) rfl)) (hw _ (List.mem_of_getElem? (i := 8) rfl)) (by decide) (by decide)) (g := (mkF m 27 #[.val (.int v0), .val (.int v1), .val (.int (v1 &&& (127 : Int32))), .val (.int (1 : Int32)), .unset] [(.int (v1 &&& (127 : Int32))), (.int (f_isUri (v1 &&& (127 : Int32))))])) rfl (by rw [hml]; rfl) (argsL := [(.int (v1 &&& (127 : Int32)))]) (rest := [(.int (f_isUri (v1 &&& (127 : Int32))))]) (lenOf pd_0 rfl) rfl (by show 2 * 0 + _ ≤ _; exact Nat.le_of_eq rfl) (hb hby at_27) (fun _ _ => ⟨rfl, e4, (by decide : 0 + 0 ≤ _), (by decide : 0 + 0 ≤ _)⟩)
    dsimp only [Pt.U, Pt.locs, Pt.cells, Pt.slots] at X5 l5 y5 z5 st5 hQ5
    subst l5 y5 z5
    obtain ⟨rfl, N5q, e5⟩ := hQ5
    have N5 := Fr.app N4 N5q
    refine Go.st st5 ?_
    show Go p e below s _ _ _ T5 (mkF m 30 #[.val (.int v0), .val (.int v1), .val (.int (v1 &&& (127 : Int32))), .val (.int (1 : Int32)), .unset] [(.int (own_exp (v1 &&& (127 : Int32)))), (.int (f_isUri (v1 &&& (127 : Int32))))])
    by_cases hc30_2 : (f_isUri (v1 &&& (127 : Int32))) = (own_exp (v1 &&& (127 : Int32)))
    · refine G_icmpNo X5 hx (pc' := 33) rfl (hb hby at_30) (teq hc30_2).2 ?_
      refine G_iconst X5 hx (pc' := 34) rfl (hb hby at_33) (z := (1 : Int32)) rfl ?_
      refine G_goto X5 hx (pc' := 38) (hb hby at_34)  (by decide) (by decide) ?_
      refine G_istore X5 hx (pc' := 40) rfl (hb hby at_38) (L' := #[.val (.int v0), .val (.int v1), .val (.int (v1 &&& (127 : Int32))), .val (.int (1 : Int32)), .val (.int (1 : Int32))]) rfl ?_
      refine G_iloadN X5 hx (pc' := 41) rfl (hb hby at_40) rfl ?_
      refine G_ifNo X5 hx (pc' := 44) rfl (hb hby at_41) ((if0 _ _).trans (feq (by decide : ¬ ((1 : Int32) = (0 : Int32)))).1) ?_
      refine G_iload X5 hx (pc' := 46) rfl (hb hby at_44) rfl ?_
      refine G_ifNo X5 hx (pc' := 49) rfl (hb hby at_46) ((if0 _ _).trans (feq (by decide : ¬ ((1 : Int32) = (0 : Int32)))).1) ?_
      refine G_iconst X5 hx (pc' := 50) rfl (hb hby at_49) (z := (1 : Int32)) rfl ?_
      refine G_goto X5 hx (pc' := 54) (hb hby at_50)  (by decide) (by decide) ?_
      refine Go.fin X5 hlk (v := some (.int (1 : Int32))) (fun h => by rw [Bd.returns] at h; cases h) (by decide) (by decide) ?_ (fun fs hr => retN X5 hx (t := .boolean) Bd.returns (by simp) (hb hby at_54) hr)
      show Q_law Z v0 v1 aU h0 n0 _ T5.heap _
      rw [e5]
      exact ⟨congrArg (fun z => some (Value.int z)) (by rw [f_law]; rw [if_pos hc13_1, if_pos hc30_2]), N5⟩
    · refine G_icmpYes X5 hx (pc' := 37) (hb hby at_30) (feq hc30_2).2 (by decide) (by decide) ?_
      refine G_iconst X5 hx (pc' := 38) rfl (hb hby at_37) (z := (0 : Int32)) rfl ?_
      refine G_istore X5 hx (pc' := 40) rfl (hb hby at_38) (L' := #[.val (.int v0), .val (.int v1), .val (.int (v1 &&& (127 : Int32))), .val (.int (1 : Int32)), .val (.int (0 : Int32))]) rfl ?_
      refine G_iloadN X5 hx (pc' := 41) rfl (hb hby at_40) rfl ?_
      refine G_ifNo X5 hx (pc' := 44) rfl (hb hby at_41) ((if0 _ _).trans (feq (by decide : ¬ ((1 : Int32) = (0 : Int32)))).1) ?_
      refine G_iload X5 hx (pc' := 46) rfl (hb hby at_44) rfl ?_
      refine G_ifYes X5 hx (pc' := 53) (hb hby at_46) ((if0 _ _).trans (teq (by decide : (0 : Int32) = (0 : Int32))).1) (by decide) (by decide) ?_
      refine G_iconst X5 hx (pc' := 54) rfl (hb hby at_53) (z := (0 : Int32)) rfl ?_
      refine Go.fin X5 hlk (v := some (.int (0 : Int32))) (fun h => by rw [Bd.returns] at h; cases h) (by decide) (by decide) ?_ (fun fs hr => retN X5 hx (t := .boolean) Bd.returns (by simp) (hb hby at_54) hr)
      show Q_law Z v0 v1 aU h0 n0 _ T5.heap _
      rw [e5]
      exact ⟨congrArg (fun z => some (Value.int z)) (by rw [f_law]; rw [if_pos hc13_1, if_neg hc30_2]), N5⟩
  · refine G_icmpYes X3 hx (pc' := 20) (hb hby at_13) (feq hc13_1).2 (by decide) (by decide) ?_
    refine G_iconst X3 hx (pc' := 21) rfl (hb hby at_20) (z := (0 : Int32)) rfl ?_
    refine G_istoreN X3 hx (pc' := 22) rfl (hb hby at_21) (L' := #[.val (.int v0), .val (.int v1), .val (.int (v1 &&& (127 : Int32))), .val (.int (0 : Int32)), .unset]) rfl ?_
    refine G_iloadN X3 hx (pc' := 23) rfl (hb hby at_22) rfl ?_
    obtain ⟨_, _, ⟨T6, L6, k6, n6⟩, -, X6, ⟨Lc6, hQ6, l6, y6, z6⟩, st6⟩ := Jvm.LawKit.callS X3 hx (y := (⟨"com/example/bound_prefix/boundprefix/UriReferences", "isUriCharacter", "(I)Z"⟩ : MethodName)) hown (mvT hZ (hw _ (List.mem_of_getElem? (i := 0) rfl))) (mvT hZ (hw _ (List.mem_of_getElem? (i := 1) rfl))) (mvT hZ (hw _ (List.mem_of_getElem? (i := 2) rfl))) (mvT hZ (hw _ (List.mem_of_getElem? (i := 3) rfl))) (by decide) (backOf (W := 0) (rm_isUri l Z a0 hw [] (v1 &&& (127 : Int32)) aU h0 n0 Z0 f0_S_com_example_bound_prefix_boundprefix_UriReferences f1_J_aU) hZ (hw _ (List.mem_of_getElem? (i := 3) rfl)) (hw _ (List.mem_of_getElem? (i := 2) rfl)) (by decide) (by decide)) (g := (mkF m 23 #[.val (.int v0), .val (.int v1), .val (.int (v1 &&& (127 : Int32))), .val (.int (0 : Int32)), .unset] [(.int (v1 &&& (127 : Int32)))])) rfl (by rw [hml]; rfl) (argsL := [(.int (v1 &&& (127 : Int32)))]) (rest := []) (lenOf pd_0 rfl) rfl (by show 2 * 0 + _ ≤ _; exact Nat.le_of_eq rfl) (hb hby at_23) (fun _ _ => ⟨rfl, e3, (by decide : 0 + 0 ≤ _), (by decide : 0 + 0 ≤ _)⟩)
    dsimp only [Pt.U, Pt.locs, Pt.cells, Pt.slots] at X6 l6 y6 z6 st6 hQ6
    subst l6 y6 z6
    obtain ⟨rfl, N6q, e6⟩ := hQ6
    have N6 := Fr.app N3 N6q
    refine Go.st st6 ?_
    show Go p e below s _ _ _ T6 (mkF m 26 #[.val (.int v0), .val (.int v1), .val (.int (v1 &&& (127 : Int32))), .val (.int (0 : Int32)), .unset] [(.int (f_isUri (v1 &&& (127 : Int32))))])
    refine G_iloadN X6 hx (pc' := 27) rfl (hb hby at_26) rfl ?_
    obtain ⟨_, _, ⟨T7, L7, k7, n7⟩, -, X7, ⟨Lc7, hQ7, l7, y7, z7⟩, st7⟩ := Jvm.LawKit.callS X6 hx (y := (⟨"com/example/bound_prefix/boundprefix/UriReferencesIsUriCharacterPinLaw", "expected", "(I)Z"⟩ : MethodName)) hown (mvT hZ (hw _ (List.mem_of_getElem? (i := 6) rfl))) (mvT hZ (hw _ (List.mem_of_getElem? (i := 7) rfl))) (mvT hZ (hw _ (List.mem_of_getElem? (i := 8) rfl))) (mvT hZ (hw _ (List.mem_of_getElem? (i := 9) rfl))) (by decide) (backOf (W := 1) (rm_expd l Z a0 hw [] (v1 &&& (127 : Int32)) h0 n0 Z0 ) hZ (hw _ (List.mem_of_getElem? (i := 9) rfl)) (hw _ (List.mem_of_getElem? (i := 8) rfl)) (by decide) (by decide)) (g := (mkF m 27 #[.val (.int v0), .val (.int v1), .val (.int (v1 &&& (127 : Int32))), .val (.int (0 : Int32)), .unset] [(.int (v1 &&& (127 : Int32))), (.int (f_isUri (v1 &&& (127 : Int32))))])) rfl (by rw [hml]; rfl) (argsL := [(.int (v1 &&& (127 : Int32)))]) (rest := [(.int (f_isUri (v1 &&& (127 : Int32))))]) (lenOf pd_0 rfl) rfl (by show 2 * 0 + _ ≤ _; exact Nat.le_of_eq rfl) (hb hby at_27) (fun _ _ => ⟨rfl, e6, (by decide : 0 + 0 ≤ _), (by decide : 0 + 0 ≤ _)⟩)
    dsimp only [Pt.U, Pt.locs, Pt.cells, Pt.slots] at X7 l7 y7 z7 st7 hQ7
    subst l7 y7 z7
    obtain ⟨rfl, N7q, e7⟩ := hQ7
    have N7 := Fr.app N6 N7q
    refine Go.st st7 ?_
    show Go p e below s _ _ _ T7 (mkF m 30 #[.val (.int v0), .val (.int v1), .val (.int (v1 &&& (127 : Int32))), .val (.int (0 : Int32)), .unset] [(.int (own_exp (v1 &&& (127 : Int32)))), (.int (f_isUri (v1 &&& (127 : Int32))))])
    by_cases hc30_3 : (f_isUri (v1 &&& (127 : Int32))) = (own_exp (v1 &&& (127 : Int32)))
    · refine G_icmpNo X7 hx (pc' := 33) rfl (hb hby at_30) (teq hc30_3).2 ?_
      refine G_iconst X7 hx (pc' := 34) rfl (hb hby at_33) (z := (1 : Int32)) rfl ?_
      refine G_goto X7 hx (pc' := 38) (hb hby at_34)  (by decide) (by decide) ?_
      refine G_istore X7 hx (pc' := 40) rfl (hb hby at_38) (L' := #[.val (.int v0), .val (.int v1), .val (.int (v1 &&& (127 : Int32))), .val (.int (0 : Int32)), .val (.int (1 : Int32))]) rfl ?_
      refine G_iloadN X7 hx (pc' := 41) rfl (hb hby at_40) rfl ?_
      refine G_ifYes X7 hx (pc' := 53) (hb hby at_41) ((if0 _ _).trans (teq (by decide : (0 : Int32) = (0 : Int32))).1) (by decide) (by decide) ?_
      refine G_iconst X7 hx (pc' := 54) rfl (hb hby at_53) (z := (0 : Int32)) rfl ?_
      refine Go.fin X7 hlk (v := some (.int (0 : Int32))) (fun h => by rw [Bd.returns] at h; cases h) (by decide) (by decide) ?_ (fun fs hr => retN X7 hx (t := .boolean) Bd.returns (by simp) (hb hby at_54) hr)
      show Q_law Z v0 v1 aU h0 n0 _ T7.heap _
      rw [e7]
      exact ⟨congrArg (fun z => some (Value.int z)) (by rw [f_law]; rw [if_neg hc13_1, if_pos hc30_3]), N7⟩
    · refine G_icmpYes X7 hx (pc' := 37) (hb hby at_30) (feq hc30_3).2 (by decide) (by decide) ?_
      refine G_iconst X7 hx (pc' := 38) rfl (hb hby at_37) (z := (0 : Int32)) rfl ?_
      refine G_istore X7 hx (pc' := 40) rfl (hb hby at_38) (L' := #[.val (.int v0), .val (.int v1), .val (.int (v1 &&& (127 : Int32))), .val (.int (0 : Int32)), .val (.int (0 : Int32))]) rfl ?_
      refine G_iloadN X7 hx (pc' := 41) rfl (hb hby at_40) rfl ?_
      refine G_ifYes X7 hx (pc' := 53) (hb hby at_41) ((if0 _ _).trans (teq (by decide : (0 : Int32) = (0 : Int32))).1) (by decide) (by decide) ?_
      refine G_iconst X7 hx (pc' := 54) rfl (hb hby at_53) (z := (0 : Int32)) rfl ?_
      refine Go.fin X7 hlk (v := some (.int (0 : Int32))) (fun h => by rw [Bd.returns] at h; cases h) (by decide) (by decide) ?_ (fun fs hr => retN X7 hx (t := .boolean) Bd.returns (by simp) (hb hby at_54) hr)
      show Q_law Z v0 v1 aU h0 n0 _ T7.heap _
      rw [e7]
      exact ⟨congrArg (fun z => some (Value.int z)) (by rw [f_law]; rw [if_neg hc13_1, if_neg hc30_3]), N7⟩
theorem own_small : ∀ n : Fin 128, f_isUri (Int32.ofNat n.val) = own_exp (Int32.ofNat n.val) := by decide +kernel
theorem own_big {c : Int32} (h : c < 0 ∨ ¬ c < 128) : f_isUri c = 0 ∧ own_exp c = 0 := by
  have l : ∀ k : Nat, k < 128 → (Int32.ofNat k).toInt = k := fun k hk => Int32.toInt_ofNat_of_lt (by omega)
  constructor
  · unfold f_isUri
    rcases h with h | h
    · rw [if_pos h]
    · by_cases h0 : c < 0
      · rw [if_pos h0]
      · rw [if_neg h0, if_neg h]
  · unfold own_exp
    rw [if_neg]
    have l0 : (0 : Int32).toInt = 0 := by decide
    have l128 : (128 : Int32).toInt = 128 := by decide
    rw [Int32.lt_iff_toInt_lt, Int32.lt_iff_toInt_lt, l0, l128] at h
    intro q
    simp only [Int32.lt_iff_toInt_lt, ← Int32.toInt_inj, show (65 : Int32).toInt = 65 from by decide, show (90 : Int32).toInt = 90 from by decide, show (97 : Int32).toInt = 97 from by decide, show (122 : Int32).toInt = 122 from by decide, show (48 : Int32).toInt = 48 from by decide, show (57 : Int32).toInt = 57 from by decide, show (45 : Int32).toInt = 45 from by decide, show (46 : Int32).toInt = 46 from by decide, show (95 : Int32).toInt = 95 from by decide, show (126 : Int32).toInt = 126 from by decide, show (58 : Int32).toInt = 58 from by decide, show (47 : Int32).toInt = 47 from by decide, show (63 : Int32).toInt = 63 from by decide, show (35 : Int32).toInt = 35 from by decide, show (91 : Int32).toInt = 91 from by decide, show (93 : Int32).toInt = 93 from by decide, show (64 : Int32).toInt = 64 from by decide, show (33 : Int32).toInt = 33 from by decide, show (36 : Int32).toInt = 36 from by decide, show (38 : Int32).toInt = 38 from by decide, show (39 : Int32).toInt = 39 from by decide, show (40 : Int32).toInt = 40 from by decide, show (41 : Int32).toInt = 41 from by decide, show (42 : Int32).toInt = 42 from by decide, show (43 : Int32).toInt = 43 from by decide, show (44 : Int32).toInt = 44 from by decide, show (59 : Int32).toInt = 59 from by decide, show (61 : Int32).toInt = 61 from by decide, show (37 : Int32).toInt = 37 from by decide] at q
    omega
theorem own_same (c : Int32) : f_isUri c = own_exp c := by
  by_cases h : c < 0 ∨ ¬ c < 128
  · rw [(own_big h).1, (own_big h).2]
  · have l0 : (0 : Int32).toInt = 0 := by decide
    have l128 : (128 : Int32).toInt = 128 := by decide
    rw [Int32.lt_iff_toInt_lt, Int32.lt_iff_toInt_lt, l0, l128] at h
    have e : c = Int32.ofNat c.toInt.toNat := by
      apply Int32.toInt_inj.mp
      rw [Int32.toInt_ofNat_of_lt (by omega)]
      omega
    rw [e]
    exact own_small ⟨c.toInt.toNat, by omega⟩
theorem own_law (a b : Int32) : f_law a b = 1 := by
  unfold f_law
  simp [own_same]

set_option maxRecDepth 65536 in
set_option maxHeartbeats 40000000 in
theorem comes_1 {Post : Tables → Env → Array Value → State → Outcome → State → Prop} (hpost : ∀ tb e args s v u, (limb_1_1.after args s (.returned v) u = true ∧ limb_1_2.after args s (.returned v) u = true ∧ True) → FrameEnd s (.returned v) u (Jvm.fieldLocs frame_1_writes args s ++ Jvm.arrayLocs frame_1_arrays args s ++ Jvm.staticLocs frame_1_statics s) 0 0 → Post tb e args s (.returned v) u) :
    ArmFor flags0 classFile x code maxLocals ret World_1 tables_1 room_1 Calls_1 rest_1 Pre_1 Post := by
  intro l hfl _ _ p e ha hc hk s m args below hf hA hF happ hP
  obtain ⟨hcalls, hrest, hpre⟩ := hP
  obtain ⟨-, -, -, hnamed, -, -, -, hat⟩ := (Spec.applies_iff hf).mp happ
  obtain ⟨hg, hn⟩ := and_e (Cond.before_iff.mp (show (Jvm.Cond.and given_1 narrow_1).before args s = true from hpre))
  obtain ⟨hcnt, hg0⟩ := and_e hg
  obtain ⟨ha0, hg1⟩ := and_e hg0
  have ha1 := hg1
  obtain ⟨w0, w1, rfl⟩ : ∃ w0 w1 : Value, args = #[w0, w1] := by
    have hs : args.size = 2 := by simpa [Cond.value, given_1] using hcnt
    obtain ⟨L⟩ := args
    match L, hs with
    | [w0, w1], _ => exact ⟨w0, w1, rfl⟩
  have hw := fun d (hd : d ∈ tables_1) => atoms_spec (ws := Jvm.Cond.code x code maxLocals ret :: tables_1) hat d (List.mem_cons_of_mem _ hd)
  have hfit : Fit s := fun {y c} hc i hi => by
    obtain ⟨ha, rfl⟩ := Array.getElem?_eq_some_iff.mp hc
    have q := List.all_eq_true.mp ((Array.all_eq_true_iff_forall_mem.mp hF) _ (Array.getElem_mem ha)) i (List.mem_range.mpr hi)
    simpa [Array.getElem?_eq_getElem hi] using q
  obtain ⟨i0, ei0⟩ := is_v ha0
  obtain rfl : w0 = (.int i0) := Option.some.inj ei0
  obtain ⟨i1, ei1⟩ := is_v ha1
  obtain rfl : w1 = (.int i1) := Option.some.inj ei1
  obtain ⟨n0, hn1⟩ := and_e hn
  obtain ⟨n1, hn2⟩ := and_e hn1
  obtain ⟨n2, n3⟩ := and_e hn2
  obtain ⟨aU, evU⟩ := own_aref n0
  have SU := Sta.start evU (Or.inr ⟨(hw _ (List.mem_of_getElem? (i := 2) rfl)), (hw _ (List.mem_of_getElem? (i := 5) rfl))⟩)
  have AU := own_arr2 evU n0 n1 n2 n3
  obtain ⟨n, o, h1, h2, h3, v, L, rfl, ⟨hv, N⟩, hq⟩ := rm_law l s _ hw tables_1 i0 i1 aU s.heap s.heap.size (Nat.le_refl _) SU AU p e ha hc hk s m _ below hf ((Spec.applies_iff_loose hf).mp happ).1 ⟨rfl, State.Warmed39.refl s, rfl⟩ trivial
  rw [own_law i0 i1] at hv
  subst hv
  refine ⟨n, _, h1, h2, h3, hpost _ _ _ _ _ _ ⟨Cond.after_iff.mpr rfl, Cond.after_iff.mpr (eq_i res_at (Term.int_eval (1)) rfl), trivial⟩ ⟨hq.1, hq.2.1, (hq.2.2.sift fun y hy => Or.inr (N y hy)).mono (by decide) (by decide)⟩⟩
theorem main_1_1 : Claimed_1_1 := comes_1 fun _ _ _ _ _ _ h hF => ⟨h.1, hF⟩
theorem main_1_2 : Claimed_1_2 := comes_1 fun _ _ _ _ _ _ h hF => ⟨h.2.1, hF⟩
end Jvm.Pilot.@@N@@
namespace Jvm.Pilot.@@N@@
open Jvm Jvm.ClassFile Sem Op Lib Jvm.Free Jvm.Stand Jvm.Pilot.@@N@@.Jvm.D
/-! MADE BY PROGRAM (witnessworld.py) out of the Statement's table words and the real class files: 11 classes; the members and pool entries that the words name. The judged class is class 1, her method 2. -/
namespace start1
open Jvm.ClassFile
def u (s : String) : CpInfo := .utf8 (stringToUtf16 s)
/-- a pool by its gaps: so many unusable entries, then the entry; so many at the end -/
def gap : Nat → List CpInfo → List CpInfo
  | 0, r => r
  | n + 1, r => .unusable :: gap n r
def poolList (es : List (Nat × CpInfo)) (last : Nat) : List CpInfo := es.foldr (fun e r => gap e.1 (e.2 :: r)) (gap last [])
def pool (es : List (Nat × CpInfo)) (last : Nat) : Array CpInfo := ⟨poolList es last⟩
def fileOf (pool : Array CpInfo) (this : Nat) (attrs : Array Attribute := #[]) (ms : Array MethodInfo := #[]) (fl : Nat := 33) (sup : Nat := 0) (ifs : Array Nat := #[]) (fds : Array FieldInfo := #[]) : ClassFile where
  minorVersion := 0
  majorVersion := 65
  constantPool := pool
  accessFlags := fl
  thisClass := this
  superClass := sup
  interfaces := ifs
  fields := fds
  methods := ms
  attributes := attrs
def plain (name : String) (sup : Option ClassId) : Class where
  name := name
  kind := .ordinary
  loader := none
  accessFlags := 33
  super := sup
  interfaces := #[]
  cf := none
  fields := #[]
  methods := #[]
  instanceTypes := #[]
  staticTypes := #[]
  resolved := #[]
  callSites := []
  init := .initialized
  statics := none
  mirror := none

def pool0 : Array CpInfo := pool [(5, u "<init>"), (0, u "()V"), (1, .class_ 10), (1, u "java/lang/Object")] 113

def k0m0 : Method := { name := "<init>", desc := "()V", sig := { parameters := [], returnType := none }, accessFlags := 1, code := none }
/-- java/lang/Object -/
def k0 : Class := { plain "java/lang/Object" none with
  accessFlags := 33
  interfaces := #[]
  cf := some (fileOf pool0 8 #[] #[{ accessFlags := 1, nameIndex := 5, descriptorIndex := 6, attributes := #[] }] 33 0 #[] #[])
  fields := #[]
  methods := #[k0m0]
  instanceTypes := #[]
  staticTypes := #[]
  resolved := Array.replicate 124 none
  statics := none }

def pool1 : Array CpInfo := pool [(2, .class_ 4), (1, u "java/lang/Object"), (0, u "<init>"), (0, u "()V"), (0, .methodref 8 9), (0, .class_ 10), (0, .nameAndType 11 12), (0, u "com/example/bound_prefix/boundprefix/UriReferences"), (0, u "isUriCharacter"), (0, u "(I)Z"), (0, .methodref 14 15), (0, .class_ 16), (0, .nameAndType 17 12), (0, u "com/example/bound_prefix/boundprefix/UriReferencesIsUriCharacterPinLaw"), (0, u "expected"), (3, u "law"), (0, u "(II)Z")] 2

def k1m0 : Method := { name := "<init>", desc := "()V", sig := { parameters := [], returnType := none }, accessFlags := 2, code := none }
def k1c1 : Code := { maxStack := 2, maxLocals := 1, code := method_2_code, exceptionTable := #[], attributes := #[] }
def k1m1 : Method := { name := "expected", desc := "(I)Z", sig := { parameters := [.int], returnType := some .boolean }, accessFlags := 10, code := some k1c1 }
def k1c2 : Code := { maxStack := 2, maxLocals := 5, code := code, exceptionTable := #[], attributes := #[] }
def k1m2 : Method := { name := "law", desc := "(II)Z", sig := { parameters := [.int, .int], returnType := some .boolean }, accessFlags := 9, code := some k1c2 }
/-- com/example/bound_prefix/boundprefix/UriReferencesIsUriCharacterPinLaw -/
def k1 : Class := { plain "com/example/bound_prefix/boundprefix/UriReferencesIsUriCharacterPinLaw" (some 0) with
  accessFlags := 49
  interfaces := #[]
  cf := some (fileOf pool1 14 #[] #[{ accessFlags := 2, nameIndex := 5, descriptorIndex := 6, attributes := #[] }, { accessFlags := 10, nameIndex := 17, descriptorIndex := 12, attributes := #[] }, { accessFlags := 9, nameIndex := 21, descriptorIndex := 22, attributes := #[] }] 49 2 #[] #[])
  fields := #[]
  methods := #[k1m0, k1m1, k1m2]
  instanceTypes := #[]
  staticTypes := #[]
  resolved := Array.replicate 25 none
  statics := none }

def pool2 : Array CpInfo := pool [(2, .class_ 4), (1, u "java/lang/Object"), (0, u "<init>"), (0, u "()V"), (0, .fieldref 8 9), (0, .class_ 10), (0, .nameAndType 11 12), (0, u "com/example/bound_prefix/boundprefix/UriReferences"), (0, u "URI_CHARACTERS"), (0, u "[J"), (20, u "isUriCharacter"), (0, u "(I)Z"), (81, u "UNSAFE_IN_URIS"), (0, u "Ljava/lang/String;")] 11

def k2m0 : Method := { name := "<init>", desc := "()V", sig := { parameters := [], returnType := none }, accessFlags := 2, code := none }
def k2c1 : Code := { maxStack := 5, maxLocals := 1, code := prog_100_method_2_code, exceptionTable := #[], attributes := #[] }
def k2m1 : Method := { name := "isUriCharacter", desc := "(I)Z", sig := { parameters := [.int], returnType := some .boolean }, accessFlags := 8, code := some k2c1 }
/-- com/example/bound_prefix/boundprefix/UriReferences -/
def k2 : Class := { plain "com/example/bound_prefix/boundprefix/UriReferences" (some 0) with
  accessFlags := 48
  interfaces := #[]
  cf := some (fileOf pool2 8 #[] #[{ accessFlags := 2, nameIndex := 5, descriptorIndex := 6, attributes := #[] }, { accessFlags := 8, nameIndex := 33, descriptorIndex := 34, attributes := #[] }] 48 2 #[] #[{ accessFlags := 26, nameIndex := 116, descriptorIndex := 117, attributes := #[] }, { accessFlags := 26, nameIndex := 11, descriptorIndex := 12, attributes := #[] }])
  fields := #[{ name := "UNSAFE_IN_URIS", type := (.object "java/lang/String"), accessFlags := 26, slot := 0, constantValue := 0 }, { name := "URI_CHARACTERS", type := (.array .long), accessFlags := 26, slot := 1, constantValue := 0 }]
  methods := #[k2m0, k2m1]
  instanceTypes := #[]
  staticTypes := #[(.object "java/lang/String"), (.array .long)]
  resolved := Array.replicate 129 none
  statics := some 0 }

def pool3 : Array CpInfo := pool [(1, u "java/lang/Cloneable"), (0, .class_ 1), (0, u "java/lang/Object"), (0, .class_ 3)] 3

/-- java/lang/Cloneable -/
def k3 : Class := { plain "java/lang/Cloneable" (some 0) with
  accessFlags := 1537
  interfaces := #[]
  cf := some (fileOf pool3 2 #[] #[] 1537 4 #[] #[])
  fields := #[]
  methods := #[]
  instanceTypes := #[]
  staticTypes := #[]
  resolved := Array.replicate 8 none
  statics := none }

def pool4 : Array CpInfo := pool [(1, u "java/io/Serializable"), (0, .class_ 1), (0, u "java/lang/Object"), (0, .class_ 3)] 3

/-- java/io/Serializable -/
def k4 : Class := { plain "java/io/Serializable" (some 0) with
  accessFlags := 1537
  interfaces := #[]
  cf := some (fileOf pool4 2 #[] #[] 1537 4 #[] #[])
  fields := #[]
  methods := #[]
  instanceTypes := #[]
  staticTypes := #[]
  resolved := Array.replicate 8 none
  statics := none }

/-- the primitive byte -/
def k5 : Class := { plain "byte" none with kind := .primitive 'B', accessFlags := 0x411 }
/-- [B -/
def k6 : Class := { plain "[B" (some 0) with kind := .array 5 .byte, interfaces := #[3, 4], accessFlags := 1041 }

/-- the primitive int -/
def k7 : Class := { plain "int" none with kind := .primitive 'I', accessFlags := 0x411 }
/-- [I -/
def k8 : Class := { plain "[I" (some 0) with kind := .array 7 .int, interfaces := #[3, 4], accessFlags := 1041 }

/-- the primitive long -/
def k9 : Class := { plain "long" none with kind := .primitive 'J', accessFlags := 0x411 }
/-- [J -/
def k10 : Class := { plain "[J" (some 0) with kind := .array 9 .long, interfaces := #[3, 4], accessFlags := 1041 }

def heap : Heap := #[{ cls := 2, slots := #[.null, .ref 1], vm := .statics 2 },
  { cls := 10, slots := #[.long (-5764607548804038656), .long 5188146765093666815], vm := .none }]
def classes : Array Class := #[k0, k1, k2, k3, k4, k5, k6, k7, k8, k9, k10]
def interned : List (Array UInt16 × Addr) := []
def slotsUsed : Nat := 4
def theMethod : MethodId := ⟨1, 2⟩
def args0 : Array Value := #[.int 5, .int 7]
def aboutOver (below : List Frame) : State where
  vm := { classes := classes, interned := interned.toArray }
  heap := heap
  slotsUsed := slotsUsed
  threads := #[{ frames := .invoking theMethod args0 :: below }]
def below0 : List Frame := [.native { method := ⟨0, 0⟩, args := #[] }]
def about1 : State := aboutOver below0
def p0 : Program := .bare "" "" ""
def e0 : Env := launch0.env 0 0 0
theorem w_frames : about1.frames = Frame.invoking theMethod args0 :: below0 := rfl
set_option maxRecDepth 65536 in
theorem w_args : argsFit about1.vm theMethod args0 = true := by decide +kernel
set_option maxRecDepth 65536 in
theorem w_heap : heapFits about1 = true := by decide +kernel
set_option maxRecDepth 65536 in
theorem w_runnable : about1.curStatus? = some .runnable := by decide +kernel
set_option maxRecDepth 65536 in
theorem w_alone : about1.alone = true := by decide +kernel
set_option maxRecDepth 65536 in
theorem w_named : about1.methodNamed? x = some theMethod := by decide +kernel
set_option maxRecDepth 65536 in
theorem w_hears : about1.hears theMethod below0 = true := by decide +kernel
set_option maxRecDepth 65536 in
theorem w_ripe : about1.ripe theMethod args0 below0 = true := by decide +kernel
theorem w_running : about1.status = .running := rfl
set_option maxRecDepth 65536 in
theorem w_room : about1.hasRoom e0.platform room_1 = true :=
  launch0.hasRoom_least _ room_1 (by decide +kernel) (by decide +kernel) (by decide +kernel) (by decide +kernel) (by decide +kernel) (by decide +kernel)
theorem allAtoms_all (ts : List Jvm.Cond) (a : Array Jvm.Value) (st : Jvm.State) : (allAtoms ts).before a st = ts.all (fun c => c.before a st) := by
  induction ts with
  | nil => rfl
  | cons c t ih =>
    show (Jvm.Cond.and c (allAtoms t)).before a st = _
    rw [Jvm.Cond.before_and, ih, List.all_cons]
def words1 : List Jvm.Cond := Jvm.Cond.code x code maxLocals ret :: tables_1
/-- a 'code' word, met by the world's own term for the bytes: nothing is compared byte by byte -/
theorem code_word {y : MethodName} {bytes : ByteArray} {mx : Nat} {rt : Option FieldType} {a : Array Value} {s : State} {m : MethodId} {meth : Method} {c : Code} (h1 : s.methodNamed? y = some m) (h2 : s.vm.method? m = some meth) (h3 : meth.code = some c) (h4 : c.code = bytes)
    (h5 : (c.maxLocals == mx && c.exceptionTable.isEmpty && decide (c.maxStack ≤ mostOperands) && decide (meth.sig.returnType = rt) && !meth.locks && decide (parseMethodDescriptor y.desc = some meth.sig)) = true) : (Jvm.Cond.code y bytes mx rt).before a s = true := by
  simp only [Bool.and_eq_true, beq_iff_eq, Bool.not_eq_true', decide_eq_true_eq] at h5
  obtain ⟨⟨⟨⟨⟨g1, g2⟩, g3⟩, g4⟩, g5⟩, g6⟩ := h5
  simp [Cond.before, Cond.holds, Cond.value, h1, h2, h3, h4, g1, g2, g3, g4, g5, g6]
def isCode : Jvm.Cond → Bool
  | .code _ _ _ _ => true
  | _ => false
theorem all_split {L : List Jvm.Cond} {P : Jvm.Cond → Bool} (h1 : L.all (fun c => isCode c || P c) = true) (h2 : ∀ c ∈ L.filter isCode, P c = true) : L.all P = true := by
  refine List.all_eq_true.mpr fun c hc => ?_
  have h := List.all_eq_true.mp h1 c hc
  rcases Bool.eq_false_or_eq_true (isCode c) with hi | hi
  · exact h2 c (List.mem_filter.mpr ⟨hc, hi⟩)
  · simpa [hi] using h
set_option maxRecDepth 65536 in
theorem w_c0 : (Jvm.Cond.code x code maxLocals ret).before args0 about1 = true := code_word (m := ⟨1, 2⟩) (meth := k1m2) (c := k1c2) (by decide +kernel) rfl rfl rfl (by decide +kernel)
set_option maxRecDepth 65536 in
theorem w_c1 : (Jvm.Cond.code ({ cls := "com/example/bound_prefix/boundprefix/UriReferences", name := "isUriCharacter", desc := "(I)Z" } : Jvm.MethodName) prog_100_method_2_code (1 : Nat) (Option.some Jvm.ClassFile.FieldType.boolean)).before args0 about1 = true := code_word (m := ⟨2, 1⟩) (meth := k2m1) (c := k2c1) (by decide +kernel) rfl rfl rfl (by decide +kernel)
set_option maxRecDepth 65536 in
theorem w_c2 : (Jvm.Cond.code ({ cls := "com/example/bound_prefix/boundprefix/UriReferencesIsUriCharacterPinLaw", name := "expected", desc := "(I)Z" } : Jvm.MethodName) method_2_code (1 : Nat) (Option.some Jvm.ClassFile.FieldType.boolean)).before args0 about1 = true := code_word (m := ⟨1, 1⟩) (meth := k1m1) (c := k1c1) (by decide +kernel) rfl rfl rfl (by decide +kernel)
def codes1 : List Jvm.Cond := [Jvm.Cond.code x code maxLocals ret, Jvm.Cond.code ({ cls := "com/example/bound_prefix/boundprefix/UriReferences", name := "isUriCharacter", desc := "(I)Z" } : Jvm.MethodName) prog_100_method_2_code (1 : Nat) (Option.some Jvm.ClassFile.FieldType.boolean), Jvm.Cond.code ({ cls := "com/example/bound_prefix/boundprefix/UriReferencesIsUriCharacterPinLaw", name := "expected", desc := "(I)Z" } : Jvm.MethodName) method_2_code (1 : Nat) (Option.some Jvm.ClassFile.FieldType.boolean)]
set_option maxRecDepth 65536 in
theorem codes_eq : words1.filter isCode = codes1 := rfl
theorem w_codes : ∀ c ∈ words1.filter isCode, c.before args0 about1 = true := by
  rw [codes_eq]
  intro c hc
  simp only [codes1, List.mem_cons, List.not_mem_nil, or_false] at hc
  rcases hc with rfl | rfl | rfl
  · exact w_c0
  · exact w_c1
  · exact w_c2
set_option maxRecDepth 65536 in
theorem w_t1 : words1.all (fun c => isCode c || c.before args0 about1) = true := by decide +kernel
theorem w_tables : (allAtoms (Jvm.Cond.code x code maxLocals ret :: tables_1)).before args0 about1 = true := by
  rw [allAtoms_all]
  show words1.all (fun c => c.before args0 about1) = true
  refine all_split ?_ w_codes
  rw [w_t1]
set_option maxRecDepth 65536 in
theorem w_case : (Jvm.Cond.and given_1 narrow_1).before args0 about1 = true := by decide +kernel
theorem w_applies : (headSpec (Jvm.Cond.code x code maxLocals ret :: tables_1) room_1).applies x e0.platform about1 = true :=
  (Spec.applies_iff w_frames).mpr ⟨w_running, w_runnable, w_alone, w_named, w_hears, w_ripe, w_room, w_tables⟩
theorem atStart : AtStart classFile x code maxLocals ret World_1 tables_1 room_1 Calls_1 rest_1 Pre_1 launch0 p0 e0 about1 theMethod args0 below0 :=
  ⟨lists_1, trivial, launch0.admits_env _ _ _, launch0.least_env, fairChoices_fair.cas, fairChoices_fair.clock, w_frames, w_args, w_heap, w_applies, trivial, trivial, w_case⟩
end start1
theorem witness_1 : WitnessClaimed_1 := ⟨start1.p0, start1.e0, start1.about1, start1.theMethod, start1.args0, start1.below0, start1.atStart⟩
end Jvm.Pilot.@@N@@
