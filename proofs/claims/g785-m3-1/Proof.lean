import JvmDerived
import JvmDerived.Pilot.@@N@@Statement
import JvmDerived.Pilot.@@N@@Code
set_option linter.unusedVariables false
set_option linter.unusedSimpArgs false
namespace Jvm.Pilot.@@N@@
open Jvm Jvm.ClassFile Sem Op Lib Jvm.Free Jvm.Stand Jvm.LawKit Jvm.RoadKit Bundle Jvm.Pilot.@@N@@.Jvm.D
section Own
variable {p : Program} {l : Launch} {e : Env} {R : Room} {s : State} {m : MethodId} {args : Array Value} {below : List Frame} {meth : Method} {c : Code} {T T' : State} {locs : List Loc} {cells slots C N : Nat} {Q : Option Value → Heap → List Loc → Prop} {g g' : JFrame}
/-- from T with the frame g on top the invocation of s comes to its end: it returns, and Q holds of what it returns, of the heap and of the places written -/
def Go (p : Program) (e : Env) (below : List Frame) (s : State) (C N : Nat) (Q : Option Value → Heap → List Loc → Prop) (T : State) (g : JFrame) : Prop :=
  ∃ s₂ o, Steps p.tables e below (T.setTop g) s₂ ∧ s₂.status = .running ∧ Ended s₂ below o ∧ ∃ v L, o = .returned v ∧ Q v s₂.heap L ∧ FrameEnd s o s₂ L C N
theorem Go.st (h : ∀ t, Steps p.tables e below (T'.setTop g') t → Steps p.tables e below (T.setTop g) t) (k : Go p e below s C N Q T' g') : Go p e below s C N Q T g := by
  obtain ⟨s2, o, h1, h2⟩ := k
  exact ⟨s2, o, h _ h1, h2⟩
theorem Go.enter (q : g = g') (k : Go p e below s C N Q T g') : ∃ s₂ o, Steps p.tables e below (T.setTop g) s₂ ∧ s₂.status = .running ∧ Ended s₂ below o ∧ ∃ v L, o = .returned v ∧ Q v s₂.heap L ∧ FrameEnd s o s₂ L C N := by
  subst q; exact k
theorem Go.fin (X : Stand p l e R s m args below meth c T locs cells slots) (hlk : meth.locks = false) {v : Option Value} (hv : meth.sig.returnType = none → v = none) (hC : cells ≤ C) (hN : slots ≤ N) (hq : Q v T.heap locs)
    (hs : ∀ fs, (∀ (f : JFrame) (acts : List Action), f.method = m → f.locked = none → f.entered = [] → (doReturn e (T.setTop f) acts v).1 = T.setFrames fs) → Steps p.tables e below (T.setTop g) (T.setFrames fs)) : Go p e below s C N Q T g := by
  obtain ⟨fs, hr, hrun, hended, hW, hsame⟩ := X.leave hv hlk
  exact ⟨_, _, hs fs hr, hrun, hended, _, _, rfl, hq, ⟨_, rfl⟩, hW, hsame.mono hC hN⟩
end Own

section OwnG
variable {p : Program} {l : Launch} {e : Env} {R : Room} {s : State} {m : MethodId} {args : Array Value} {below : List Frame} {meth : Method} {c : Code} {T : State} {locs : List Loc} {cells slots C N : Nat} {Q : Option Value → Heap → List Loc → Prop} {pc pc' : Nat} {L L' : Array Slot} {S : List Value}
theorem G_iloadN (X : Stand p l e R s m args below meth c T locs cells slots) (hx : p.tables.exec = Jvm.exec) {k : Fin 4} {v : Int32} (hp : pc + 1 = pc') (hd : decode c.code pc = .ok (.iload_n k, 1)) (hl : L[k.val]? = some (.val (.int v))) (h : Go p e below s C N Q T (mkF m pc' L (.int v :: S))) : Go p e below s C N Q T (mkF m pc L S) := by
  subst hp; exact Go.st (fun _ k => XS.iloadN X.here hx rfl hd hl k) h
theorem G_iload (X : Stand p l e R s m args below meth c T locs cells slots) (hx : p.tables.exec = Jvm.exec) {k : Nat} {v : Int32} (hp : pc + 2 = pc') (hd : decode c.code pc = .ok (.iload k, 2)) (hl : L[k]? = some (.val (.int v))) (h : Go p e below s C N Q T (mkF m pc' L (.int v :: S))) : Go p e below s C N Q T (mkF m pc L S) := by
  subst hp; exact Go.st (fun _ k => XS.iload X.here hx rfl hd hl k) h
theorem G_istoreN (X : Stand p l e R s m args below meth c T locs cells slots) (hx : p.tables.exec = Jvm.exec) {k : Fin 4} {v : Int32} (hp : pc + 1 = pc') (hd : decode c.code pc = .ok (.istore_n k, 1)) (hl : storeLocals L k.val (.int v) = some L') (h : Go p e below s C N Q T (mkF m pc' L' S)) : Go p e below s C N Q T (mkF m pc L (.int v :: S)) := by
  subst hp; exact Go.st (fun _ k => XS.istoreN X.here hx rfl hd rfl hl k) h
theorem G_istore (X : Stand p l e R s m args below meth c T locs cells slots) (hx : p.tables.exec = Jvm.exec) {k : Nat} {v : Int32} (hp : pc + 2 = pc') (hd : decode c.code pc = .ok (.istore k, 2)) (hl : storeLocals L k (.int v) = some L') (h : Go p e below s C N Q T (mkF m pc' L' S)) : Go p e below s C N Q T (mkF m pc L (.int v :: S)) := by
  subst hp; exact Go.st (fun _ k => XS.istore X.here hx rfl hd rfl hl k) h
theorem G_lloadN (X : Stand p l e R s m args below meth c T locs cells slots) (hx : p.tables.exec = Jvm.exec) {k : Fin 4} {v : Int64} (hp : pc + 1 = pc') (hd : decode c.code pc = .ok (.lload_n k, 1)) (hl : L[k.val]? = some (.val (.long v))) (h : Go p e below s C N Q T (mkF m pc' L (.long v :: S))) : Go p e below s C N Q T (mkF m pc L S) := by
  subst hp; exact Go.st (fun _ k => XS.lloadN X.here hx rfl hd hl k) h
theorem G_lload (X : Stand p l e R s m args below meth c T locs cells slots) (hx : p.tables.exec = Jvm.exec) {k : Nat} {v : Int64} (hp : pc + 2 = pc') (hd : decode c.code pc = .ok (.lload k, 2)) (hl : L[k]? = some (.val (.long v))) (h : Go p e below s C N Q T (mkF m pc' L (.long v :: S))) : Go p e below s C N Q T (mkF m pc L S) := by
  subst hp; exact Go.st (fun _ k => XS.lload X.here hx rfl hd hl k) h
theorem G_lstoreN (X : Stand p l e R s m args below meth c T locs cells slots) (hx : p.tables.exec = Jvm.exec) {k : Fin 4} {v : Int64} (hp : pc + 1 = pc') (hd : decode c.code pc = .ok (.lstore_n k, 1)) (hl : storeLocals L k.val (.long v) = some L') (h : Go p e below s C N Q T (mkF m pc' L' S)) : Go p e below s C N Q T (mkF m pc L (.long v :: S)) := by
  subst hp; exact Go.st (fun _ k => XS.lstoreN X.here hx rfl hd rfl hl k) h
theorem G_lstore (X : Stand p l e R s m args below meth c T locs cells slots) (hx : p.tables.exec = Jvm.exec) {k : Nat} {v : Int64} (hp : pc + 2 = pc') (hd : decode c.code pc = .ok (.lstore k, 2)) (hl : storeLocals L k (.long v) = some L') (h : Go p e below s C N Q T (mkF m pc' L' S)) : Go p e below s C N Q T (mkF m pc L (.long v :: S)) := by
  subst hp; exact Go.st (fun _ k => XS.lstore X.here hx rfl hd rfl hl k) h
theorem G_aloadN (X : Stand p l e R s m args below meth c T locs cells slots) (hx : p.tables.exec = Jvm.exec) {k : Fin 4} {v : Value} (hp : pc + 1 = pc') (hd : decode c.code pc = .ok (.aload_n k, 1)) (hl : L[k.val]? = some (.val v)) (hv : v.isRef = true) (h : Go p e below s C N Q T (mkF m pc' L (v :: S))) : Go p e below s C N Q T (mkF m pc L S) := by
  subst hp; exact Go.st (fun _ k => XS.aloadN X.here hx rfl hd hl hv k) h
theorem G_aload (X : Stand p l e R s m args below meth c T locs cells slots) (hx : p.tables.exec = Jvm.exec) {k : Nat} {v : Value} (hp : pc + 2 = pc') (hd : decode c.code pc = .ok (.aload k, 2)) (hl : L[k]? = some (.val v)) (hv : v.isRef = true) (h : Go p e below s C N Q T (mkF m pc' L (v :: S))) : Go p e below s C N Q T (mkF m pc L S) := by
  subst hp; exact Go.st (fun _ k => XS.aload X.here hx rfl hd hl hv k) h
theorem G_astoreN (X : Stand p l e R s m args below meth c T locs cells slots) (hx : p.tables.exec = Jvm.exec) {k : Fin 4} {v : Value} (hp : pc + 1 = pc') (hd : decode c.code pc = .ok (.astore_n k, 1)) (hv : v.isRef = true) (hl : storeLocals L k.val v = some L') (h : Go p e below s C N Q T (mkF m pc' L' S)) : Go p e below s C N Q T (mkF m pc L (v :: S)) := by
  subst hp; exact Go.st (fun _ k => XS.astoreN X.here hx rfl hd rfl hv hl k) h
theorem G_astore (X : Stand p l e R s m args below meth c T locs cells slots) (hx : p.tables.exec = Jvm.exec) {k : Nat} {v : Value} (hp : pc + 2 = pc') (hd : decode c.code pc = .ok (.astore k, 2)) (hv : v.isRef = true) (hl : storeLocals L k v = some L') (h : Go p e below s C N Q T (mkF m pc' L' S)) : Go p e below s C N Q T (mkF m pc L (v :: S)) := by
  subst hp; exact Go.st (fun _ k => XS.astore X.here hx rfl hd rfl hv hl k) h
theorem G_iconst (X : Stand p l e R s m args below meth c T locs cells slots) (hx : p.tables.exec = Jvm.exec) {i : Int} {z : Int32} (hp : pc + 1 = pc') (hd : decode c.code pc = .ok (.iconst i, 1)) (hz : Int32.ofInt i = z) (h : Go p e below s C N Q T (mkF m pc' L (.int z :: S))) : Go p e below s C N Q T (mkF m pc L S) := by
  subst hp; exact Go.st (fun _ k => XS.iconst X.here hx rfl hd (by rw [hz]; exact k)) h
theorem G_bipush (X : Stand p l e R s m args below meth c T locs cells slots) (hx : p.tables.exec = Jvm.exec) {i : Int} {z : Int32} (hp : pc + 2 = pc') (hd : decode c.code pc = .ok (.bipush i, 2)) (hz : (Int8.ofInt i).toInt32 = z) (h : Go p e below s C N Q T (mkF m pc' L (.int z :: S))) : Go p e below s C N Q T (mkF m pc L S) := by
  subst hp; exact Go.st (fun _ k => XS.bipush X.here hx rfl hd (by rw [hz]; exact k)) h
theorem G_sipush (X : Stand p l e R s m args below meth c T locs cells slots) (hx : p.tables.exec = Jvm.exec) {i : Int} {z : Int32} (hp : pc + 3 = pc') (hd : decode c.code pc = .ok (.sipush i, 3)) (hz : (Int16.ofInt i).toInt32 = z) (h : Go p e below s C N Q T (mkF m pc' L (.int z :: S))) : Go p e below s C N Q T (mkF m pc L S) := by
  subst hp; exact Go.st (fun _ k => XS.sipush X.here hx rfl hd (by rw [hz]; exact k)) h
theorem G_lconst (X : Stand p l e R s m args below meth c T locs cells slots) (hx : p.tables.exec = Jvm.exec) {i : Fin 2} {z : Int64} (hp : pc + 1 = pc') (hd : decode c.code pc = .ok (.lconst i, 1)) (hz : Int64.ofNat i = z) (h : Go p e below s C N Q T (mkF m pc' L (.long z :: S))) : Go p e below s C N Q T (mkF m pc L S) := by
  subst hp; exact Go.st (fun _ k => XS.lconst X.here hx rfl hd (by rw [hz]; exact k)) h
theorem G_aconstNull (X : Stand p l e R s m args below meth c T locs cells slots) (hx : p.tables.exec = Jvm.exec)  (hp : pc + 1 = pc') (hd : decode c.code pc = .ok (.aconst_null, 1))  (h : Go p e below s C N Q T (mkF m pc' L (.null :: S))) : Go p e below s C N Q T (mkF m pc L S) := by
  subst hp; exact Go.st (fun _ k => XS.aconstNull X.here hx rfl hd k) h
theorem G_iadd (X : Stand p l e R s m args below meth c T locs cells slots) (hx : p.tables.exec = Jvm.exec) {x y : Int32} (hp : pc + 1 = pc') (hd : decode c.code pc = .ok (.iadd, 1))  (h : Go p e below s C N Q T (mkF m pc' L (.int (x + y) :: S))) : Go p e below s C N Q T (mkF m pc L (.int y :: .int x :: S)) := by
  subst hp; exact Go.st (fun _ k => XS.iadd X.here hx rfl hd rfl k) h
theorem G_isub (X : Stand p l e R s m args below meth c T locs cells slots) (hx : p.tables.exec = Jvm.exec) {x y : Int32} (hp : pc + 1 = pc') (hd : decode c.code pc = .ok (.isub, 1))  (h : Go p e below s C N Q T (mkF m pc' L (.int (x - y) :: S))) : Go p e below s C N Q T (mkF m pc L (.int y :: .int x :: S)) := by
  subst hp; exact Go.st (fun _ k => XS.isub X.here hx rfl hd rfl k) h
theorem G_imul (X : Stand p l e R s m args below meth c T locs cells slots) (hx : p.tables.exec = Jvm.exec) {x y : Int32} (hp : pc + 1 = pc') (hd : decode c.code pc = .ok (.imul, 1))  (h : Go p e below s C N Q T (mkF m pc' L (.int (x * y) :: S))) : Go p e below s C N Q T (mkF m pc L (.int y :: .int x :: S)) := by
  subst hp; exact Go.st (fun _ k => XS.imul X.here hx rfl hd rfl k) h
theorem G_iand (X : Stand p l e R s m args below meth c T locs cells slots) (hx : p.tables.exec = Jvm.exec) {x y : Int32} (hp : pc + 1 = pc') (hd : decode c.code pc = .ok (.iand, 1))  (h : Go p e below s C N Q T (mkF m pc' L (.int (x &&& y) :: S))) : Go p e below s C N Q T (mkF m pc L (.int y :: .int x :: S)) := by
  subst hp; exact Go.st (fun _ k => XS.iand X.here hx rfl hd rfl k) h
theorem G_ior (X : Stand p l e R s m args below meth c T locs cells slots) (hx : p.tables.exec = Jvm.exec) {x y : Int32} (hp : pc + 1 = pc') (hd : decode c.code pc = .ok (.ior, 1))  (h : Go p e below s C N Q T (mkF m pc' L (.int (x ||| y) :: S))) : Go p e below s C N Q T (mkF m pc L (.int y :: .int x :: S)) := by
  subst hp; exact Go.st (fun _ k => XS.ior X.here hx rfl hd rfl k) h
theorem G_ixor (X : Stand p l e R s m args below meth c T locs cells slots) (hx : p.tables.exec = Jvm.exec) {x y : Int32} (hp : pc + 1 = pc') (hd : decode c.code pc = .ok (.ixor, 1))  (h : Go p e below s C N Q T (mkF m pc' L (.int (x ^^^ y) :: S))) : Go p e below s C N Q T (mkF m pc L (.int y :: .int x :: S)) := by
  subst hp; exact Go.st (fun _ k => XS.ixor X.here hx rfl hd rfl k) h
theorem G_ishl (X : Stand p l e R s m args below meth c T locs cells slots) (hx : p.tables.exec = Jvm.exec) {x y : Int32} (hp : pc + 1 = pc') (hd : decode c.code pc = .ok (.ishl, 1))  (h : Go p e below s C N Q T (mkF m pc' L (.int (x <<< (y &&& 31)) :: S))) : Go p e below s C N Q T (mkF m pc L (.int y :: .int x :: S)) := by
  subst hp; exact Go.st (fun _ k => XS.ishl X.here hx rfl hd rfl k) h
theorem G_ishr (X : Stand p l e R s m args below meth c T locs cells slots) (hx : p.tables.exec = Jvm.exec) {x y : Int32} (hp : pc + 1 = pc') (hd : decode c.code pc = .ok (.ishr, 1))  (h : Go p e below s C N Q T (mkF m pc' L (.int (x >>> (y &&& 31)) :: S))) : Go p e below s C N Q T (mkF m pc L (.int y :: .int x :: S)) := by
  subst hp; exact Go.st (fun _ k => XS.ishr X.here hx rfl hd rfl k) h
theorem G_iushr (X : Stand p l e R s m args below meth c T locs cells slots) (hx : p.tables.exec = Jvm.exec) {x y : Int32} (hp : pc + 1 = pc') (hd : decode c.code pc = .ok (.iushr, 1))  (h : Go p e below s C N Q T (mkF m pc' L (.int ((x.toUInt32 >>> (y &&& 31).toUInt32).toInt32) :: S))) : Go p e below s C N Q T (mkF m pc L (.int y :: .int x :: S)) := by
  subst hp; exact Go.st (fun _ k => XS.iushr X.here hx rfl hd rfl k) h
theorem G_ladd (X : Stand p l e R s m args below meth c T locs cells slots) (hx : p.tables.exec = Jvm.exec) {x y : Int64} (hp : pc + 1 = pc') (hd : decode c.code pc = .ok (.ladd, 1))  (h : Go p e below s C N Q T (mkF m pc' L (.long (x + y) :: S))) : Go p e below s C N Q T (mkF m pc L (.long y :: .long x :: S)) := by
  subst hp; exact Go.st (fun _ k => XS.ladd X.here hx rfl hd rfl k) h
theorem G_lsub (X : Stand p l e R s m args below meth c T locs cells slots) (hx : p.tables.exec = Jvm.exec) {x y : Int64} (hp : pc + 1 = pc') (hd : decode c.code pc = .ok (.lsub, 1))  (h : Go p e below s C N Q T (mkF m pc' L (.long (x - y) :: S))) : Go p e below s C N Q T (mkF m pc L (.long y :: .long x :: S)) := by
  subst hp; exact Go.st (fun _ k => XS.lsub X.here hx rfl hd rfl k) h
theorem G_lmul (X : Stand p l e R s m args below meth c T locs cells slots) (hx : p.tables.exec = Jvm.exec) {x y : Int64} (hp : pc + 1 = pc') (hd : decode c.code pc = .ok (.lmul, 1))  (h : Go p e below s C N Q T (mkF m pc' L (.long (x * y) :: S))) : Go p e below s C N Q T (mkF m pc L (.long y :: .long x :: S)) := by
  subst hp; exact Go.st (fun _ k => XS.lmul X.here hx rfl hd rfl k) h
theorem G_land (X : Stand p l e R s m args below meth c T locs cells slots) (hx : p.tables.exec = Jvm.exec) {x y : Int64} (hp : pc + 1 = pc') (hd : decode c.code pc = .ok (.land, 1))  (h : Go p e below s C N Q T (mkF m pc' L (.long (x &&& y) :: S))) : Go p e below s C N Q T (mkF m pc L (.long y :: .long x :: S)) := by
  subst hp; exact Go.st (fun _ k => XS.land X.here hx rfl hd rfl k) h
theorem G_lor (X : Stand p l e R s m args below meth c T locs cells slots) (hx : p.tables.exec = Jvm.exec) {x y : Int64} (hp : pc + 1 = pc') (hd : decode c.code pc = .ok (.lor, 1))  (h : Go p e below s C N Q T (mkF m pc' L (.long (x ||| y) :: S))) : Go p e below s C N Q T (mkF m pc L (.long y :: .long x :: S)) := by
  subst hp; exact Go.st (fun _ k => XS.lor X.here hx rfl hd rfl k) h
theorem G_lxor (X : Stand p l e R s m args below meth c T locs cells slots) (hx : p.tables.exec = Jvm.exec) {x y : Int64} (hp : pc + 1 = pc') (hd : decode c.code pc = .ok (.lxor, 1))  (h : Go p e below s C N Q T (mkF m pc' L (.long (x ^^^ y) :: S))) : Go p e below s C N Q T (mkF m pc L (.long y :: .long x :: S)) := by
  subst hp; exact Go.st (fun _ k => XS.lxor X.here hx rfl hd rfl k) h
theorem G_lshl (X : Stand p l e R s m args below meth c T locs cells slots) (hx : p.tables.exec = Jvm.exec) {x : Int64} {y : Int32} (hp : pc + 1 = pc') (hd : decode c.code pc = .ok (.lshl, 1))  (h : Go p e below s C N Q T (mkF m pc' L (.long (x <<< (y &&& 0x3f).toInt64) :: S))) : Go p e below s C N Q T (mkF m pc L (.int y :: .long x :: S)) := by
  subst hp; exact Go.st (fun _ k => XS.lshl X.here hx rfl hd rfl k) h
theorem G_lshr (X : Stand p l e R s m args below meth c T locs cells slots) (hx : p.tables.exec = Jvm.exec) {x : Int64} {y : Int32} (hp : pc + 1 = pc') (hd : decode c.code pc = .ok (.lshr, 1))  (h : Go p e below s C N Q T (mkF m pc' L (.long (x >>> (y &&& 0x3f).toInt64) :: S))) : Go p e below s C N Q T (mkF m pc L (.int y :: .long x :: S)) := by
  subst hp; exact Go.st (fun _ k => XS.lshr X.here hx rfl hd rfl k) h
theorem G_lushr (X : Stand p l e R s m args below meth c T locs cells slots) (hx : p.tables.exec = Jvm.exec) {x : Int64} {y : Int32} (hp : pc + 1 = pc') (hd : decode c.code pc = .ok (.lushr, 1))  (h : Go p e below s C N Q T (mkF m pc' L (.long ((x.toUInt64 >>> (y &&& 0x3f).toInt64.toUInt64).toInt64) :: S))) : Go p e below s C N Q T (mkF m pc L (.int y :: .long x :: S)) := by
  subst hp; exact Go.st (fun _ k => XS.lushr X.here hx rfl hd rfl k) h
theorem G_idiv (X : Stand p l e R s m args below meth c T locs cells slots) (hx : p.tables.exec = Jvm.exec) {x y : Int32} (hp : pc + 1 = pc') (hd : decode c.code pc = .ok (.idiv, 1)) (hy : y ≠ 0) (h : Go p e below s C N Q T (mkF m pc' L (.int (x / y) :: S))) : Go p e below s C N Q T (mkF m pc L (.int y :: .int x :: S)) := by
  subst hp; exact Go.st (fun _ k => XS.idiv X.here hx rfl hd rfl hy k) h
theorem G_irem (X : Stand p l e R s m args below meth c T locs cells slots) (hx : p.tables.exec = Jvm.exec) {x y : Int32} (hp : pc + 1 = pc') (hd : decode c.code pc = .ok (.irem, 1)) (hy : y ≠ 0) (h : Go p e below s C N Q T (mkF m pc' L (.int (x % y) :: S))) : Go p e below s C N Q T (mkF m pc L (.int y :: .int x :: S)) := by
  subst hp; exact Go.st (fun _ k => iremM X hx rfl hd rfl hy k) h
theorem G_ldiv (X : Stand p l e R s m args below meth c T locs cells slots) (hx : p.tables.exec = Jvm.exec) {x y : Int64} (hp : pc + 1 = pc') (hd : decode c.code pc = .ok (.ldiv, 1)) (hy : y ≠ 0) (h : Go p e below s C N Q T (mkF m pc' L (.long (x / y) :: S))) : Go p e below s C N Q T (mkF m pc L (.long y :: .long x :: S)) := by
  subst hp; exact Go.st (fun _ k => XS.ldiv X.here hx rfl hd rfl hy k) h
theorem G_lrem (X : Stand p l e R s m args below meth c T locs cells slots) (hx : p.tables.exec = Jvm.exec) {x y : Int64} (hp : pc + 1 = pc') (hd : decode c.code pc = .ok (.lrem, 1)) (hy : y ≠ 0) (h : Go p e below s C N Q T (mkF m pc' L (.long (x % y) :: S))) : Go p e below s C N Q T (mkF m pc L (.long y :: .long x :: S)) := by
  subst hp; exact Go.st (fun _ k => XS.lrem X.here hx rfl hd rfl hy (by rw [lrem_mod]; exact k)) h
theorem G_ineg (X : Stand p l e R s m args below meth c T locs cells slots) (hx : p.tables.exec = Jvm.exec) {x : Int32} (hp : pc + 1 = pc') (hd : decode c.code pc = .ok (.ineg, 1))  (h : Go p e below s C N Q T (mkF m pc' L (.int (-x) :: S))) : Go p e below s C N Q T (mkF m pc L (.int x :: S)) := by
  subst hp; exact Go.st (fun _ k => XS.ineg X.here hx rfl hd rfl k) h
theorem G_lneg (X : Stand p l e R s m args below meth c T locs cells slots) (hx : p.tables.exec = Jvm.exec) {x : Int64} (hp : pc + 1 = pc') (hd : decode c.code pc = .ok (.lneg, 1))  (h : Go p e below s C N Q T (mkF m pc' L (.long (-x) :: S))) : Go p e below s C N Q T (mkF m pc L (.long x :: S)) := by
  subst hp; exact Go.st (fun _ k => XS.lneg X.here hx rfl hd rfl k) h
theorem G_i2l (X : Stand p l e R s m args below meth c T locs cells slots) (hx : p.tables.exec = Jvm.exec) {x : Int32} (hp : pc + 1 = pc') (hd : decode c.code pc = .ok (.i2l, 1))  (h : Go p e below s C N Q T (mkF m pc' L (.long (x.toInt64) :: S))) : Go p e below s C N Q T (mkF m pc L (.int x :: S)) := by
  subst hp; exact Go.st (fun _ k => XS.i2l X.here hx rfl hd rfl k) h
theorem G_l2i (X : Stand p l e R s m args below meth c T locs cells slots) (hx : p.tables.exec = Jvm.exec) {x : Int64} (hp : pc + 1 = pc') (hd : decode c.code pc = .ok (.l2i, 1))  (h : Go p e below s C N Q T (mkF m pc' L (.int (x.toInt32) :: S))) : Go p e below s C N Q T (mkF m pc L (.long x :: S)) := by
  subst hp; exact Go.st (fun _ k => XS.l2i X.here hx rfl hd rfl k) h
theorem G_i2b (X : Stand p l e R s m args below meth c T locs cells slots) (hx : p.tables.exec = Jvm.exec) {x : Int32} (hp : pc + 1 = pc') (hd : decode c.code pc = .ok (.i2b, 1))  (h : Go p e below s C N Q T (mkF m pc' L (.int (x.toInt8.toInt32) :: S))) : Go p e below s C N Q T (mkF m pc L (.int x :: S)) := by
  subst hp; exact Go.st (fun _ k => XS.i2b X.here hx rfl hd rfl k) h
theorem G_i2s (X : Stand p l e R s m args below meth c T locs cells slots) (hx : p.tables.exec = Jvm.exec) {x : Int32} (hp : pc + 1 = pc') (hd : decode c.code pc = .ok (.i2s, 1))  (h : Go p e below s C N Q T (mkF m pc' L (.int (x.toInt16.toInt32) :: S))) : Go p e below s C N Q T (mkF m pc L (.int x :: S)) := by
  subst hp; exact Go.st (fun _ k => XS.i2s X.here hx rfl hd rfl k) h
theorem G_i2c (X : Stand p l e R s m args below meth c T locs cells slots) (hx : p.tables.exec = Jvm.exec) {x : Int32} (hp : pc + 1 = pc') (hd : decode c.code pc = .ok (.i2c, 1))  (h : Go p e below s C N Q T (mkF m pc' L (.int (x.toUInt32.toUInt16.toUInt32.toInt32) :: S))) : Go p e below s C N Q T (mkF m pc L (.int x :: S)) := by
  subst hp; exact Go.st (fun _ k => XS.i2c X.here hx rfl hd rfl k) h
theorem G_lcmp (X : Stand p l e R s m args below meth c T locs cells slots) (hx : p.tables.exec = Jvm.exec) {x y : Int64} (hp : pc + 1 = pc') (hd : decode c.code pc = .ok (.lcmp, 1))  (h : Go p e below s C N Q T (mkF m pc' L (.int (lcmpW x y) :: S))) : Go p e below s C N Q T (mkF m pc L (.long y :: .long x :: S)) := by
  subst hp; exact Go.st (fun _ k => XS.lcmp X.here hx rfl hd rfl k) h
theorem G_iinc (X : Stand p l e R s m args below meth c T locs cells slots) (hx : p.tables.exec = Jvm.exec) {k : Nat} {cst : Int} {x z : Int32} (hp : pc + 3 = pc') (hd : decode c.code pc = .ok (.iinc k cst, 3)) (hl : L[k]? = some (.val (.int x))) (hz : x + Int32.ofInt cst = z) (hl' : storeLocals L k (.int z) = some L') (h : Go p e below s C N Q T (mkF m pc' L' S)) : Go p e below s C N Q T (mkF m pc L S) := by
  subst hp; exact Go.st (fun _ k => XS.iinc X.here hx rfl hd hl (by rw [hz]; exact hl') k) h
theorem G_dup (X : Stand p l e R s m args below meth c T locs cells slots) (hx : p.tables.exec = Jvm.exec) {x : Value} (hp : pc + 1 = pc') (hd : decode c.code pc = .ok (.dup, 1)) (hc : x.category = 1) (h : Go p e below s C N Q T (mkF m pc' L (x :: x :: S))) : Go p e below s C N Q T (mkF m pc L (x :: S)) := by
  subst hp; exact Go.st (fun _ k => XS.dup X.here hx rfl hd rfl hc k) h
theorem G_pop (X : Stand p l e R s m args below meth c T locs cells slots) (hx : p.tables.exec = Jvm.exec) {x : Value} (hp : pc + 1 = pc') (hd : decode c.code pc = .ok (.pop, 1)) (hc : x.category = 1) (h : Go p e below s C N Q T (mkF m pc' L S)) : Go p e below s C N Q T (mkF m pc L (x :: S)) := by
  subst hp; exact Go.st (fun _ k => XS.pop X.here hx rfl hd rfl hc k) h
theorem G_dupX1 (X : Stand p l e R s m args below meth c T locs cells slots) (hx : p.tables.exec = Jvm.exec) {x y : Value} (hp : pc + 1 = pc') (hd : decode c.code pc = .ok (.dup_x1, 1)) (hc : x.category = 1) (hc' : y.category = 1) (h : Go p e below s C N Q T (mkF m pc' L (x :: y :: x :: S))) : Go p e below s C N Q T (mkF m pc L (x :: y :: S)) := by
  subst hp; exact Go.st (fun _ k => XS.dupX1 X.here hx rfl hd rfl hc hc' k) h
theorem G_goto (X : Stand p l e R s m args below meth c T locs cells slots) (hx : p.tables.exec = Jvm.exec)  {o : Int} (hd : decode c.code pc = .ok (.goto o, 3))  (ho : 0 ≤ (pc : Int) + o) (hp : ((pc : Int) + o).toNat = pc') (h : Go p e below s C N Q T (mkF m pc' L S)) : Go p e below s C N Q T (mkF m pc L S) :=
  Go.st (fun _ k => XS.goto X.here hx rfl rfl hd ho hp k) h
theorem G_ifYes (X : Stand p l e R s m args below meth c T locs cells slots) (hx : p.tables.exec = Jvm.exec) {cd : ClassFile.Cond} {x : Int32} {o : Int} (hd : decode c.code pc = .ok (.ifCond cd o, 3)) (hc : ifCond.holds cd x = true) (ho : 0 ≤ (pc : Int) + o) (hp : ((pc : Int) + o).toNat = pc') (h : Go p e below s C N Q T (mkF m pc' L S)) : Go p e below s C N Q T (mkF m pc L (.int x :: S)) :=
  Go.st (fun _ k => XS.ifYes X.here hx rfl rfl hd rfl hc ho hp k) h
theorem G_icmpYes (X : Stand p l e R s m args below meth c T locs cells slots) (hx : p.tables.exec = Jvm.exec) {cd : ClassFile.Cond} {x y : Int32} {o : Int} (hd : decode c.code pc = .ok (.if_icmp cd o, 3)) (hc : if_icmp.holds cd x y = true) (ho : 0 ≤ (pc : Int) + o) (hp : ((pc : Int) + o).toNat = pc') (h : Go p e below s C N Q T (mkF m pc' L S)) : Go p e below s C N Q T (mkF m pc L (.int y :: .int x :: S)) :=
  Go.st (fun _ k => XS.icmpYes X.here hx rfl rfl hd rfl hc ho hp k) h
theorem G_ifnullYes (X : Stand p l e R s m args below meth c T locs cells slots) (hx : p.tables.exec = Jvm.exec)  {o : Int} (hd : decode c.code pc = .ok (.ifnull o, 3))  (ho : 0 ≤ (pc : Int) + o) (hp : ((pc : Int) + o).toNat = pc') (h : Go p e below s C N Q T (mkF m pc' L S)) : Go p e below s C N Q T (mkF m pc L (.null :: S)) :=
  Go.st (fun _ k => XS.ifnullYes X.here hx rfl rfl hd rfl ho hp k) h
theorem G_ifnonnullYes (X : Stand p l e R s m args below meth c T locs cells slots) (hx : p.tables.exec = Jvm.exec) {b : Addr} {o : Int} (hd : decode c.code pc = .ok (.ifnonnull o, 3))  (ho : 0 ≤ (pc : Int) + o) (hp : ((pc : Int) + o).toNat = pc') (h : Go p e below s C N Q T (mkF m pc' L S)) : Go p e below s C N Q T (mkF m pc L (.ref b :: S)) :=
  Go.st (fun _ k => XS.ifnonnullYes X.here hx rfl rfl hd rfl ho hp k) h
theorem G_ifNo (X : Stand p l e R s m args below meth c T locs cells slots) (hx : p.tables.exec = Jvm.exec) {cd : ClassFile.Cond} {x : Int32} {o : Int} (hp : pc + 3 = pc') (hd : decode c.code pc = .ok (.ifCond cd o, 3)) (hc : ifCond.holds cd x = false) (h : Go p e below s C N Q T (mkF m pc' L S)) : Go p e below s C N Q T (mkF m pc L (.int x :: S)) := by
  subst hp; exact Go.st (fun _ k => XS.ifNo X.here hx rfl hd rfl hc k) h
theorem G_icmpNo (X : Stand p l e R s m args below meth c T locs cells slots) (hx : p.tables.exec = Jvm.exec) {cd : ClassFile.Cond} {x y : Int32} {o : Int} (hp : pc + 3 = pc') (hd : decode c.code pc = .ok (.if_icmp cd o, 3)) (hc : if_icmp.holds cd x y = false) (h : Go p e below s C N Q T (mkF m pc' L S)) : Go p e below s C N Q T (mkF m pc L (.int y :: .int x :: S)) := by
  subst hp; exact Go.st (fun _ k => XS.icmpNo X.here hx rfl hd rfl hc k) h
theorem G_ifnullNo (X : Stand p l e R s m args below meth c T locs cells slots) (hx : p.tables.exec = Jvm.exec) {b : Addr} {o : Int} (hp : pc + 3 = pc') (hd : decode c.code pc = .ok (.ifnull o, 3))  (h : Go p e below s C N Q T (mkF m pc' L S)) : Go p e below s C N Q T (mkF m pc L (.ref b :: S)) := by
  subst hp; exact Go.st (fun _ k => XS.ifnullNo X.here hx rfl hd rfl k) h
theorem G_ifnonnullNo (X : Stand p l e R s m args below meth c T locs cells slots) (hx : p.tables.exec = Jvm.exec) {o : Int} (hp : pc + 3 = pc') (hd : decode c.code pc = .ok (.ifnonnull o, 3))  (h : Go p e below s C N Q T (mkF m pc' L S)) : Go p e below s C N Q T (mkF m pc L (.null :: S)) := by
  subst hp; exact Go.st (fun _ k => XS.ifnonnullNo X.here hx rfl hd rfl k) h
theorem G_ldc (X : Stand p l e R s m args below meth c T locs cells slots) (hx : p.tables.exec = Jvm.exec) (hp : pc + 2 = pc') {own : String} {index : Nat} {v : Int32} (hown : s.vm.findClass own = some m.cls) (hw : (Cond.constant own index v).before args s = true) (hd : decode c.code pc = .ok (.ldc index, 2)) (h : Go p e below s C N Q T (mkF m pc' L (.int v :: S))) : Go p e below s C N Q T (mkF m pc L S) := by
  subst hp; exact Go.st (X.ldcInt hx hown hw (g := mkF m pc L S) rfl hd) h
theorem G_ldc2 (X : Stand p l e R s m args below meth c T locs cells slots) (hx : p.tables.exec = Jvm.exec) (hp : pc + 3 = pc') {own : String} {index : Nat} {v : Int64} (hown : s.vm.findClass own = some m.cls) (hw : (Cond.constantLong own index v).before args s = true) (hd : decode c.code pc = .ok (.ldc2_w index, 3)) (h : Go p e below s C N Q T (mkF m pc' L (.long v :: S))) : Go p e below s C N Q T (mkF m pc L S) := by
  subst hp; exact Go.st (X.ldc2Long hx hown hw (g := mkF m pc L S) rfl hd) h
end OwnG


theorem d_isWs_0 : decode prog_107_method_4_code 0 = .ok (.iload_n 0, 1) := by decide +kernel
theorem d_isWs_1 : decode prog_107_method_4_code 1 = .ok (.bipush 32, 2) := by decide +kernel
theorem d_isWs_3 : decode prog_107_method_4_code 3 = .ok (.if_icmp .eq 21, 3) := by decide +kernel
theorem d_isWs_24 : decode prog_107_method_4_code 24 = .ok (.iconst 1, 1) := by decide +kernel
theorem d_isWs_25 : decode prog_107_method_4_code 25 = .ok (.goto 4, 3) := by decide +kernel
theorem d_isWs_29 : decode prog_107_method_4_code 29 = .ok (.ireturn, 1) := by decide +kernel
theorem d_isWs_6 : decode prog_107_method_4_code 6 = .ok (.iload_n 0, 1) := by decide +kernel
theorem d_isWs_7 : decode prog_107_method_4_code 7 = .ok (.bipush 9, 2) := by decide +kernel
theorem d_isWs_9 : decode prog_107_method_4_code 9 = .ok (.if_icmp .eq 15, 3) := by decide +kernel
theorem d_isWs_12 : decode prog_107_method_4_code 12 = .ok (.iload_n 0, 1) := by decide +kernel
theorem d_isWs_13 : decode prog_107_method_4_code 13 = .ok (.bipush 13, 2) := by decide +kernel
theorem d_isWs_15 : decode prog_107_method_4_code 15 = .ok (.if_icmp .eq 9, 3) := by decide +kernel
theorem d_isWs_18 : decode prog_107_method_4_code 18 = .ok (.iload_n 0, 1) := by decide +kernel
theorem d_isWs_19 : decode prog_107_method_4_code 19 = .ok (.bipush 10, 2) := by decide +kernel
theorem d_isWs_21 : decode prog_107_method_4_code 21 = .ok (.if_icmp .ne 7, 3) := by decide +kernel
theorem d_isWs_28 : decode prog_107_method_4_code 28 = .ok (.iconst 0, 1) := by decide +kernel
def f_isWs (v0 : Int32) : Int32 := (if v0 = (32 : Int32) then (1 : Int32) else (if v0 = (9 : Int32) then (1 : Int32) else (if v0 = (13 : Int32) then (1 : Int32) else (if v0 = (10 : Int32) then (1 : Int32) else (0 : Int32)))))
theorem ef_isWs (m : MethodId) (v0 : Int32) : entryFrame m #[(.int v0)] 1 = mkF m 0 #[.val (.int v0)] [] := by first | (simp [entryFrame, mkF, argsToLocals, Value.category]; done) | rfl
def Q_isWs (Z : State) (v0 : Int32) (h0 : Heap) (n0 : Nat) (v : Option Value) (h : Heap) (L : List Loc) : Prop := v = some (.int (f_isWs v0)) ∧ Fr n0 L ∧ h = h0
set_option maxRecDepth 65536 in
set_option maxHeartbeats 40000000 in
theorem rm_isWs (l : Launch) (Z : State) (a0 : Array Value) (hw : ∀ d ∈ tables_1, d.before a0 Z = true) (ws : List Jvm.Cond) (v0 : Int32) (h0 : Heap) (n0 : Nat) (Z0 : n0 ≤ h0.size) :
    MetFree l (⟨"com/example/bound_prefix/boundprefix/XmlCharacters", "isWhiteSpace", "(I)Z"⟩ : MethodName) (head1 (Jvm.Cond.code (⟨"com/example/bound_prefix/boundprefix/XmlCharacters", "isWhiteSpace", "(I)Z"⟩ : MethodName) prog_107_method_4_code 1 (some .boolean) :: ws) ({ frames := 0, cells := 0, slots := 0, locals := 0 } : Room)) (fun a U => a = #[(.int v0)] ∧ Z.Warmed39 U.vm ∧ U.heap = h0) (fun _ _ _ _ _ => True) (fun _ U o U' => ∃ v L, o = .returned v ∧ Q_isWs Z v0 h0 n0 v U'.heap L ∧ FrameEnd U o U' L ({ frames := 0, cells := 0, slots := 0, locals := 0 } : Room).cells ({ frames := 0, cells := 0, slots := 0, locals := 0 } : Room).slots) := by
  refine MetFree.of_bodySF (plainFor_of_name (by first | (simp [plainName, overriddenIn]; done) | decide +kernel)) hisR ?_
  intro p e s m args below meth c s₁ Bd hml0 hP hK
  obtain ⟨rfl, hZ, hh⟩ := hP
  have hx := Bd.exec
  have hby := Bd.bytes
  have hml : c.maxLocals = 1 := hml0
  have hown : s.vm.findClass "com/example/bound_prefix/boundprefix/XmlCharacters" = some m.cls := findClass_of_methodNamed Bd.named
  have hnm := (name_of_methodNamed Bd.named Bd.method).1
  have hlk : meth.locks = false := Bd.notSynchronized
  have X0 : Stand p l e ({ frames := 0, cells := 0, slots := 0, locals := 0 } : Room) s m #[(.int v0)] below meth c s₁ [] 0 0 := Stand.of_body Bd
  have e0 : s₁.heap = h0 := by rw [← hh, Bd.state]; rfl
  have N0 := Fr.nil n0
  refine Go.enter (Q := Q_isWs Z v0 h0 n0) (C := ({ frames := 0, cells := 0, slots := 0, locals := 0 } : Room).cells) (N := ({ frames := 0, cells := 0, slots := 0, locals := 0 } : Room).slots) (ef_isWs m v0) ?_
  show Go p e below s _ _ _ s₁ (mkF m 0 #[.val (.int v0)] [])
  refine G_iloadN X0 hx (pc' := 1) rfl (hb hby d_isWs_0) rfl ?_
  refine G_bipush X0 hx (pc' := 3) rfl (hb hby d_isWs_1) (z := (32 : Int32)) rfl ?_
  by_cases hc3_1 : v0 = (32 : Int32)
  · refine G_icmpYes X0 hx (pc' := 24) (hb hby d_isWs_3) (teq hc3_1).1 (by decide) (by decide) ?_
    refine G_iconst X0 hx (pc' := 25) rfl (hb hby d_isWs_24) (z := (1 : Int32)) rfl ?_
    refine G_goto X0 hx (pc' := 29) (hb hby d_isWs_25)  (by decide) (by decide) ?_
    refine Go.fin X0 hlk (v := some (.int (1 : Int32))) (fun h => by rw [Bd.returns] at h; cases h) (by decide) (by decide) ?_ (fun fs hr => retN X0 hx (t := .boolean) Bd.returns (by simp) (hb hby d_isWs_29) hr)
    show Q_isWs Z v0 h0 n0 _ s₁.heap _
    rw [e0]
    exact ⟨congrArg (fun z => some (Value.int z)) (by rw [f_isWs]; rw [if_pos hc3_1]), N0, rfl⟩
  · refine G_icmpNo X0 hx (pc' := 6) rfl (hb hby d_isWs_3) (feq hc3_1).1 ?_
    refine G_iloadN X0 hx (pc' := 7) rfl (hb hby d_isWs_6) rfl ?_
    refine G_bipush X0 hx (pc' := 9) rfl (hb hby d_isWs_7) (z := (9 : Int32)) rfl ?_
    by_cases hc9_2 : v0 = (9 : Int32)
    · refine G_icmpYes X0 hx (pc' := 24) (hb hby d_isWs_9) (teq hc9_2).1 (by decide) (by decide) ?_
      refine G_iconst X0 hx (pc' := 25) rfl (hb hby d_isWs_24) (z := (1 : Int32)) rfl ?_
      refine G_goto X0 hx (pc' := 29) (hb hby d_isWs_25)  (by decide) (by decide) ?_
      refine Go.fin X0 hlk (v := some (.int (1 : Int32))) (fun h => by rw [Bd.returns] at h; cases h) (by decide) (by decide) ?_ (fun fs hr => retN X0 hx (t := .boolean) Bd.returns (by simp) (hb hby d_isWs_29) hr)
      show Q_isWs Z v0 h0 n0 _ s₁.heap _
      rw [e0]
      exact ⟨congrArg (fun z => some (Value.int z)) (by rw [f_isWs]; rw [if_neg hc3_1, if_pos hc9_2]), N0, rfl⟩
    · refine G_icmpNo X0 hx (pc' := 12) rfl (hb hby d_isWs_9) (feq hc9_2).1 ?_
      refine G_iloadN X0 hx (pc' := 13) rfl (hb hby d_isWs_12) rfl ?_
      refine G_bipush X0 hx (pc' := 15) rfl (hb hby d_isWs_13) (z := (13 : Int32)) rfl ?_
      by_cases hc15_3 : v0 = (13 : Int32)
      · refine G_icmpYes X0 hx (pc' := 24) (hb hby d_isWs_15) (teq hc15_3).1 (by decide) (by decide) ?_
        refine G_iconst X0 hx (pc' := 25) rfl (hb hby d_isWs_24) (z := (1 : Int32)) rfl ?_
        refine G_goto X0 hx (pc' := 29) (hb hby d_isWs_25)  (by decide) (by decide) ?_
        refine Go.fin X0 hlk (v := some (.int (1 : Int32))) (fun h => by rw [Bd.returns] at h; cases h) (by decide) (by decide) ?_ (fun fs hr => retN X0 hx (t := .boolean) Bd.returns (by simp) (hb hby d_isWs_29) hr)
        show Q_isWs Z v0 h0 n0 _ s₁.heap _
        rw [e0]
        exact ⟨congrArg (fun z => some (Value.int z)) (by rw [f_isWs]; rw [if_neg hc3_1, if_neg hc9_2, if_pos hc15_3]), N0, rfl⟩
      · refine G_icmpNo X0 hx (pc' := 18) rfl (hb hby d_isWs_15) (feq hc15_3).1 ?_
        refine G_iloadN X0 hx (pc' := 19) rfl (hb hby d_isWs_18) rfl ?_
        refine G_bipush X0 hx (pc' := 21) rfl (hb hby d_isWs_19) (z := (10 : Int32)) rfl ?_
        by_cases hc21_4 : v0 = (10 : Int32)
        · refine G_icmpNo X0 hx (pc' := 24) rfl (hb hby d_isWs_21) (teq hc21_4).2 ?_
          refine G_iconst X0 hx (pc' := 25) rfl (hb hby d_isWs_24) (z := (1 : Int32)) rfl ?_
          refine G_goto X0 hx (pc' := 29) (hb hby d_isWs_25)  (by decide) (by decide) ?_
          refine Go.fin X0 hlk (v := some (.int (1 : Int32))) (fun h => by rw [Bd.returns] at h; cases h) (by decide) (by decide) ?_ (fun fs hr => retN X0 hx (t := .boolean) Bd.returns (by simp) (hb hby d_isWs_29) hr)
          show Q_isWs Z v0 h0 n0 _ s₁.heap _
          rw [e0]
          exact ⟨congrArg (fun z => some (Value.int z)) (by rw [f_isWs]; rw [if_neg hc3_1, if_neg hc9_2, if_neg hc15_3, if_pos hc21_4]), N0, rfl⟩
        · refine G_icmpYes X0 hx (pc' := 28) (hb hby d_isWs_21) (feq hc21_4).2 (by decide) (by decide) ?_
          refine G_iconst X0 hx (pc' := 29) rfl (hb hby d_isWs_28) (z := (0 : Int32)) rfl ?_
          refine Go.fin X0 hlk (v := some (.int (0 : Int32))) (fun h => by rw [Bd.returns] at h; cases h) (by decide) (by decide) ?_ (fun fs hr => retN X0 hx (t := .boolean) Bd.returns (by simp) (hb hby d_isWs_29) hr)
          show Q_isWs Z v0 h0 n0 _ s₁.heap _
          rw [e0]
          exact ⟨congrArg (fun z => some (Value.int z)) (by rw [f_isWs]; rw [if_neg hc3_1, if_neg hc9_2, if_neg hc15_3, if_neg hc21_4]), N0, rfl⟩
theorem pd_0 : parseMethodDescriptor "(I)Z" = some ⟨[.int], some .boolean⟩ := by decide +kernel
def f_law (v0 : Int32) (v1 : Int32) : Int32 := (if (v1 &&& (3 : Int32)) = (0 : Int32) then (if v0 < (0 : Int32) then (if (f_isWs v0) = (0 : Int32) then (1 : Int32) else (0 : Int32)) else (if (32 : Int32) < v0 then (if (f_isWs v0) = (0 : Int32) then (1 : Int32) else (0 : Int32)) else (if ((((4294977024 : Int64).toUInt64 >>> (v0 &&& 0x3f).toInt64.toUInt64).toInt64) &&& (1 : Int64)) = (0 : Int64) then (if (f_isWs v0) = (0 : Int32) then (1 : Int32) else (0 : Int32)) else (if (f_isWs v0) = (1 : Int32) then (1 : Int32) else (0 : Int32))))) else (if (v1 &&& (3 : Int32)) = (1 : Int32) then (if (v0 &&& (63 : Int32)) < (0 : Int32) then (if (f_isWs (v0 &&& (63 : Int32))) = (0 : Int32) then (1 : Int32) else (0 : Int32)) else (if (32 : Int32) < (v0 &&& (63 : Int32)) then (if (f_isWs (v0 &&& (63 : Int32))) = (0 : Int32) then (1 : Int32) else (0 : Int32)) else (if ((((4294977024 : Int64).toUInt64 >>> ((v0 &&& (63 : Int32)) &&& 0x3f).toInt64.toUInt64).toInt64) &&& (1 : Int64)) = (0 : Int64) then (if (f_isWs (v0 &&& (63 : Int32))) = (0 : Int32) then (1 : Int32) else (0 : Int32)) else (if (f_isWs (v0 &&& (63 : Int32))) = (1 : Int32) then (1 : Int32) else (0 : Int32))))) else (if (v1 &&& (3 : Int32)) = (2 : Int32) then (if (v0 &&& (65535 : Int32)) < (0 : Int32) then (if (f_isWs (v0 &&& (65535 : Int32))) = (0 : Int32) then (1 : Int32) else (0 : Int32)) else (if (32 : Int32) < (v0 &&& (65535 : Int32)) then (if (f_isWs (v0 &&& (65535 : Int32))) = (0 : Int32) then (1 : Int32) else (0 : Int32)) else (if ((((4294977024 : Int64).toUInt64 >>> ((v0 &&& (65535 : Int32)) &&& 0x3f).toInt64.toUInt64).toInt64) &&& (1 : Int64)) = (0 : Int64) then (if (f_isWs (v0 &&& (65535 : Int32))) = (0 : Int32) then (1 : Int32) else (0 : Int32)) else (if (f_isWs (v0 &&& (65535 : Int32))) = (1 : Int32) then (1 : Int32) else (0 : Int32))))) else (if ((v0 &&& (-65536 : Int32)) ||| (((v1.toUInt32 >>> ((2 : Int32) &&& 31).toUInt32).toInt32) &&& (63 : Int32))) < (0 : Int32) then (if (f_isWs ((v0 &&& (-65536 : Int32)) ||| (((v1.toUInt32 >>> ((2 : Int32) &&& 31).toUInt32).toInt32) &&& (63 : Int32)))) = (0 : Int32) then (1 : Int32) else (0 : Int32)) else (if (32 : Int32) < ((v0 &&& (-65536 : Int32)) ||| (((v1.toUInt32 >>> ((2 : Int32) &&& 31).toUInt32).toInt32) &&& (63 : Int32))) then (if (f_isWs ((v0 &&& (-65536 : Int32)) ||| (((v1.toUInt32 >>> ((2 : Int32) &&& 31).toUInt32).toInt32) &&& (63 : Int32)))) = (0 : Int32) then (1 : Int32) else (0 : Int32)) else (if ((((4294977024 : Int64).toUInt64 >>> (((v0 &&& (-65536 : Int32)) ||| (((v1.toUInt32 >>> ((2 : Int32) &&& 31).toUInt32).toInt32) &&& (63 : Int32))) &&& 0x3f).toInt64.toUInt64).toInt64) &&& (1 : Int64)) = (0 : Int64) then (if (f_isWs ((v0 &&& (-65536 : Int32)) ||| (((v1.toUInt32 >>> ((2 : Int32) &&& 31).toUInt32).toInt32) &&& (63 : Int32)))) = (0 : Int32) then (1 : Int32) else (0 : Int32)) else (if (f_isWs ((v0 &&& (-65536 : Int32)) ||| (((v1.toUInt32 >>> ((2 : Int32) &&& 31).toUInt32).toInt32) &&& (63 : Int32)))) = (1 : Int32) then (1 : Int32) else (0 : Int32))))))))
theorem ef_law (m : MethodId) (v0 : Int32) (v1 : Int32) : entryFrame m #[(.int v0), (.int v1)] maxLocals = mkF m 0 #[.val (.int v0), .val (.int v1), .unset, .unset, .unset] [] := by first | (simp [entryFrame, mkF, argsToLocals, Value.category, maxLocals]; done) | rfl
def Q_law (Z : State) (v0 : Int32) (v1 : Int32) (h0 : Heap) (n0 : Nat) (v : Option Value) (h : Heap) (L : List Loc) : Prop := v = some (.int (f_law v0 v1)) ∧ Fr n0 L
set_option maxRecDepth 65536 in
set_option maxHeartbeats 40000000 in
theorem rm_law (l : Launch) (Z : State) (a0 : Array Value) (hw : ∀ d ∈ tables_1, d.before a0 Z = true) (ws : List Jvm.Cond) (v0 : Int32) (v1 : Int32) (h0 : Heap) (n0 : Nat) (Z0 : n0 ≤ h0.size) :
    MetFree l x (head1 (Jvm.Cond.code x code maxLocals ret :: ws) room_1) (fun a U => a = #[(.int v0), (.int v1)] ∧ Z.Warmed39 U.vm ∧ U.heap = h0) (fun _ _ _ _ _ => True) (fun _ U o U' => ∃ v L, o = .returned v ∧ Q_law Z v0 v1 h0 n0 v U'.heap L ∧ FrameEnd U o U' L room_1.cells room_1.slots) := by
  refine MetFree.of_bodySF (plainFor_of_name (by first | (simp [plainName, overriddenIn]; done) | decide +kernel)) hisR ?_
  intro p e s m args below meth c s₁ Bd hml0 hP hK
  obtain ⟨rfl, hZ, hh⟩ := hP
  have hx := Bd.exec
  have hby := Bd.bytes
  have hml : c.maxLocals = 5 := hml0
  have hown : s.vm.findClass "com/example/bound_prefix/boundprefix/XmlCharactersIsWhiteSpacePinLaw" = some m.cls := findClass_of_methodNamed Bd.named
  have hnm := (name_of_methodNamed Bd.named Bd.method).1
  have hlk : meth.locks = false := Bd.notSynchronized
  have X0 : Stand p l e room_1 s m #[(.int v0), (.int v1)] below meth c s₁ [] 0 0 := Stand.of_body Bd
  have e0 : s₁.heap = h0 := by rw [← hh, Bd.state]; rfl
  have N0 := Fr.nil n0
  refine Go.enter (Q := Q_law Z v0 v1 h0 n0) (C := room_1.cells) (N := room_1.slots) (ef_law m v0 v1) ?_
  show Go p e below s _ _ _ s₁ (mkF m 0 #[.val (.int v0), .val (.int v1), .unset, .unset, .unset] [])
  refine G_iloadN X0 hx (pc' := 1) rfl (hb hby at_0) rfl ?_
  refine G_iconst X0 hx (pc' := 2) rfl (hb hby at_1) (z := (3 : Int32)) rfl ?_
  refine G_iand X0 hx (pc' := 3) rfl (hb hby at_2)  ?_
  refine G_istoreN X0 hx (pc' := 4) rfl (hb hby at_3) (L' := #[.val (.int v0), .val (.int v1), .val (.int (v1 &&& (3 : Int32))), .unset, .unset]) rfl ?_
  refine G_iloadN X0 hx (pc' := 5) rfl (hb hby at_4) rfl ?_
  by_cases hc5_1 : (v1 &&& (3 : Int32)) = (0 : Int32)
  · refine G_ifNo X0 hx (pc' := 8) rfl (hb hby at_5) ((if0 _ _).trans (teq hc5_1).2) ?_
    refine G_iloadN X0 hx (pc' := 9) rfl (hb hby at_8) rfl ?_
    refine G_istoreN X0 hx (pc' := 10) rfl (hb hby at_9) (L' := #[.val (.int v0), .val (.int v1), .val (.int (v1 &&& (3 : Int32))), .val (.int v0), .unset]) rfl ?_
    refine G_goto X0 hx (pc' := 51) (hb hby at_10)  (by decide) (by decide) ?_
    refine G_iloadN X0 hx (pc' := 52) rfl (hb hby at_51) rfl ?_
    by_cases hc52_2 : v0 < (0 : Int32)
    · refine G_ifYes X0 hx (pc' := 77) (hb hby at_52) ((if0 _ _).trans (tlt hc52_2).1) (by decide) (by decide) ?_
      refine G_iconst X0 hx (pc' := 78) rfl (hb hby at_77) (z := (0 : Int32)) rfl ?_
      refine G_istore X0 hx (pc' := 80) rfl (hb hby at_78) (L' := #[.val (.int v0), .val (.int v1), .val (.int (v1 &&& (3 : Int32))), .val (.int v0), .val (.int (0 : Int32))]) rfl ?_
      refine G_iloadN X0 hx (pc' := 81) rfl (hb hby at_80) rfl ?_
      obtain ⟨_, _, ⟨T1, L1, k1, n1⟩, -, X1, ⟨Lc1, hQ1, l1, y1, z1⟩, st1⟩ := Jvm.LawKit.callS X0 hx (y := (⟨"com/example/bound_prefix/boundprefix/XmlCharacters", "isWhiteSpace", "(I)Z"⟩ : MethodName)) hown (mvT hZ (hw _ (List.mem_of_getElem? (i := 2) rfl))) (mvT hZ (hw _ (List.mem_of_getElem? (i := 3) rfl))) (mvT hZ (hw _ (List.mem_of_getElem? (i := 4) rfl))) (mvT hZ (hw _ (List.mem_of_getElem? (i := 5) rfl))) (by decide) (backOf (W := 0) (rm_isWs l Z a0 hw [] v0 h0 n0 Z0 ) hZ (hw _ (List.mem_of_getElem? (i := 5) rfl)) (hw _ (List.mem_of_getElem? (i := 4) rfl)) (by decide) (by decide)) (g := (mkF m 81 #[.val (.int v0), .val (.int v1), .val (.int (v1 &&& (3 : Int32))), .val (.int v0), .val (.int (0 : Int32))] [(.int v0)])) rfl (by rw [hml]; rfl) (argsL := [(.int v0)]) (rest := []) (lenOf pd_0 rfl) rfl (by show 2 * 0 + _ ≤ _; exact Nat.le_of_eq rfl) (hb hby at_81) (fun _ _ => ⟨rfl, e0, (by decide : 0 + 0 ≤ _), (by decide : 0 + 0 ≤ _)⟩)
      dsimp only [Pt.U, Pt.locs, Pt.cells, Pt.slots] at X1 l1 y1 z1 st1 hQ1
      subst l1 y1 z1
      obtain ⟨rfl, N1q, e1⟩ := hQ1
      have N1 := Fr.app N0 N1q
      refine Go.st st1 ?_
      show Go p e below s _ _ _ T1 (mkF m 84 #[.val (.int v0), .val (.int v1), .val (.int (v1 &&& (3 : Int32))), .val (.int v0), .val (.int (0 : Int32))] [(.int (f_isWs v0))])
      refine G_iload X1 hx (pc' := 86) rfl (hb hby at_84) rfl ?_
      by_cases hc86_3 : (f_isWs v0) = (0 : Int32)
      · refine G_icmpNo X1 hx (pc' := 89) rfl (hb hby at_86) (teq hc86_3).2 ?_
        refine G_iconst X1 hx (pc' := 90) rfl (hb hby at_89) (z := (1 : Int32)) rfl ?_
        refine G_goto X1 hx (pc' := 94) (hb hby at_90)  (by decide) (by decide) ?_
        refine Go.fin X1 hlk (v := some (.int (1 : Int32))) (fun h => by rw [Bd.returns] at h; cases h) (by decide) (by decide) ?_ (fun fs hr => retN X1 hx (t := .boolean) Bd.returns (by simp) (hb hby at_94) hr)
        show Q_law Z v0 v1 h0 n0 _ T1.heap _
        rw [e1]
        exact ⟨congrArg (fun z => some (Value.int z)) (by rw [f_law]; rw [if_pos hc5_1, if_pos hc52_2, if_pos hc86_3]), N1⟩
      · refine G_icmpYes X1 hx (pc' := 93) (hb hby at_86) (feq hc86_3).2 (by decide) (by decide) ?_
        refine G_iconst X1 hx (pc' := 94) rfl (hb hby at_93) (z := (0 : Int32)) rfl ?_
        refine Go.fin X1 hlk (v := some (.int (0 : Int32))) (fun h => by rw [Bd.returns] at h; cases h) (by decide) (by decide) ?_ (fun fs hr => retN X1 hx (t := .boolean) Bd.returns (by simp) (hb hby at_94) hr)
        show Q_law Z v0 v1 h0 n0 _ T1.heap _
        rw [e1]
        exact ⟨congrArg (fun z => some (Value.int z)) (by rw [f_law]; rw [if_pos hc5_1, if_pos hc52_2, if_neg hc86_3]), N1⟩
    · refine G_ifNo X0 hx (pc' := 55) rfl (hb hby at_52) ((if0 _ _).trans (flt hc52_2).1) ?_
      refine G_iloadN X0 hx (pc' := 56) rfl (hb hby at_55) rfl ?_
      refine G_bipush X0 hx (pc' := 58) rfl (hb hby at_56) (z := (32 : Int32)) rfl ?_
      by_cases hc58_4 : (32 : Int32) < v0
      · refine G_icmpYes X0 hx (pc' := 77) (hb hby at_58) (tlt hc58_4).2.2.1 (by decide) (by decide) ?_
        refine G_iconst X0 hx (pc' := 78) rfl (hb hby at_77) (z := (0 : Int32)) rfl ?_
        refine G_istore X0 hx (pc' := 80) rfl (hb hby at_78) (L' := #[.val (.int v0), .val (.int v1), .val (.int (v1 &&& (3 : Int32))), .val (.int v0), .val (.int (0 : Int32))]) rfl ?_
        refine G_iloadN X0 hx (pc' := 81) rfl (hb hby at_80) rfl ?_
        obtain ⟨_, _, ⟨T2, L2, k2, n2⟩, -, X2, ⟨Lc2, hQ2, l2, y2, z2⟩, st2⟩ := Jvm.LawKit.callS X0 hx (y := (⟨"com/example/bound_prefix/boundprefix/XmlCharacters", "isWhiteSpace", "(I)Z"⟩ : MethodName)) hown (mvT hZ (hw _ (List.mem_of_getElem? (i := 2) rfl))) (mvT hZ (hw _ (List.mem_of_getElem? (i := 3) rfl))) (mvT hZ (hw _ (List.mem_of_getElem? (i := 4) rfl))) (mvT hZ (hw _ (List.mem_of_getElem? (i := 5) rfl))) (by decide) (backOf (W := 0) (rm_isWs l Z a0 hw [] v0 h0 n0 Z0 ) hZ (hw _ (List.mem_of_getElem? (i := 5) rfl)) (hw _ (List.mem_of_getElem? (i := 4) rfl)) (by decide) (by decide)) (g := (mkF m 81 #[.val (.int v0), .val (.int v1), .val (.int (v1 &&& (3 : Int32))), .val (.int v0), .val (.int (0 : Int32))] [(.int v0)])) rfl (by rw [hml]; rfl) (argsL := [(.int v0)]) (rest := []) (lenOf pd_0 rfl) rfl (by show 2 * 0 + _ ≤ _; exact Nat.le_of_eq rfl) (hb hby at_81) (fun _ _ => ⟨rfl, e0, (by decide : 0 + 0 ≤ _), (by decide : 0 + 0 ≤ _)⟩)
        dsimp only [Pt.U, Pt.locs, Pt.cells, Pt.slots] at X2 l2 y2 z2 st2 hQ2
        subst l2 y2 z2
        obtain ⟨rfl, N2q, e2⟩ := hQ2
        have N2 := Fr.app N0 N2q
        refine Go.st st2 ?_
        show Go p e below s _ _ _ T2 (mkF m 84 #[.val (.int v0), .val (.int v1), .val (.int (v1 &&& (3 : Int32))), .val (.int v0), .val (.int (0 : Int32))] [(.int (f_isWs v0))])
        refine G_iload X2 hx (pc' := 86) rfl (hb hby at_84) rfl ?_
        by_cases hc86_5 : (f_isWs v0) = (0 : Int32)
        · refine G_icmpNo X2 hx (pc' := 89) rfl (hb hby at_86) (teq hc86_5).2 ?_
          refine G_iconst X2 hx (pc' := 90) rfl (hb hby at_89) (z := (1 : Int32)) rfl ?_
          refine G_goto X2 hx (pc' := 94) (hb hby at_90)  (by decide) (by decide) ?_
          refine Go.fin X2 hlk (v := some (.int (1 : Int32))) (fun h => by rw [Bd.returns] at h; cases h) (by decide) (by decide) ?_ (fun fs hr => retN X2 hx (t := .boolean) Bd.returns (by simp) (hb hby at_94) hr)
          show Q_law Z v0 v1 h0 n0 _ T2.heap _
          rw [e2]
          exact ⟨congrArg (fun z => some (Value.int z)) (by rw [f_law]; rw [if_pos hc5_1, if_neg hc52_2, if_pos hc58_4, if_pos hc86_5]), N2⟩
        · refine G_icmpYes X2 hx (pc' := 93) (hb hby at_86) (feq hc86_5).2 (by decide) (by decide) ?_
          refine G_iconst X2 hx (pc' := 94) rfl (hb hby at_93) (z := (0 : Int32)) rfl ?_
          refine Go.fin X2 hlk (v := some (.int (0 : Int32))) (fun h => by rw [Bd.returns] at h; cases h) (by decide) (by decide) ?_ (fun fs hr => retN X2 hx (t := .boolean) Bd.returns (by simp) (hb hby at_94) hr)
          show Q_law Z v0 v1 h0 n0 _ T2.heap _
          rw [e2]
          exact ⟨congrArg (fun z => some (Value.int z)) (by rw [f_law]; rw [if_pos hc5_1, if_neg hc52_2, if_pos hc58_4, if_neg hc86_5]), N2⟩
      · refine G_icmpNo X0 hx (pc' := 61) rfl (hb hby at_58) (flt hc58_4).2.2.1 ?_
        refine G_ldc2 X0 hx (pc' := 64) rfl hown (mvT hZ (hw _ (List.mem_of_getElem? (i := 1) rfl))) (hb hby at_61) ?_
        refine G_iloadN X0 hx (pc' := 65) rfl (hb hby at_64) rfl ?_
        refine G_lushr X0 hx (pc' := 66) rfl (hb hby at_65)  ?_
        refine G_lconst X0 hx (pc' := 67) rfl (hb hby at_66) (z := (1 : Int64)) rfl ?_
        refine G_land X0 hx (pc' := 68) rfl (hb hby at_67)  ?_
        refine G_lconst X0 hx (pc' := 69) rfl (hb hby at_68) (z := (0 : Int64)) rfl ?_
        refine G_lcmp X0 hx (pc' := 70) rfl (hb hby at_69)  ?_
        by_cases hc70_6 : ((((4294977024 : Int64).toUInt64 >>> (v0 &&& 0x3f).toInt64.toUInt64).toInt64) &&& (1 : Int64)) = (0 : Int64)
        · refine G_ifYes X0 hx (pc' := 77) (hb hby at_70) ((if0 _ _).trans (teq ((lw_eq _ _).2 hc70_6)).1) (by decide) (by decide) ?_
          refine G_iconst X0 hx (pc' := 78) rfl (hb hby at_77) (z := (0 : Int32)) rfl ?_
          refine G_istore X0 hx (pc' := 80) rfl (hb hby at_78) (L' := #[.val (.int v0), .val (.int v1), .val (.int (v1 &&& (3 : Int32))), .val (.int v0), .val (.int (0 : Int32))]) rfl ?_
          refine G_iloadN X0 hx (pc' := 81) rfl (hb hby at_80) rfl ?_
          obtain ⟨_, _, ⟨T3, L3, k3, n3⟩, -, X3, ⟨Lc3, hQ3, l3, y3, z3⟩, st3⟩ := Jvm.LawKit.callS X0 hx (y := (⟨"com/example/bound_prefix/boundprefix/XmlCharacters", "isWhiteSpace", "(I)Z"⟩ : MethodName)) hown (mvT hZ (hw _ (List.mem_of_getElem? (i := 2) rfl))) (mvT hZ (hw _ (List.mem_of_getElem? (i := 3) rfl))) (mvT hZ (hw _ (List.mem_of_getElem? (i := 4) rfl))) (mvT hZ (hw _ (List.mem_of_getElem? (i := 5) rfl))) (by decide) (backOf (W := 0) (rm_isWs l Z a0 hw [] v0 h0 n0 Z0 ) hZ (hw _ (List.mem_of_getElem? (i := 5) rfl)) (hw _ (List.mem_of_getElem? (i := 4) rfl)) (by decide) (by decide)) (g := (mkF m 81 #[.val (.int v0), .val (.int v1), .val (.int (v1 &&& (3 : Int32))), .val (.int v0), .val (.int (0 : Int32))] [(.int v0)])) rfl (by rw [hml]; rfl) (argsL := [(.int v0)]) (rest := []) (lenOf pd_0 rfl) rfl (by show 2 * 0 + _ ≤ _; exact Nat.le_of_eq rfl) (hb hby at_81) (fun _ _ => ⟨rfl, e0, (by decide : 0 + 0 ≤ _), (by decide : 0 + 0 ≤ _)⟩)
          dsimp only [Pt.U, Pt.locs, Pt.cells, Pt.slots] at X3 l3 y3 z3 st3 hQ3
          subst l3 y3 z3
          obtain ⟨rfl, N3q, e3⟩ := hQ3
          have N3 := Fr.app N0 N3q
          refine Go.st st3 ?_
          show Go p e below s _ _ _ T3 (mkF m 84 #[.val (.int v0), .val (.int v1), .val (.int (v1 &&& (3 : Int32))), .val (.int v0), .val (.int (0 : Int32))] [(.int (f_isWs v0))])
          refine G_iload X3 hx (pc' := 86) rfl (hb hby at_84) rfl ?_
          by_cases hc86_7 : (f_isWs v0) = (0 : Int32)
          · refine G_icmpNo X3 hx (pc' := 89) rfl (hb hby at_86) (teq hc86_7).2 ?_
            refine G_iconst X3 hx (pc' := 90) rfl (hb hby at_89) (z := (1 : Int32)) rfl ?_
            refine G_goto X3 hx (pc' := 94) (hb hby at_90)  (by decide) (by decide) ?_
            refine Go.fin X3 hlk (v := some (.int (1 : Int32))) (fun h => by rw [Bd.returns] at h; cases h) (by decide) (by decide) ?_ (fun fs hr => retN X3 hx (t := .boolean) Bd.returns (by simp) (hb hby at_94) hr)
            show Q_law Z v0 v1 h0 n0 _ T3.heap _
            rw [e3]
            exact ⟨congrArg (fun z => some (Value.int z)) (by rw [f_law]; rw [if_pos hc5_1, if_neg hc52_2, if_neg hc58_4, if_pos hc70_6, if_pos hc86_7]), N3⟩
          · refine G_icmpYes X3 hx (pc' := 93) (hb hby at_86) (feq hc86_7).2 (by decide) (by decide) ?_
            refine G_iconst X3 hx (pc' := 94) rfl (hb hby at_93) (z := (0 : Int32)) rfl ?_
            refine Go.fin X3 hlk (v := some (.int (0 : Int32))) (fun h => by rw [Bd.returns] at h; cases h) (by decide) (by decide) ?_ (fun fs hr => retN X3 hx (t := .boolean) Bd.returns (by simp) (hb hby at_94) hr)
            show Q_law Z v0 v1 h0 n0 _ T3.heap _
            rw [e3]
            exact ⟨congrArg (fun z => some (Value.int z)) (by rw [f_law]; rw [if_pos hc5_1, if_neg hc52_2, if_neg hc58_4, if_pos hc70_6, if_neg hc86_7]), N3⟩
        · refine G_ifNo X0 hx (pc' := 73) rfl (hb hby at_70) ((if0 _ _).trans (feq (fun q => hc70_6 ((lw_eq _ _).1 q))).1) ?_
          refine G_iconst X0 hx (pc' := 74) rfl (hb hby at_73) (z := (1 : Int32)) rfl ?_
          refine G_goto X0 hx (pc' := 78) (hb hby at_74)  (by decide) (by decide) ?_
          refine G_istore X0 hx (pc' := 80) rfl (hb hby at_78) (L' := #[.val (.int v0), .val (.int v1), .val (.int (v1 &&& (3 : Int32))), .val (.int v0), .val (.int (1 : Int32))]) rfl ?_
          refine G_iloadN X0 hx (pc' := 81) rfl (hb hby at_80) rfl ?_
          obtain ⟨_, _, ⟨T4, L4, k4, n4⟩, -, X4, ⟨Lc4, hQ4, l4, y4, z4⟩, st4⟩ := Jvm.LawKit.callS X0 hx (y := (⟨"com/example/bound_prefix/boundprefix/XmlCharacters", "isWhiteSpace", "(I)Z"⟩ : MethodName)) hown (mvT hZ (hw _ (List.mem_of_getElem? (i := 2) rfl))) (mvT hZ (hw _ (List.mem_of_getElem? (i := 3) rfl))) (mvT hZ (hw _ (List.mem_of_getElem? (i := 4) rfl))) (mvT hZ (hw _ (List.mem_of_getElem? (i := 5) rfl))) (by decide) (backOf (W := 0) (rm_isWs l Z a0 hw [] v0 h0 n0 Z0 ) hZ (hw _ (List.mem_of_getElem? (i := 5) rfl)) (hw _ (List.mem_of_getElem? (i := 4) rfl)) (by decide) (by decide)) (g := (mkF m 81 #[.val (.int v0), .val (.int v1), .val (.int (v1 &&& (3 : Int32))), .val (.int v0), .val (.int (1 : Int32))] [(.int v0)])) rfl (by rw [hml]; rfl) (argsL := [(.int v0)]) (rest := []) (lenOf pd_0 rfl) rfl (by show 2 * 0 + _ ≤ _; exact Nat.le_of_eq rfl) (hb hby at_81) (fun _ _ => ⟨rfl, e0, (by decide : 0 + 0 ≤ _), (by decide : 0 + 0 ≤ _)⟩)
          dsimp only [Pt.U, Pt.locs, Pt.cells, Pt.slots] at X4 l4 y4 z4 st4 hQ4
          subst l4 y4 z4
          obtain ⟨rfl, N4q, e4⟩ := hQ4
          have N4 := Fr.app N0 N4q
          refine Go.st st4 ?_
          show Go p e below s _ _ _ T4 (mkF m 84 #[.val (.int v0), .val (.int v1), .val (.int (v1 &&& (3 : Int32))), .val (.int v0), .val (.int (1 : Int32))] [(.int (f_isWs v0))])
          refine G_iload X4 hx (pc' := 86) rfl (hb hby at_84) rfl ?_
          by_cases hc86_8 : (f_isWs v0) = (1 : Int32)
          · refine G_icmpNo X4 hx (pc' := 89) rfl (hb hby at_86) (teq hc86_8).2 ?_
            refine G_iconst X4 hx (pc' := 90) rfl (hb hby at_89) (z := (1 : Int32)) rfl ?_
            refine G_goto X4 hx (pc' := 94) (hb hby at_90)  (by decide) (by decide) ?_
            refine Go.fin X4 hlk (v := some (.int (1 : Int32))) (fun h => by rw [Bd.returns] at h; cases h) (by decide) (by decide) ?_ (fun fs hr => retN X4 hx (t := .boolean) Bd.returns (by simp) (hb hby at_94) hr)
            show Q_law Z v0 v1 h0 n0 _ T4.heap _
            rw [e4]
            exact ⟨congrArg (fun z => some (Value.int z)) (by rw [f_law]; rw [if_pos hc5_1, if_neg hc52_2, if_neg hc58_4, if_neg hc70_6, if_pos hc86_8]), N4⟩
          · refine G_icmpYes X4 hx (pc' := 93) (hb hby at_86) (feq hc86_8).2 (by decide) (by decide) ?_
            refine G_iconst X4 hx (pc' := 94) rfl (hb hby at_93) (z := (0 : Int32)) rfl ?_
            refine Go.fin X4 hlk (v := some (.int (0 : Int32))) (fun h => by rw [Bd.returns] at h; cases h) (by decide) (by decide) ?_ (fun fs hr => retN X4 hx (t := .boolean) Bd.returns (by simp) (hb hby at_94) hr)
            show Q_law Z v0 v1 h0 n0 _ T4.heap _
            rw [e4]
            exact ⟨congrArg (fun z => some (Value.int z)) (by rw [f_law]; rw [if_pos hc5_1, if_neg hc52_2, if_neg hc58_4, if_neg hc70_6, if_neg hc86_8]), N4⟩
  · refine G_ifYes X0 hx (pc' := 13) (hb hby at_5) ((if0 _ _).trans (feq hc5_1).2) (by decide) (by decide) ?_
    refine G_iloadN X0 hx (pc' := 14) rfl (hb hby at_13) rfl ?_
    refine G_iconst X0 hx (pc' := 15) rfl (hb hby at_14) (z := (1 : Int32)) rfl ?_
    by_cases hc15_9 : (v1 &&& (3 : Int32)) = (1 : Int32)
    · refine G_icmpNo X0 hx (pc' := 18) rfl (hb hby at_15) (teq hc15_9).2 ?_
      refine G_iloadN X0 hx (pc' := 19) rfl (hb hby at_18) rfl ?_
      refine G_bipush X0 hx (pc' := 21) rfl (hb hby at_19) (z := (63 : Int32)) rfl ?_
      refine G_iand X0 hx (pc' := 22) rfl (hb hby at_21)  ?_
      refine G_istoreN X0 hx (pc' := 23) rfl (hb hby at_22) (L' := #[.val (.int v0), .val (.int v1), .val (.int (v1 &&& (3 : Int32))), .val (.int (v0 &&& (63 : Int32))), .unset]) rfl ?_
      refine G_goto X0 hx (pc' := 51) (hb hby at_23)  (by decide) (by decide) ?_
      refine G_iloadN X0 hx (pc' := 52) rfl (hb hby at_51) rfl ?_
      by_cases hc52_10 : (v0 &&& (63 : Int32)) < (0 : Int32)
      · refine G_ifYes X0 hx (pc' := 77) (hb hby at_52) ((if0 _ _).trans (tlt hc52_10).1) (by decide) (by decide) ?_
        refine G_iconst X0 hx (pc' := 78) rfl (hb hby at_77) (z := (0 : Int32)) rfl ?_
        refine G_istore X0 hx (pc' := 80) rfl (hb hby at_78) (L' := #[.val (.int v0), .val (.int v1), .val (.int (v1 &&& (3 : Int32))), .val (.int (v0 &&& (63 : Int32))), .val (.int (0 : Int32))]) rfl ?_
        refine G_iloadN X0 hx (pc' := 81) rfl (hb hby at_80) rfl ?_
        obtain ⟨_, _, ⟨T5, L5, k5, n5⟩, -, X5, ⟨Lc5, hQ5, l5, y5, z5⟩, st5⟩ := Jvm.LawKit.callS X0 hx (y := (⟨"com/example/bound_prefix/boundprefix/XmlCharacters", "isWhiteSpace", "(I)Z"⟩ : MethodName)) hown (mvT hZ (hw _ (List.mem_of_getElem? (i := 2) rfl))) (mvT hZ (hw _ (List.mem_of_getElem? (i := 3) rfl))) (mvT hZ (hw _ (List.mem_of_getElem? (i := 4) rfl))) (mvT hZ (hw _ (List.mem_of_getElem? (i := 5) rfl))) (by decide) (backOf (W := 0) (rm_isWs l Z a0 hw [] (v0 &&& (63 : Int32)) h0 n0 Z0 ) hZ (hw _ (List.mem_of_getElem? (i := 5) rfl)) (hw _ (List.mem_of_getElem? (i := 4) rfl)) (by decide) (by decide)) (g := (mkF m 81 #[.val (.int v0), .val (.int v1), .val (.int (v1 &&& (3 : Int32))), .val (.int (v0 &&& (63 : Int32))), .val (.int (0 : Int32))] [(.int (v0 &&& (63 : Int32)))])) rfl (by rw [hml]; rfl) (argsL := [(.int (v0 &&& (63 : Int32)))]) (rest := []) (lenOf pd_0 rfl) rfl (by show 2 * 0 + _ ≤ _; exact Nat.le_of_eq rfl) (hb hby at_81) (fun _ _ => ⟨rfl, e0, (by decide : 0 + 0 ≤ _), (by decide : 0 + 0 ≤ _)⟩)
        dsimp only [Pt.U, Pt.locs, Pt.cells, Pt.slots] at X5 l5 y5 z5 st5 hQ5
        subst l5 y5 z5
        obtain ⟨rfl, N5q, e5⟩ := hQ5
        have N5 := Fr.app N0 N5q
        refine Go.st st5 ?_
        show Go p e below s _ _ _ T5 (mkF m 84 #[.val (.int v0), .val (.int v1), .val (.int (v1 &&& (3 : Int32))), .val (.int (v0 &&& (63 : Int32))), .val (.int (0 : Int32))] [(.int (f_isWs (v0 &&& (63 : Int32))))])
        refine G_iload X5 hx (pc' := 86) rfl (hb hby at_84) rfl ?_
        by_cases hc86_11 : (f_isWs (v0 &&& (63 : Int32))) = (0 : Int32)
        · refine G_icmpNo X5 hx (pc' := 89) rfl (hb hby at_86) (teq hc86_11).2 ?_
          refine G_iconst X5 hx (pc' := 90) rfl (hb hby at_89) (z := (1 : Int32)) rfl ?_
          refine G_goto X5 hx (pc' := 94) (hb hby at_90)  (by decide) (by decide) ?_
          refine Go.fin X5 hlk (v := some (.int (1 : Int32))) (fun h => by rw [Bd.returns] at h; cases h) (by decide) (by decide) ?_ (fun fs hr => retN X5 hx (t := .boolean) Bd.returns (by simp) (hb hby at_94) hr)
          show Q_law Z v0 v1 h0 n0 _ T5.heap _
          rw [e5]
          exact ⟨congrArg (fun z => some (Value.int z)) (by rw [f_law]; rw [if_neg hc5_1, if_pos hc15_9, if_pos hc52_10, if_pos hc86_11]), N5⟩
        · refine G_icmpYes X5 hx (pc' := 93) (hb hby at_86) (feq hc86_11).2 (by decide) (by decide) ?_
          refine G_iconst X5 hx (pc' := 94) rfl (hb hby at_93) (z := (0 : Int32)) rfl ?_
          refine Go.fin X5 hlk (v := some (.int (0 : Int32))) (fun h => by rw [Bd.returns] at h; cases h) (by decide) (by decide) ?_ (fun fs hr => retN X5 hx (t := .boolean) Bd.returns (by simp) (hb hby at_94) hr)
          show Q_law Z v0 v1 h0 n0 _ T5.heap _
          rw [e5]
          exact ⟨congrArg (fun z => some (Value.int z)) (by rw [f_law]; rw [if_neg hc5_1, if_pos hc15_9, if_pos hc52_10, if_neg hc86_11]), N5⟩
      · refine G_ifNo X0 hx (pc' := 55) rfl (hb hby at_52) ((if0 _ _).trans (flt hc52_10).1) ?_
        refine G_iloadN X0 hx (pc' := 56) rfl (hb hby at_55) rfl ?_
        refine G_bipush X0 hx (pc' := 58) rfl (hb hby at_56) (z := (32 : Int32)) rfl ?_
        by_cases hc58_12 : (32 : Int32) < (v0 &&& (63 : Int32))
        · refine G_icmpYes X0 hx (pc' := 77) (hb hby at_58) (tlt hc58_12).2.2.1 (by decide) (by decide) ?_
          refine G_iconst X0 hx (pc' := 78) rfl (hb hby at_77) (z := (0 : Int32)) rfl ?_
          refine G_istore X0 hx (pc' := 80) rfl (hb hby at_78) (L' := #[.val (.int v0), .val (.int v1), .val (.int (v1 &&& (3 : Int32))), .val (.int (v0 &&& (63 : Int32))), .val (.int (0 : Int32))]) rfl ?_
          refine G_iloadN X0 hx (pc' := 81) rfl (hb hby at_80) rfl ?_
          obtain ⟨_, _, ⟨T6, L6, k6, n6⟩, -, X6, ⟨Lc6, hQ6, l6, y6, z6⟩, st6⟩ := Jvm.LawKit.callS X0 hx (y := (⟨"com/example/bound_prefix/boundprefix/XmlCharacters", "isWhiteSpace", "(I)Z"⟩ : MethodName)) hown (mvT hZ (hw _ (List.mem_of_getElem? (i := 2) rfl))) (mvT hZ (hw _ (List.mem_of_getElem? (i := 3) rfl))) (mvT hZ (hw _ (List.mem_of_getElem? (i := 4) rfl))) (mvT hZ (hw _ (List.mem_of_getElem? (i := 5) rfl))) (by decide) (backOf (W := 0) (rm_isWs l Z a0 hw [] (v0 &&& (63 : Int32)) h0 n0 Z0 ) hZ (hw _ (List.mem_of_getElem? (i := 5) rfl)) (hw _ (List.mem_of_getElem? (i := 4) rfl)) (by decide) (by decide)) (g := (mkF m 81 #[.val (.int v0), .val (.int v1), .val (.int (v1 &&& (3 : Int32))), .val (.int (v0 &&& (63 : Int32))), .val (.int (0 : Int32))] [(.int (v0 &&& (63 : Int32)))])) rfl (by rw [hml]; rfl) (argsL := [(.int (v0 &&& (63 : Int32)))]) (rest := []) (lenOf pd_0 rfl) rfl (by show 2 * 0 + _ ≤ _; exact Nat.le_of_eq rfl) (hb hby at_81) (fun _ _ => ⟨rfl, e0, (by decide : 0 + 0 ≤ _), (by decide : 0 + 0 ≤ _)⟩)
          dsimp only [Pt.U, Pt.locs, Pt.cells, Pt.slots] at X6 l6 y6 z6 st6 hQ6
          subst l6 y6 z6
          obtain ⟨rfl, N6q, e6⟩ := hQ6
          have N6 := Fr.app N0 N6q
          refine Go.st st6 ?_
          show Go p e below s _ _ _ T6 (mkF m 84 #[.val (.int v0), .val (.int v1), .val (.int (v1 &&& (3 : Int32))), .val (.int (v0 &&& (63 : Int32))), .val (.int (0 : Int32))] [(.int (f_isWs (v0 &&& (63 : Int32))))])
          refine G_iload X6 hx (pc' := 86) rfl (hb hby at_84) rfl ?_
          by_cases hc86_13 : (f_isWs (v0 &&& (63 : Int32))) = (0 : Int32)
          · refine G_icmpNo X6 hx (pc' := 89) rfl (hb hby at_86) (teq hc86_13).2 ?_
            refine G_iconst X6 hx (pc' := 90) rfl (hb hby at_89) (z := (1 : Int32)) rfl ?_
            refine G_goto X6 hx (pc' := 94) (hb hby at_90)  (by decide) (by decide) ?_
            refine Go.fin X6 hlk (v := some (.int (1 : Int32))) (fun h => by rw [Bd.returns] at h; cases h) (by decide) (by decide) ?_ (fun fs hr => retN X6 hx (t := .boolean) Bd.returns (by simp) (hb hby at_94) hr)
            show Q_law Z v0 v1 h0 n0 _ T6.heap _
            rw [e6]
            exact ⟨congrArg (fun z => some (Value.int z)) (by rw [f_law]; rw [if_neg hc5_1, if_pos hc15_9, if_neg hc52_10, if_pos hc58_12, if_pos hc86_13]), N6⟩
          · refine G_icmpYes X6 hx (pc' := 93) (hb hby at_86) (feq hc86_13).2 (by decide) (by decide) ?_
            refine G_iconst X6 hx (pc' := 94) rfl (hb hby at_93) (z := (0 : Int32)) rfl ?_
            refine Go.fin X6 hlk (v := some (.int (0 : Int32))) (fun h => by rw [Bd.returns] at h; cases h) (by decide) (by decide) ?_ (fun fs hr => retN X6 hx (t := .boolean) Bd.returns (by simp) (hb hby at_94) hr)
            show Q_law Z v0 v1 h0 n0 _ T6.heap _
            rw [e6]
            exact ⟨congrArg (fun z => some (Value.int z)) (by rw [f_law]; rw [if_neg hc5_1, if_pos hc15_9, if_neg hc52_10, if_pos hc58_12, if_neg hc86_13]), N6⟩
        · refine G_icmpNo X0 hx (pc' := 61) rfl (hb hby at_58) (flt hc58_12).2.2.1 ?_
          refine G_ldc2 X0 hx (pc' := 64) rfl hown (mvT hZ (hw _ (List.mem_of_getElem? (i := 1) rfl))) (hb hby at_61) ?_
          refine G_iloadN X0 hx (pc' := 65) rfl (hb hby at_64) rfl ?_
          refine G_lushr X0 hx (pc' := 66) rfl (hb hby at_65)  ?_
          refine G_lconst X0 hx (pc' := 67) rfl (hb hby at_66) (z := (1 : Int64)) rfl ?_
          refine G_land X0 hx (pc' := 68) rfl (hb hby at_67)  ?_
          refine G_lconst X0 hx (pc' := 69) rfl (hb hby at_68) (z := (0 : Int64)) rfl ?_
          refine G_lcmp X0 hx (pc' := 70) rfl (hb hby at_69)  ?_
          by_cases hc70_14 : ((((4294977024 : Int64).toUInt64 >>> ((v0 &&& (63 : Int32)) &&& 0x3f).toInt64.toUInt64).toInt64) &&& (1 : Int64)) = (0 : Int64)
          · refine G_ifYes X0 hx (pc' := 77) (hb hby at_70) ((if0 _ _).trans (teq ((lw_eq _ _).2 hc70_14)).1) (by decide) (by decide) ?_
            refine G_iconst X0 hx (pc' := 78) rfl (hb hby at_77) (z := (0 : Int32)) rfl ?_
            refine G_istore X0 hx (pc' := 80) rfl (hb hby at_78) (L' := #[.val (.int v0), .val (.int v1), .val (.int (v1 &&& (3 : Int32))), .val (.int (v0 &&& (63 : Int32))), .val (.int (0 : Int32))]) rfl ?_
            refine G_iloadN X0 hx (pc' := 81) rfl (hb hby at_80) rfl ?_
            obtain ⟨_, _, ⟨T7, L7, k7, n7⟩, -, X7, ⟨Lc7, hQ7, l7, y7, z7⟩, st7⟩ := Jvm.LawKit.callS X0 hx (y := (⟨"com/example/bound_prefix/boundprefix/XmlCharacters", "isWhiteSpace", "(I)Z"⟩ : MethodName)) hown (mvT hZ (hw _ (List.mem_of_getElem? (i := 2) rfl))) (mvT hZ (hw _ (List.mem_of_getElem? (i := 3) rfl))) (mvT hZ (hw _ (List.mem_of_getElem? (i := 4) rfl))) (mvT hZ (hw _ (List.mem_of_getElem? (i := 5) rfl))) (by decide) (backOf (W := 0) (rm_isWs l Z a0 hw [] (v0 &&& (63 : Int32)) h0 n0 Z0 ) hZ (hw _ (List.mem_of_getElem? (i := 5) rfl)) (hw _ (List.mem_of_getElem? (i := 4) rfl)) (by decide) (by decide)) (g := (mkF m 81 #[.val (.int v0), .val (.int v1), .val (.int (v1 &&& (3 : Int32))), .val (.int (v0 &&& (63 : Int32))), .val (.int (0 : Int32))] [(.int (v0 &&& (63 : Int32)))])) rfl (by rw [hml]; rfl) (argsL := [(.int (v0 &&& (63 : Int32)))]) (rest := []) (lenOf pd_0 rfl) rfl (by show 2 * 0 + _ ≤ _; exact Nat.le_of_eq rfl) (hb hby at_81) (fun _ _ => ⟨rfl, e0, (by decide : 0 + 0 ≤ _), (by decide : 0 + 0 ≤ _)⟩)
            dsimp only [Pt.U, Pt.locs, Pt.cells, Pt.slots] at X7 l7 y7 z7 st7 hQ7
            subst l7 y7 z7
            obtain ⟨rfl, N7q, e7⟩ := hQ7
            have N7 := Fr.app N0 N7q
            refine Go.st st7 ?_
            show Go p e below s _ _ _ T7 (mkF m 84 #[.val (.int v0), .val (.int v1), .val (.int (v1 &&& (3 : Int32))), .val (.int (v0 &&& (63 : Int32))), .val (.int (0 : Int32))] [(.int (f_isWs (v0 &&& (63 : Int32))))])
            refine G_iload X7 hx (pc' := 86) rfl (hb hby at_84) rfl ?_
            by_cases hc86_15 : (f_isWs (v0 &&& (63 : Int32))) = (0 : Int32)
            · refine G_icmpNo X7 hx (pc' := 89) rfl (hb hby at_86) (teq hc86_15).2 ?_
              refine G_iconst X7 hx (pc' := 90) rfl (hb hby at_89) (z := (1 : Int32)) rfl ?_
              refine G_goto X7 hx (pc' := 94) (hb hby at_90)  (by decide) (by decide) ?_
              refine Go.fin X7 hlk (v := some (.int (1 : Int32))) (fun h => by rw [Bd.returns] at h; cases h) (by decide) (by decide) ?_ (fun fs hr => retN X7 hx (t := .boolean) Bd.returns (by simp) (hb hby at_94) hr)
              show Q_law Z v0 v1 h0 n0 _ T7.heap _
              rw [e7]
              exact ⟨congrArg (fun z => some (Value.int z)) (by rw [f_law]; rw [if_neg hc5_1, if_pos hc15_9, if_neg hc52_10, if_neg hc58_12, if_pos hc70_14, if_pos hc86_15]), N7⟩
            · refine G_icmpYes X7 hx (pc' := 93) (hb hby at_86) (feq hc86_15).2 (by decide) (by decide) ?_
              refine G_iconst X7 hx (pc' := 94) rfl (hb hby at_93) (z := (0 : Int32)) rfl ?_
              refine Go.fin X7 hlk (v := some (.int (0 : Int32))) (fun h => by rw [Bd.returns] at h; cases h) (by decide) (by decide) ?_ (fun fs hr => retN X7 hx (t := .boolean) Bd.returns (by simp) (hb hby at_94) hr)
              show Q_law Z v0 v1 h0 n0 _ T7.heap _
              rw [e7]
              exact ⟨congrArg (fun z => some (Value.int z)) (by rw [f_law]; rw [if_neg hc5_1, if_pos hc15_9, if_neg hc52_10, if_neg hc58_12, if_pos hc70_14, if_neg hc86_15]), N7⟩
          · refine G_ifNo X0 hx (pc' := 73) rfl (hb hby at_70) ((if0 _ _).trans (feq (fun q => hc70_14 ((lw_eq _ _).1 q))).1) ?_
            refine G_iconst X0 hx (pc' := 74) rfl (hb hby at_73) (z := (1 : Int32)) rfl ?_
            refine G_goto X0 hx (pc' := 78) (hb hby at_74)  (by decide) (by decide) ?_
            refine G_istore X0 hx (pc' := 80) rfl (hb hby at_78) (L' := #[.val (.int v0), .val (.int v1), .val (.int (v1 &&& (3 : Int32))), .val (.int (v0 &&& (63 : Int32))), .val (.int (1 : Int32))]) rfl ?_
            refine G_iloadN X0 hx (pc' := 81) rfl (hb hby at_80) rfl ?_
            obtain ⟨_, _, ⟨T8, L8, k8, n8⟩, -, X8, ⟨Lc8, hQ8, l8, y8, z8⟩, st8⟩ := Jvm.LawKit.callS X0 hx (y := (⟨"com/example/bound_prefix/boundprefix/XmlCharacters", "isWhiteSpace", "(I)Z"⟩ : MethodName)) hown (mvT hZ (hw _ (List.mem_of_getElem? (i := 2) rfl))) (mvT hZ (hw _ (List.mem_of_getElem? (i := 3) rfl))) (mvT hZ (hw _ (List.mem_of_getElem? (i := 4) rfl))) (mvT hZ (hw _ (List.mem_of_getElem? (i := 5) rfl))) (by decide) (backOf (W := 0) (rm_isWs l Z a0 hw [] (v0 &&& (63 : Int32)) h0 n0 Z0 ) hZ (hw _ (List.mem_of_getElem? (i := 5) rfl)) (hw _ (List.mem_of_getElem? (i := 4) rfl)) (by decide) (by decide)) (g := (mkF m 81 #[.val (.int v0), .val (.int v1), .val (.int (v1 &&& (3 : Int32))), .val (.int (v0 &&& (63 : Int32))), .val (.int (1 : Int32))] [(.int (v0 &&& (63 : Int32)))])) rfl (by rw [hml]; rfl) (argsL := [(.int (v0 &&& (63 : Int32)))]) (rest := []) (lenOf pd_0 rfl) rfl (by show 2 * 0 + _ ≤ _; exact Nat.le_of_eq rfl) (hb hby at_81) (fun _ _ => ⟨rfl, e0, (by decide : 0 + 0 ≤ _), (by decide : 0 + 0 ≤ _)⟩)
            dsimp only [Pt.U, Pt.locs, Pt.cells, Pt.slots] at X8 l8 y8 z8 st8 hQ8
            subst l8 y8 z8
            obtain ⟨rfl, N8q, e8⟩ := hQ8
            have N8 := Fr.app N0 N8q
            refine Go.st st8 ?_
            show Go p e below s _ _ _ T8 (mkF m 84 #[.val (.int v0), .val (.int v1), .val (.int (v1 &&& (3 : Int32))), .val (.int (v0 &&& (63 : Int32))), .val (.int (1 : Int32))] [(.int (f_isWs (v0 &&& (63 : Int32))))])
            refine G_iload X8 hx (pc' := 86) rfl (hb hby at_84) rfl ?_
            by_cases hc86_16 : (f_isWs (v0 &&& (63 : Int32))) = (1 : Int32)
            · refine G_icmpNo X8 hx (pc' := 89) rfl (hb hby at_86) (teq hc86_16).2 ?_
              refine G_iconst X8 hx (pc' := 90) rfl (hb hby at_89) (z := (1 : Int32)) rfl ?_
              refine G_goto X8 hx (pc' := 94) (hb hby at_90)  (by decide) (by decide) ?_
              refine Go.fin X8 hlk (v := some (.int (1 : Int32))) (fun h => by rw [Bd.returns] at h; cases h) (by decide) (by decide) ?_ (fun fs hr => retN X8 hx (t := .boolean) Bd.returns (by simp) (hb hby at_94) hr)
              show Q_law Z v0 v1 h0 n0 _ T8.heap _
              rw [e8]
              exact ⟨congrArg (fun z => some (Value.int z)) (by rw [f_law]; rw [if_neg hc5_1, if_pos hc15_9, if_neg hc52_10, if_neg hc58_12, if_neg hc70_14, if_pos hc86_16]), N8⟩
            · refine G_icmpYes X8 hx (pc' := 93) (hb hby at_86) (feq hc86_16).2 (by decide) (by decide) ?_
              refine G_iconst X8 hx (pc' := 94) rfl (hb hby at_93) (z := (0 : Int32)) rfl ?_
              refine Go.fin X8 hlk (v := some (.int (0 : Int32))) (fun h => by rw [Bd.returns] at h; cases h) (by decide) (by decide) ?_ (fun fs hr => retN X8 hx (t := .boolean) Bd.returns (by simp) (hb hby at_94) hr)
              show Q_law Z v0 v1 h0 n0 _ T8.heap _
              rw [e8]
              exact ⟨congrArg (fun z => some (Value.int z)) (by rw [f_law]; rw [if_neg hc5_1, if_pos hc15_9, if_neg hc52_10, if_neg hc58_12, if_neg hc70_14, if_neg hc86_16]), N8⟩
    · refine G_icmpYes X0 hx (pc' := 26) (hb hby at_15) (feq hc15_9).2 (by decide) (by decide) ?_
      refine G_iloadN X0 hx (pc' := 27) rfl (hb hby at_26) rfl ?_
      refine G_iconst X0 hx (pc' := 28) rfl (hb hby at_27) (z := (2 : Int32)) rfl ?_
      by_cases hc28_17 : (v1 &&& (3 : Int32)) = (2 : Int32)
      · refine G_icmpNo X0 hx (pc' := 31) rfl (hb hby at_28) (teq hc28_17).2 ?_
        refine G_iloadN X0 hx (pc' := 32) rfl (hb hby at_31) rfl ?_
        refine G_ldc X0 hx (pc' := 34) rfl hown (mvT hZ (hw _ (List.mem_of_getElem? (i := 6) rfl))) (hb hby at_32) ?_
        refine G_iand X0 hx (pc' := 35) rfl (hb hby at_34)  ?_
        refine G_istoreN X0 hx (pc' := 36) rfl (hb hby at_35) (L' := #[.val (.int v0), .val (.int v1), .val (.int (v1 &&& (3 : Int32))), .val (.int (v0 &&& (65535 : Int32))), .unset]) rfl ?_
        refine G_goto X0 hx (pc' := 51) (hb hby at_36)  (by decide) (by decide) ?_
        refine G_iloadN X0 hx (pc' := 52) rfl (hb hby at_51) rfl ?_
        by_cases hc52_18 : (v0 &&& (65535 : Int32)) < (0 : Int32)
        · refine G_ifYes X0 hx (pc' := 77) (hb hby at_52) ((if0 _ _).trans (tlt hc52_18).1) (by decide) (by decide) ?_
          refine G_iconst X0 hx (pc' := 78) rfl (hb hby at_77) (z := (0 : Int32)) rfl ?_
          refine G_istore X0 hx (pc' := 80) rfl (hb hby at_78) (L' := #[.val (.int v0), .val (.int v1), .val (.int (v1 &&& (3 : Int32))), .val (.int (v0 &&& (65535 : Int32))), .val (.int (0 : Int32))]) rfl ?_
          refine G_iloadN X0 hx (pc' := 81) rfl (hb hby at_80) rfl ?_
          obtain ⟨_, _, ⟨T9, L9, k9, n9⟩, -, X9, ⟨Lc9, hQ9, l9, y9, z9⟩, st9⟩ := Jvm.LawKit.callS X0 hx (y := (⟨"com/example/bound_prefix/boundprefix/XmlCharacters", "isWhiteSpace", "(I)Z"⟩ : MethodName)) hown (mvT hZ (hw _ (List.mem_of_getElem? (i := 2) rfl))) (mvT hZ (hw _ (List.mem_of_getElem? (i := 3) rfl))) (mvT hZ (hw _ (List.mem_of_getElem? (i := 4) rfl))) (mvT hZ (hw _ (List.mem_of_getElem? (i := 5) rfl))) (by decide) (backOf (W := 0) (rm_isWs l Z a0 hw [] (v0 &&& (65535 : Int32)) h0 n0 Z0 ) hZ (hw _ (List.mem_of_getElem? (i := 5) rfl)) (hw _ (List.mem_of_getElem? (i := 4) rfl)) (by decide) (by decide)) (g := (mkF m 81 #[.val (.int v0), .val (.int v1), .val (.int (v1 &&& (3 : Int32))), .val (.int (v0 &&& (65535 : Int32))), .val (.int (0 : Int32))] [(.int (v0 &&& (65535 : Int32)))])) rfl (by rw [hml]; rfl) (argsL := [(.int (v0 &&& (65535 : Int32)))]) (rest := []) (lenOf pd_0 rfl) rfl (by show 2 * 0 + _ ≤ _; exact Nat.le_of_eq rfl) (hb hby at_81) (fun _ _ => ⟨rfl, e0, (by decide : 0 + 0 ≤ _), (by decide : 0 + 0 ≤ _)⟩)
          dsimp only [Pt.U, Pt.locs, Pt.cells, Pt.slots] at X9 l9 y9 z9 st9 hQ9
          subst l9 y9 z9
          obtain ⟨rfl, N9q, e9⟩ := hQ9
          have N9 := Fr.app N0 N9q
          refine Go.st st9 ?_
          show Go p e below s _ _ _ T9 (mkF m 84 #[.val (.int v0), .val (.int v1), .val (.int (v1 &&& (3 : Int32))), .val (.int (v0 &&& (65535 : Int32))), .val (.int (0 : Int32))] [(.int (f_isWs (v0 &&& (65535 : Int32))))])
          refine G_iload X9 hx (pc' := 86) rfl (hb hby at_84) rfl ?_
          by_cases hc86_19 : (f_isWs (v0 &&& (65535 : Int32))) = (0 : Int32)
          · refine G_icmpNo X9 hx (pc' := 89) rfl (hb hby at_86) (teq hc86_19).2 ?_
            refine G_iconst X9 hx (pc' := 90) rfl (hb hby at_89) (z := (1 : Int32)) rfl ?_
            refine G_goto X9 hx (pc' := 94) (hb hby at_90)  (by decide) (by decide) ?_
            refine Go.fin X9 hlk (v := some (.int (1 : Int32))) (fun h => by rw [Bd.returns] at h; cases h) (by decide) (by decide) ?_ (fun fs hr => retN X9 hx (t := .boolean) Bd.returns (by simp) (hb hby at_94) hr)
            show Q_law Z v0 v1 h0 n0 _ T9.heap _
            rw [e9]
            exact ⟨congrArg (fun z => some (Value.int z)) (by rw [f_law]; rw [if_neg hc5_1, if_neg hc15_9, if_pos hc28_17, if_pos hc52_18, if_pos hc86_19]), N9⟩
          · refine G_icmpYes X9 hx (pc' := 93) (hb hby at_86) (feq hc86_19).2 (by decide) (by decide) ?_
            refine G_iconst X9 hx (pc' := 94) rfl (hb hby at_93) (z := (0 : Int32)) rfl ?_
            refine Go.fin X9 hlk (v := some (.int (0 : Int32))) (fun h => by rw [Bd.returns] at h; cases h) (by decide) (by decide) ?_ (fun fs hr => retN X9 hx (t := .boolean) Bd.returns (by simp) (hb hby at_94) hr)
            show Q_law Z v0 v1 h0 n0 _ T9.heap _
            rw [e9]
            exact ⟨congrArg (fun z => some (Value.int z)) (by rw [f_law]; rw [if_neg hc5_1, if_neg hc15_9, if_pos hc28_17, if_pos hc52_18, if_neg hc86_19]), N9⟩
        · refine G_ifNo X0 hx (pc' := 55) rfl (hb hby at_52) ((if0 _ _).trans (flt hc52_18).1) ?_
          refine G_iloadN X0 hx (pc' := 56) rfl (hb hby at_55) rfl ?_
          refine G_bipush X0 hx (pc' := 58) rfl (hb hby at_56) (z := (32 : Int32)) rfl ?_
          by_cases hc58_20 : (32 : Int32) < (v0 &&& (65535 : Int32))
          · refine G_icmpYes X0 hx (pc' := 77) (hb hby at_58) (tlt hc58_20).2.2.1 (by decide) (by decide) ?_
            refine G_iconst X0 hx (pc' := 78) rfl (hb hby at_77) (z := (0 : Int32)) rfl ?_
            refine G_istore X0 hx (pc' := 80) rfl (hb hby at_78) (L' := #[.val (.int v0), .val (.int v1), .val (.int (v1 &&& (3 : Int32))), .val (.int (v0 &&& (65535 : Int32))), .val (.int (0 : Int32))]) rfl ?_
            refine G_iloadN X0 hx (pc' := 81) rfl (hb hby at_80) rfl ?_
            obtain ⟨_, _, ⟨T10, L10, k10, n10⟩, -, X10, ⟨Lc10, hQ10, l10, y10, z10⟩, st10⟩ := Jvm.LawKit.callS X0 hx (y := (⟨"com/example/bound_prefix/boundprefix/XmlCharacters", "isWhiteSpace", "(I)Z"⟩ : MethodName)) hown (mvT hZ (hw _ (List.mem_of_getElem? (i := 2) rfl))) (mvT hZ (hw _ (List.mem_of_getElem? (i := 3) rfl))) (mvT hZ (hw _ (List.mem_of_getElem? (i := 4) rfl))) (mvT hZ (hw _ (List.mem_of_getElem? (i := 5) rfl))) (by decide) (backOf (W := 0) (rm_isWs l Z a0 hw [] (v0 &&& (65535 : Int32)) h0 n0 Z0 ) hZ (hw _ (List.mem_of_getElem? (i := 5) rfl)) (hw _ (List.mem_of_getElem? (i := 4) rfl)) (by decide) (by decide)) (g := (mkF m 81 #[.val (.int v0), .val (.int v1), .val (.int (v1 &&& (3 : Int32))), .val (.int (v0 &&& (65535 : Int32))), .val (.int (0 : Int32))] [(.int (v0 &&& (65535 : Int32)))])) rfl (by rw [hml]; rfl) (argsL := [(.int (v0 &&& (65535 : Int32)))]) (rest := []) (lenOf pd_0 rfl) rfl (by show 2 * 0 + _ ≤ _; exact Nat.le_of_eq rfl) (hb hby at_81) (fun _ _ => ⟨rfl, e0, (by decide : 0 + 0 ≤ _), (by decide : 0 + 0 ≤ _)⟩)
            dsimp only [Pt.U, Pt.locs, Pt.cells, Pt.slots] at X10 l10 y10 z10 st10 hQ10
            subst l10 y10 z10
            obtain ⟨rfl, N10q, e10⟩ := hQ10
            have N10 := Fr.app N0 N10q
            refine Go.st st10 ?_
            show Go p e below s _ _ _ T10 (mkF m 84 #[.val (.int v0), .val (.int v1), .val (.int (v1 &&& (3 : Int32))), .val (.int (v0 &&& (65535 : Int32))), .val (.int (0 : Int32))] [(.int (f_isWs (v0 &&& (65535 : Int32))))])
            refine G_iload X10 hx (pc' := 86) rfl (hb hby at_84) rfl ?_
            by_cases hc86_21 : (f_isWs (v0 &&& (65535 : Int32))) = (0 : Int32)
            · refine G_icmpNo X10 hx (pc' := 89) rfl (hb hby at_86) (teq hc86_21).2 ?_
              refine G_iconst X10 hx (pc' := 90) rfl (hb hby at_89) (z := (1 : Int32)) rfl ?_
              refine G_goto X10 hx (pc' := 94) (hb hby at_90)  (by decide) (by decide) ?_
              refine Go.fin X10 hlk (v := some (.int (1 : Int32))) (fun h => by rw [Bd.returns] at h; cases h) (by decide) (by decide) ?_ (fun fs hr => retN X10 hx (t := .boolean) Bd.returns (by simp) (hb hby at_94) hr)
              show Q_law Z v0 v1 h0 n0 _ T10.heap _
              rw [e10]
              exact ⟨congrArg (fun z => some (Value.int z)) (by rw [f_law]; rw [if_neg hc5_1, if_neg hc15_9, if_pos hc28_17, if_neg hc52_18, if_pos hc58_20, if_pos hc86_21]), N10⟩
            · refine G_icmpYes X10 hx (pc' := 93) (hb hby at_86) (feq hc86_21).2 (by decide) (by decide) ?_
              refine G_iconst X10 hx (pc' := 94) rfl (hb hby at_93) (z := (0 : Int32)) rfl ?_
              refine Go.fin X10 hlk (v := some (.int (0 : Int32))) (fun h => by rw [Bd.returns] at h; cases h) (by decide) (by decide) ?_ (fun fs hr => retN X10 hx (t := .boolean) Bd.returns (by simp) (hb hby at_94) hr)
              show Q_law Z v0 v1 h0 n0 _ T10.heap _
              rw [e10]
              exact ⟨congrArg (fun z => some (Value.int z)) (by rw [f_law]; rw [if_neg hc5_1, if_neg hc15_9, if_pos hc28_17, if_neg hc52_18, if_pos hc58_20, if_neg hc86_21]), N10⟩
          · refine G_icmpNo X0 hx (pc' := 61) rfl (hb hby at_58) (flt hc58_20).2.2.1 ?_
            refine G_ldc2 X0 hx (pc' := 64) rfl hown (mvT hZ (hw _ (List.mem_of_getElem? (i := 1) rfl))) (hb hby at_61) ?_
            refine G_iloadN X0 hx (pc' := 65) rfl (hb hby at_64) rfl ?_
            refine G_lushr X0 hx (pc' := 66) rfl (hb hby at_65)  ?_
            refine G_lconst X0 hx (pc' := 67) rfl (hb hby at_66) (z := (1 : Int64)) rfl ?_
            refine G_land X0 hx (pc' := 68) rfl (hb hby at_67)  ?_
            refine G_lconst X0 hx (pc' := 69) rfl (hb hby at_68) (z := (0 : Int64)) rfl ?_
            refine G_lcmp X0 hx (pc' := 70) rfl (hb hby at_69)  ?_
            by_cases hc70_22 : ((((4294977024 : Int64).toUInt64 >>> ((v0 &&& (65535 : Int32)) &&& 0x3f).toInt64.toUInt64).toInt64) &&& (1 : Int64)) = (0 : Int64)
            · refine G_ifYes X0 hx (pc' := 77) (hb hby at_70) ((if0 _ _).trans (teq ((lw_eq _ _).2 hc70_22)).1) (by decide) (by decide) ?_
              refine G_iconst X0 hx (pc' := 78) rfl (hb hby at_77) (z := (0 : Int32)) rfl ?_
              refine G_istore X0 hx (pc' := 80) rfl (hb hby at_78) (L' := #[.val (.int v0), .val (.int v1), .val (.int (v1 &&& (3 : Int32))), .val (.int (v0 &&& (65535 : Int32))), .val (.int (0 : Int32))]) rfl ?_
              refine G_iloadN X0 hx (pc' := 81) rfl (hb hby at_80) rfl ?_
              obtain ⟨_, _, ⟨T11, L11, k11, n11⟩, -, X11, ⟨Lc11, hQ11, l11, y11, z11⟩, st11⟩ := Jvm.LawKit.callS X0 hx (y := (⟨"com/example/bound_prefix/boundprefix/XmlCharacters", "isWhiteSpace", "(I)Z"⟩ : MethodName)) hown (mvT hZ (hw _ (List.mem_of_getElem? (i := 2) rfl))) (mvT hZ (hw _ (List.mem_of_getElem? (i := 3) rfl))) (mvT hZ (hw _ (List.mem_of_getElem? (i := 4) rfl))) (mvT hZ (hw _ (List.mem_of_getElem? (i := 5) rfl))) (by decide) (backOf (W := 0) (rm_isWs l Z a0 hw [] (v0 &&& (65535 : Int32)) h0 n0 Z0 ) hZ (hw _ (List.mem_of_getElem? (i := 5) rfl)) (hw _ (List.mem_of_getElem? (i := 4) rfl)) (by decide) (by decide)) (g := (mkF m 81 #[.val (.int v0), .val (.int v1), .val (.int (v1 &&& (3 : Int32))), .val (.int (v0 &&& (65535 : Int32))), .val (.int (0 : Int32))] [(.int (v0 &&& (65535 : Int32)))])) rfl (by rw [hml]; rfl) (argsL := [(.int (v0 &&& (65535 : Int32)))]) (rest := []) (lenOf pd_0 rfl) rfl (by show 2 * 0 + _ ≤ _; exact Nat.le_of_eq rfl) (hb hby at_81) (fun _ _ => ⟨rfl, e0, (by decide : 0 + 0 ≤ _), (by decide : 0 + 0 ≤ _)⟩)
              dsimp only [Pt.U, Pt.locs, Pt.cells, Pt.slots] at X11 l11 y11 z11 st11 hQ11
              subst l11 y11 z11
              obtain ⟨rfl, N11q, e11⟩ := hQ11
              have N11 := Fr.app N0 N11q
              refine Go.st st11 ?_
              show Go p e below s _ _ _ T11 (mkF m 84 #[.val (.int v0), .val (.int v1), .val (.int (v1 &&& (3 : Int32))), .val (.int (v0 &&& (65535 : Int32))), .val (.int (0 : Int32))] [(.int (f_isWs (v0 &&& (65535 : Int32))))])
              refine G_iload X11 hx (pc' := 86) rfl (hb hby at_84) rfl ?_
              by_cases hc86_23 : (f_isWs (v0 &&& (65535 : Int32))) = (0 : Int32)
              · refine G_icmpNo X11 hx (pc' := 89) rfl (hb hby at_86) (teq hc86_23).2 ?_
                refine G_iconst X11 hx (pc' := 90) rfl (hb hby at_89) (z := (1 : Int32)) rfl ?_
                refine G_goto X11 hx (pc' := 94) (hb hby at_90)  (by decide) (by decide) ?_
                refine Go.fin X11 hlk (v := some (.int (1 : Int32))) (fun h => by rw [Bd.returns] at h; cases h) (by decide) (by decide) ?_ (fun fs hr => retN X11 hx (t := .boolean) Bd.returns (by simp) (hb hby at_94) hr)
                show Q_law Z v0 v1 h0 n0 _ T11.heap _
                rw [e11]
                exact ⟨congrArg (fun z => some (Value.int z)) (by rw [f_law]; rw [if_neg hc5_1, if_neg hc15_9, if_pos hc28_17, if_neg hc52_18, if_neg hc58_20, if_pos hc70_22, if_pos hc86_23]), N11⟩
              · refine G_icmpYes X11 hx (pc' := 93) (hb hby at_86) (feq hc86_23).2 (by decide) (by decide) ?_
                refine G_iconst X11 hx (pc' := 94) rfl (hb hby at_93) (z := (0 : Int32)) rfl ?_
                refine Go.fin X11 hlk (v := some (.int (0 : Int32))) (fun h => by rw [Bd.returns] at h; cases h) (by decide) (by decide) ?_ (fun fs hr => retN X11 hx (t := .boolean) Bd.returns (by simp) (hb hby at_94) hr)
                show Q_law Z v0 v1 h0 n0 _ T11.heap _
                rw [e11]
                exact ⟨congrArg (fun z => some (Value.int z)) (by rw [f_law]; rw [if_neg hc5_1, if_neg hc15_9, if_pos hc28_17, if_neg hc52_18, if_neg hc58_20, if_pos hc70_22, if_neg hc86_23]), N11⟩
            · refine G_ifNo X0 hx (pc' := 73) rfl (hb hby at_70) ((if0 _ _).trans (feq (fun q => hc70_22 ((lw_eq _ _).1 q))).1) ?_
              refine G_iconst X0 hx (pc' := 74) rfl (hb hby at_73) (z := (1 : Int32)) rfl ?_
              refine G_goto X0 hx (pc' := 78) (hb hby at_74)  (by decide) (by decide) ?_
              refine G_istore X0 hx (pc' := 80) rfl (hb hby at_78) (L' := #[.val (.int v0), .val (.int v1), .val (.int (v1 &&& (3 : Int32))), .val (.int (v0 &&& (65535 : Int32))), .val (.int (1 : Int32))]) rfl ?_
              refine G_iloadN X0 hx (pc' := 81) rfl (hb hby at_80) rfl ?_
              obtain ⟨_, _, ⟨T12, L12, k12, n12⟩, -, X12, ⟨Lc12, hQ12, l12, y12, z12⟩, st12⟩ := Jvm.LawKit.callS X0 hx (y := (⟨"com/example/bound_prefix/boundprefix/XmlCharacters", "isWhiteSpace", "(I)Z"⟩ : MethodName)) hown (mvT hZ (hw _ (List.mem_of_getElem? (i := 2) rfl))) (mvT hZ (hw _ (List.mem_of_getElem? (i := 3) rfl))) (mvT hZ (hw _ (List.mem_of_getElem? (i := 4) rfl))) (mvT hZ (hw _ (List.mem_of_getElem? (i := 5) rfl))) (by decide) (backOf (W := 0) (rm_isWs l Z a0 hw [] (v0 &&& (65535 : Int32)) h0 n0 Z0 ) hZ (hw _ (List.mem_of_getElem? (i := 5) rfl)) (hw _ (List.mem_of_getElem? (i := 4) rfl)) (by decide) (by decide)) (g := (mkF m 81 #[.val (.int v0), .val (.int v1), .val (.int (v1 &&& (3 : Int32))), .val (.int (v0 &&& (65535 : Int32))), .val (.int (1 : Int32))] [(.int (v0 &&& (65535 : Int32)))])) rfl (by rw [hml]; rfl) (argsL := [(.int (v0 &&& (65535 : Int32)))]) (rest := []) (lenOf pd_0 rfl) rfl (by show 2 * 0 + _ ≤ _; exact Nat.le_of_eq rfl) (hb hby at_81) (fun _ _ => ⟨rfl, e0, (by decide : 0 + 0 ≤ _), (by decide : 0 + 0 ≤ _)⟩)
              dsimp only [Pt.U, Pt.locs, Pt.cells, Pt.slots] at X12 l12 y12 z12 st12 hQ12
              subst l12 y12 z12
              obtain ⟨rfl, N12q, e12⟩ := hQ12
              have N12 := Fr.app N0 N12q
              refine Go.st st12 ?_
              show Go p e below s _ _ _ T12 (mkF m 84 #[.val (.int v0), .val (.int v1), .val (.int (v1 &&& (3 : Int32))), .val (.int (v0 &&& (65535 : Int32))), .val (.int (1 : Int32))] [(.int (f_isWs (v0 &&& (65535 : Int32))))])
              refine G_iload X12 hx (pc' := 86) rfl (hb hby at_84) rfl ?_
              by_cases hc86_24 : (f_isWs (v0 &&& (65535 : Int32))) = (1 : Int32)
              · refine G_icmpNo X12 hx (pc' := 89) rfl (hb hby at_86) (teq hc86_24).2 ?_
                refine G_iconst X12 hx (pc' := 90) rfl (hb hby at_89) (z := (1 : Int32)) rfl ?_
                refine G_goto X12 hx (pc' := 94) (hb hby at_90)  (by decide) (by decide) ?_
                refine Go.fin X12 hlk (v := some (.int (1 : Int32))) (fun h => by rw [Bd.returns] at h; cases h) (by decide) (by decide) ?_ (fun fs hr => retN X12 hx (t := .boolean) Bd.returns (by simp) (hb hby at_94) hr)
                show Q_law Z v0 v1 h0 n0 _ T12.heap _
                rw [e12]
                exact ⟨congrArg (fun z => some (Value.int z)) (by rw [f_law]; rw [if_neg hc5_1, if_neg hc15_9, if_pos hc28_17, if_neg hc52_18, if_neg hc58_20, if_neg hc70_22, if_pos hc86_24]), N12⟩
              · refine G_icmpYes X12 hx (pc' := 93) (hb hby at_86) (feq hc86_24).2 (by decide) (by decide) ?_
                refine G_iconst X12 hx (pc' := 94) rfl (hb hby at_93) (z := (0 : Int32)) rfl ?_
                refine Go.fin X12 hlk (v := some (.int (0 : Int32))) (fun h => by rw [Bd.returns] at h; cases h) (by decide) (by decide) ?_ (fun fs hr => retN X12 hx (t := .boolean) Bd.returns (by simp) (hb hby at_94) hr)
                show Q_law Z v0 v1 h0 n0 _ T12.heap _
                rw [e12]
                exact ⟨congrArg (fun z => some (Value.int z)) (by rw [f_law]; rw [if_neg hc5_1, if_neg hc15_9, if_pos hc28_17, if_neg hc52_18, if_neg hc58_20, if_neg hc70_22, if_neg hc86_24]), N12⟩
      · refine G_icmpYes X0 hx (pc' := 39) (hb hby at_28) (feq hc28_17).2 (by decide) (by decide) ?_
        refine G_iloadN X0 hx (pc' := 40) rfl (hb hby at_39) rfl ?_
        refine G_ldc X0 hx (pc' := 42) rfl hown (mvT hZ (hw _ (List.mem_of_getElem? (i := 0) rfl))) (hb hby at_40) ?_
        refine G_iand X0 hx (pc' := 43) rfl (hb hby at_42)  ?_
        refine G_iloadN X0 hx (pc' := 44) rfl (hb hby at_43) rfl ?_
        refine G_iconst X0 hx (pc' := 45) rfl (hb hby at_44) (z := (2 : Int32)) rfl ?_
        refine G_iushr X0 hx (pc' := 46) rfl (hb hby at_45)  ?_
        refine G_bipush X0 hx (pc' := 48) rfl (hb hby at_46) (z := (63 : Int32)) rfl ?_
        refine G_iand X0 hx (pc' := 49) rfl (hb hby at_48)  ?_
        refine G_ior X0 hx (pc' := 50) rfl (hb hby at_49)  ?_
        refine G_istoreN X0 hx (pc' := 51) rfl (hb hby at_50) (L' := #[.val (.int v0), .val (.int v1), .val (.int (v1 &&& (3 : Int32))), .val (.int ((v0 &&& (-65536 : Int32)) ||| (((v1.toUInt32 >>> ((2 : Int32) &&& 31).toUInt32).toInt32) &&& (63 : Int32)))), .unset]) rfl ?_
        refine G_iloadN X0 hx (pc' := 52) rfl (hb hby at_51) rfl ?_
        by_cases hc52_25 : ((v0 &&& (-65536 : Int32)) ||| (((v1.toUInt32 >>> ((2 : Int32) &&& 31).toUInt32).toInt32) &&& (63 : Int32))) < (0 : Int32)
        · refine G_ifYes X0 hx (pc' := 77) (hb hby at_52) ((if0 _ _).trans (tlt hc52_25).1) (by decide) (by decide) ?_
          refine G_iconst X0 hx (pc' := 78) rfl (hb hby at_77) (z := (0 : Int32)) rfl ?_
          refine G_istore X0 hx (pc' := 80) rfl (hb hby at_78) (L' := #[.val (.int v0), .val (.int v1), .val (.int (v1 &&& (3 : Int32))), .val (.int ((v0 &&& (-65536 : Int32)) ||| (((v1.toUInt32 >>> ((2 : Int32) &&& 31).toUInt32).toInt32) &&& (63 : Int32)))), .val (.int (0 : Int32))]) rfl ?_
          refine G_iloadN X0 hx (pc' := 81) rfl (hb hby at_80) rfl ?_
          obtain ⟨_, _, ⟨T13, L13, k13, n13⟩, -, X13, ⟨Lc13, hQ13, l13, y13, z13⟩, st13⟩ := Jvm.LawKit.callS X0 hx (y := (⟨"com/example/bound_prefix/boundprefix/XmlCharacters", "isWhiteSpace", "(I)Z"⟩ : MethodName)) hown (mvT hZ (hw _ (List.mem_of_getElem? (i := 2) rfl))) (mvT hZ (hw _ (List.mem_of_getElem? (i := 3) rfl))) (mvT hZ (hw _ (List.mem_of_getElem? (i := 4) rfl))) (mvT hZ (hw _ (List.mem_of_getElem? (i := 5) rfl))) (by decide) (backOf (W := 0) (rm_isWs l Z a0 hw [] ((v0 &&& (-65536 : Int32)) ||| (((v1.toUInt32 >>> ((2 : Int32) &&& 31).toUInt32).toInt32) &&& (63 : Int32))) h0 n0 Z0 ) hZ (hw _ (List.mem_of_getElem? (i := 5) rfl)) (hw _ (List.mem_of_getElem? (i := 4) rfl)) (by decide) (by decide)) (g := (mkF m 81 #[.val (.int v0), .val (.int v1), .val (.int (v1 &&& (3 : Int32))), .val (.int ((v0 &&& (-65536 : Int32)) ||| (((v1.toUInt32 >>> ((2 : Int32) &&& 31).toUInt32).toInt32) &&& (63 : Int32)))), .val (.int (0 : Int32))] [(.int ((v0 &&& (-65536 : Int32)) ||| (((v1.toUInt32 >>> ((2 : Int32) &&& 31).toUInt32).toInt32) &&& (63 : Int32))))])) rfl (by rw [hml]; rfl) (argsL := [(.int ((v0 &&& (-65536 : Int32)) ||| (((v1.toUInt32 >>> ((2 : Int32) &&& 31).toUInt32).toInt32) &&& (63 : Int32))))]) (rest := []) (lenOf pd_0 rfl) rfl (by show 2 * 0 + _ ≤ _; exact Nat.le_of_eq rfl) (hb hby at_81) (fun _ _ => ⟨rfl, e0, (by decide : 0 + 0 ≤ _), (by decide : 0 + 0 ≤ _)⟩)
          dsimp only [Pt.U, Pt.locs, Pt.cells, Pt.slots] at X13 l13 y13 z13 st13 hQ13
          subst l13 y13 z13
          obtain ⟨rfl, N13q, e13⟩ := hQ13
          have N13 := Fr.app N0 N13q
          refine Go.st st13 ?_
          show Go p e below s _ _ _ T13 (mkF m 84 #[.val (.int v0), .val (.int v1), .val (.int (v1 &&& (3 : Int32))), .val (.int ((v0 &&& (-65536 : Int32)) ||| (((v1.toUInt32 >>> ((2 : Int32) &&& 31).toUInt32).toInt32) &&& (63 : Int32)))), .val (.int (0 : Int32))] [(.int (f_isWs ((v0 &&& (-65536 : Int32)) ||| (((v1.toUInt32 >>> ((2 : Int32) &&& 31).toUInt32).toInt32) &&& (63 : Int32)))))])
          refine G_iload X13 hx (pc' := 86) rfl (hb hby at_84) rfl ?_
          by_cases hc86_26 : (f_isWs ((v0 &&& (-65536 : Int32)) ||| (((v1.toUInt32 >>> ((2 : Int32) &&& 31).toUInt32).toInt32) &&& (63 : Int32)))) = (0 : Int32)
          · refine G_icmpNo X13 hx (pc' := 89) rfl (hb hby at_86) (teq hc86_26).2 ?_
            refine G_iconst X13 hx (pc' := 90) rfl (hb hby at_89) (z := (1 : Int32)) rfl ?_
            refine G_goto X13 hx (pc' := 94) (hb hby at_90)  (by decide) (by decide) ?_
            refine Go.fin X13 hlk (v := some (.int (1 : Int32))) (fun h => by rw [Bd.returns] at h; cases h) (by decide) (by decide) ?_ (fun fs hr => retN X13 hx (t := .boolean) Bd.returns (by simp) (hb hby at_94) hr)
            show Q_law Z v0 v1 h0 n0 _ T13.heap _
            rw [e13]
            exact ⟨congrArg (fun z => some (Value.int z)) (by rw [f_law]; rw [if_neg hc5_1, if_neg hc15_9, if_neg hc28_17, if_pos hc52_25, if_pos hc86_26]), N13⟩
          · refine G_icmpYes X13 hx (pc' := 93) (hb hby at_86) (feq hc86_26).2 (by decide) (by decide) ?_
            refine G_iconst X13 hx (pc' := 94) rfl (hb hby at_93) (z := (0 : Int32)) rfl ?_
            refine Go.fin X13 hlk (v := some (.int (0 : Int32))) (fun h => by rw [Bd.returns] at h; cases h) (by decide) (by decide) ?_ (fun fs hr => retN X13 hx (t := .boolean) Bd.returns (by simp) (hb hby at_94) hr)
            show Q_law Z v0 v1 h0 n0 _ T13.heap _
            rw [e13]
            exact ⟨congrArg (fun z => some (Value.int z)) (by rw [f_law]; rw [if_neg hc5_1, if_neg hc15_9, if_neg hc28_17, if_pos hc52_25, if_neg hc86_26]), N13⟩
        · refine G_ifNo X0 hx (pc' := 55) rfl (hb hby at_52) ((if0 _ _).trans (flt hc52_25).1) ?_
          refine G_iloadN X0 hx (pc' := 56) rfl (hb hby at_55) rfl ?_
          refine G_bipush X0 hx (pc' := 58) rfl (hb hby at_56) (z := (32 : Int32)) rfl ?_
          by_cases hc58_27 : (32 : Int32) < ((v0 &&& (-65536 : Int32)) ||| (((v1.toUInt32 >>> ((2 : Int32) &&& 31).toUInt32).toInt32) &&& (63 : Int32)))
          · refine G_icmpYes X0 hx (pc' := 77) (hb hby at_58) (tlt hc58_27).2.2.1 (by decide) (by decide) ?_
            refine G_iconst X0 hx (pc' := 78) rfl (hb hby at_77) (z := (0 : Int32)) rfl ?_
            refine G_istore X0 hx (pc' := 80) rfl (hb hby at_78) (L' := #[.val (.int v0), .val (.int v1), .val (.int (v1 &&& (3 : Int32))), .val (.int ((v0 &&& (-65536 : Int32)) ||| (((v1.toUInt32 >>> ((2 : Int32) &&& 31).toUInt32).toInt32) &&& (63 : Int32)))), .val (.int (0 : Int32))]) rfl ?_
            refine G_iloadN X0 hx (pc' := 81) rfl (hb hby at_80) rfl ?_
            obtain ⟨_, _, ⟨T14, L14, k14, n14⟩, -, X14, ⟨Lc14, hQ14, l14, y14, z14⟩, st14⟩ := Jvm.LawKit.callS X0 hx (y := (⟨"com/example/bound_prefix/boundprefix/XmlCharacters", "isWhiteSpace", "(I)Z"⟩ : MethodName)) hown (mvT hZ (hw _ (List.mem_of_getElem? (i := 2) rfl))) (mvT hZ (hw _ (List.mem_of_getElem? (i := 3) rfl))) (mvT hZ (hw _ (List.mem_of_getElem? (i := 4) rfl))) (mvT hZ (hw _ (List.mem_of_getElem? (i := 5) rfl))) (by decide) (backOf (W := 0) (rm_isWs l Z a0 hw [] ((v0 &&& (-65536 : Int32)) ||| (((v1.toUInt32 >>> ((2 : Int32) &&& 31).toUInt32).toInt32) &&& (63 : Int32))) h0 n0 Z0 ) hZ (hw _ (List.mem_of_getElem? (i := 5) rfl)) (hw _ (List.mem_of_getElem? (i := 4) rfl)) (by decide) (by decide)) (g := (mkF m 81 #[.val (.int v0), .val (.int v1), .val (.int (v1 &&& (3 : Int32))), .val (.int ((v0 &&& (-65536 : Int32)) ||| (((v1.toUInt32 >>> ((2 : Int32) &&& 31).toUInt32).toInt32) &&& (63 : Int32)))), .val (.int (0 : Int32))] [(.int ((v0 &&& (-65536 : Int32)) ||| (((v1.toUInt32 >>> ((2 : Int32) &&& 31).toUInt32).toInt32) &&& (63 : Int32))))])) rfl (by rw [hml]; rfl) (argsL := [(.int ((v0 &&& (-65536 : Int32)) ||| (((v1.toUInt32 >>> ((2 : Int32) &&& 31).toUInt32).toInt32) &&& (63 : Int32))))]) (rest := []) (lenOf pd_0 rfl) rfl (by show 2 * 0 + _ ≤ _; exact Nat.le_of_eq rfl) (hb hby at_81) (fun _ _ => ⟨rfl, e0, (by decide : 0 + 0 ≤ _), (by decide : 0 + 0 ≤ _)⟩)
            dsimp only [Pt.U, Pt.locs, Pt.cells, Pt.slots] at X14 l14 y14 z14 st14 hQ14
            subst l14 y14 z14
            obtain ⟨rfl, N14q, e14⟩ := hQ14
            have N14 := Fr.app N0 N14q
            refine Go.st st14 ?_
            show Go p e below s _ _ _ T14 (mkF m 84 #[.val (.int v0), .val (.int v1), .val (.int (v1 &&& (3 : Int32))), .val (.int ((v0 &&& (-65536 : Int32)) ||| (((v1.toUInt32 >>> ((2 : Int32) &&& 31).toUInt32).toInt32) &&& (63 : Int32)))), .val (.int (0 : Int32))] [(.int (f_isWs ((v0 &&& (-65536 : Int32)) ||| (((v1.toUInt32 >>> ((2 : Int32) &&& 31).toUInt32).toInt32) &&& (63 : Int32)))))])
            refine G_iload X14 hx (pc' := 86) rfl (hb hby at_84) rfl ?_
            by_cases hc86_28 : (f_isWs ((v0 &&& (-65536 : Int32)) ||| (((v1.toUInt32 >>> ((2 : Int32) &&& 31).toUInt32).toInt32) &&& (63 : Int32)))) = (0 : Int32)
            · refine G_icmpNo X14 hx (pc' := 89) rfl (hb hby at_86) (teq hc86_28).2 ?_
              refine G_iconst X14 hx (pc' := 90) rfl (hb hby at_89) (z := (1 : Int32)) rfl ?_
              refine G_goto X14 hx (pc' := 94) (hb hby at_90)  (by decide) (by decide) ?_
              refine Go.fin X14 hlk (v := some (.int (1 : Int32))) (fun h => by rw [Bd.returns] at h; cases h) (by decide) (by decide) ?_ (fun fs hr => retN X14 hx (t := .boolean) Bd.returns (by simp) (hb hby at_94) hr)
              show Q_law Z v0 v1 h0 n0 _ T14.heap _
              rw [e14]
              exact ⟨congrArg (fun z => some (Value.int z)) (by rw [f_law]; rw [if_neg hc5_1, if_neg hc15_9, if_neg hc28_17, if_neg hc52_25, if_pos hc58_27, if_pos hc86_28]), N14⟩
            · refine G_icmpYes X14 hx (pc' := 93) (hb hby at_86) (feq hc86_28).2 (by decide) (by decide) ?_
              refine G_iconst X14 hx (pc' := 94) rfl (hb hby at_93) (z := (0 : Int32)) rfl ?_
              refine Go.fin X14 hlk (v := some (.int (0 : Int32))) (fun h => by rw [Bd.returns] at h; cases h) (by decide) (by decide) ?_ (fun fs hr => retN X14 hx (t := .boolean) Bd.returns (by simp) (hb hby at_94) hr)
              show Q_law Z v0 v1 h0 n0 _ T14.heap _
              rw [e14]
              exact ⟨congrArg (fun z => some (Value.int z)) (by rw [f_law]; rw [if_neg hc5_1, if_neg hc15_9, if_neg hc28_17, if_neg hc52_25, if_pos hc58_27, if_neg hc86_28]), N14⟩
          · refine G_icmpNo X0 hx (pc' := 61) rfl (hb hby at_58) (flt hc58_27).2.2.1 ?_
            refine G_ldc2 X0 hx (pc' := 64) rfl hown (mvT hZ (hw _ (List.mem_of_getElem? (i := 1) rfl))) (hb hby at_61) ?_
            refine G_iloadN X0 hx (pc' := 65) rfl (hb hby at_64) rfl ?_
            refine G_lushr X0 hx (pc' := 66) rfl (hb hby at_65)  ?_
            refine G_lconst X0 hx (pc' := 67) rfl (hb hby at_66) (z := (1 : Int64)) rfl ?_
            refine G_land X0 hx (pc' := 68) rfl (hb hby at_67)  ?_
            refine G_lconst X0 hx (pc' := 69) rfl (hb hby at_68) (z := (0 : Int64)) rfl ?_
            refine G_lcmp X0 hx (pc' := 70) rfl (hb hby at_69)  ?_
            by_cases hc70_29 : ((((4294977024 : Int64).toUInt64 >>> (((v0 &&& (-65536 : Int32)) ||| (((v1.toUInt32 >>> ((2 : Int32) &&& 31).toUInt32).toInt32) &&& (63 : Int32))) &&& 0x3f).toInt64.toUInt64).toInt64) &&& (1 : Int64)) = (0 : Int64)
            · refine G_ifYes X0 hx (pc' := 77) (hb hby at_70) ((if0 _ _).trans (teq ((lw_eq _ _).2 hc70_29)).1) (by decide) (by decide) ?_
              refine G_iconst X0 hx (pc' := 78) rfl (hb hby at_77) (z := (0 : Int32)) rfl ?_
              refine G_istore X0 hx (pc' := 80) rfl (hb hby at_78) (L' := #[.val (.int v0), .val (.int v1), .val (.int (v1 &&& (3 : Int32))), .val (.int ((v0 &&& (-65536 : Int32)) ||| (((v1.toUInt32 >>> ((2 : Int32) &&& 31).toUInt32).toInt32) &&& (63 : Int32)))), .val (.int (0 : Int32))]) rfl ?_
              refine G_iloadN X0 hx (pc' := 81) rfl (hb hby at_80) rfl ?_
              obtain ⟨_, _, ⟨T15, L15, k15, n15⟩, -, X15, ⟨Lc15, hQ15, l15, y15, z15⟩, st15⟩ := Jvm.LawKit.callS X0 hx (y := (⟨"com/example/bound_prefix/boundprefix/XmlCharacters", "isWhiteSpace", "(I)Z"⟩ : MethodName)) hown (mvT hZ (hw _ (List.mem_of_getElem? (i := 2) rfl))) (mvT hZ (hw _ (List.mem_of_getElem? (i := 3) rfl))) (mvT hZ (hw _ (List.mem_of_getElem? (i := 4) rfl))) (mvT hZ (hw _ (List.mem_of_getElem? (i := 5) rfl))) (by decide) (backOf (W := 0) (rm_isWs l Z a0 hw [] ((v0 &&& (-65536 : Int32)) ||| (((v1.toUInt32 >>> ((2 : Int32) &&& 31).toUInt32).toInt32) &&& (63 : Int32))) h0 n0 Z0 ) hZ (hw _ (List.mem_of_getElem? (i := 5) rfl)) (hw _ (List.mem_of_getElem? (i := 4) rfl)) (by decide) (by decide)) (g := (mkF m 81 #[.val (.int v0), .val (.int v1), .val (.int (v1 &&& (3 : Int32))), .val (.int ((v0 &&& (-65536 : Int32)) ||| (((v1.toUInt32 >>> ((2 : Int32) &&& 31).toUInt32).toInt32) &&& (63 : Int32)))), .val (.int (0 : Int32))] [(.int ((v0 &&& (-65536 : Int32)) ||| (((v1.toUInt32 >>> ((2 : Int32) &&& 31).toUInt32).toInt32) &&& (63 : Int32))))])) rfl (by rw [hml]; rfl) (argsL := [(.int ((v0 &&& (-65536 : Int32)) ||| (((v1.toUInt32 >>> ((2 : Int32) &&& 31).toUInt32).toInt32) &&& (63 : Int32))))]) (rest := []) (lenOf pd_0 rfl) rfl (by show 2 * 0 + _ ≤ _; exact Nat.le_of_eq rfl) (hb hby at_81) (fun _ _ => ⟨rfl, e0, (by decide : 0 + 0 ≤ _), (by decide : 0 + 0 ≤ _)⟩)
              dsimp only [Pt.U, Pt.locs, Pt.cells, Pt.slots] at X15 l15 y15 z15 st15 hQ15
              subst l15 y15 z15
              obtain ⟨rfl, N15q, e15⟩ := hQ15
              have N15 := Fr.app N0 N15q
              refine Go.st st15 ?_
              show Go p e below s _ _ _ T15 (mkF m 84 #[.val (.int v0), .val (.int v1), .val (.int (v1 &&& (3 : Int32))), .val (.int ((v0 &&& (-65536 : Int32)) ||| (((v1.toUInt32 >>> ((2 : Int32) &&& 31).toUInt32).toInt32) &&& (63 : Int32)))), .val (.int (0 : Int32))] [(.int (f_isWs ((v0 &&& (-65536 : Int32)) ||| (((v1.toUInt32 >>> ((2 : Int32) &&& 31).toUInt32).toInt32) &&& (63 : Int32)))))])
              refine G_iload X15 hx (pc' := 86) rfl (hb hby at_84) rfl ?_
              by_cases hc86_30 : (f_isWs ((v0 &&& (-65536 : Int32)) ||| (((v1.toUInt32 >>> ((2 : Int32) &&& 31).toUInt32).toInt32) &&& (63 : Int32)))) = (0 : Int32)
              · refine G_icmpNo X15 hx (pc' := 89) rfl (hb hby at_86) (teq hc86_30).2 ?_
                refine G_iconst X15 hx (pc' := 90) rfl (hb hby at_89) (z := (1 : Int32)) rfl ?_
                refine G_goto X15 hx (pc' := 94) (hb hby at_90)  (by decide) (by decide) ?_
                refine Go.fin X15 hlk (v := some (.int (1 : Int32))) (fun h => by rw [Bd.returns] at h; cases h) (by decide) (by decide) ?_ (fun fs hr => retN X15 hx (t := .boolean) Bd.returns (by simp) (hb hby at_94) hr)
                show Q_law Z v0 v1 h0 n0 _ T15.heap _
                rw [e15]
                exact ⟨congrArg (fun z => some (Value.int z)) (by rw [f_law]; rw [if_neg hc5_1, if_neg hc15_9, if_neg hc28_17, if_neg hc52_25, if_neg hc58_27, if_pos hc70_29, if_pos hc86_30]), N15⟩
              · refine G_icmpYes X15 hx (pc' := 93) (hb hby at_86) (feq hc86_30).2 (by decide) (by decide) ?_
                refine G_iconst X15 hx (pc' := 94) rfl (hb hby at_93) (z := (0 : Int32)) rfl ?_
                refine Go.fin X15 hlk (v := some (.int (0 : Int32))) (fun h => by rw [Bd.returns] at h; cases h) (by decide) (by decide) ?_ (fun fs hr => retN X15 hx (t := .boolean) Bd.returns (by simp) (hb hby at_94) hr)
                show Q_law Z v0 v1 h0 n0 _ T15.heap _
                rw [e15]
                exact ⟨congrArg (fun z => some (Value.int z)) (by rw [f_law]; rw [if_neg hc5_1, if_neg hc15_9, if_neg hc28_17, if_neg hc52_25, if_neg hc58_27, if_pos hc70_29, if_neg hc86_30]), N15⟩
            · refine G_ifNo X0 hx (pc' := 73) rfl (hb hby at_70) ((if0 _ _).trans (feq (fun q => hc70_29 ((lw_eq _ _).1 q))).1) ?_
              refine G_iconst X0 hx (pc' := 74) rfl (hb hby at_73) (z := (1 : Int32)) rfl ?_
              refine G_goto X0 hx (pc' := 78) (hb hby at_74)  (by decide) (by decide) ?_
              refine G_istore X0 hx (pc' := 80) rfl (hb hby at_78) (L' := #[.val (.int v0), .val (.int v1), .val (.int (v1 &&& (3 : Int32))), .val (.int ((v0 &&& (-65536 : Int32)) ||| (((v1.toUInt32 >>> ((2 : Int32) &&& 31).toUInt32).toInt32) &&& (63 : Int32)))), .val (.int (1 : Int32))]) rfl ?_
              refine G_iloadN X0 hx (pc' := 81) rfl (hb hby at_80) rfl ?_
              obtain ⟨_, _, ⟨T16, L16, k16, n16⟩, -, X16, ⟨Lc16, hQ16, l16, y16, z16⟩, st16⟩ := Jvm.LawKit.callS X0 hx (y := (⟨"com/example/bound_prefix/boundprefix/XmlCharacters", "isWhiteSpace", "(I)Z"⟩ : MethodName)) hown (mvT hZ (hw _ (List.mem_of_getElem? (i := 2) rfl))) (mvT hZ (hw _ (List.mem_of_getElem? (i := 3) rfl))) (mvT hZ (hw _ (List.mem_of_getElem? (i := 4) rfl))) (mvT hZ (hw _ (List.mem_of_getElem? (i := 5) rfl))) (by decide) (backOf (W := 0) (rm_isWs l Z a0 hw [] ((v0 &&& (-65536 : Int32)) ||| (((v1.toUInt32 >>> ((2 : Int32) &&& 31).toUInt32).toInt32) &&& (63 : Int32))) h0 n0 Z0 ) hZ (hw _ (List.mem_of_getElem? (i := 5) rfl)) (hw _ (List.mem_of_getElem? (i := 4) rfl)) (by decide) (by decide)) (g := (mkF m 81 #[.val (.int v0), .val (.int v1), .val (.int (v1 &&& (3 : Int32))), .val (.int ((v0 &&& (-65536 : Int32)) ||| (((v1.toUInt32 >>> ((2 : Int32) &&& 31).toUInt32).toInt32) &&& (63 : Int32)))), .val (.int (1 : Int32))] [(.int ((v0 &&& (-65536 : Int32)) ||| (((v1.toUInt32 >>> ((2 : Int32) &&& 31).toUInt32).toInt32) &&& (63 : Int32))))])) rfl (by rw [hml]; rfl) (argsL := [(.int ((v0 &&& (-65536 : Int32)) ||| (((v1.toUInt32 >>> ((2 : Int32) &&& 31).toUInt32).toInt32) &&& (63 : Int32))))]) (rest := []) (lenOf pd_0 rfl) rfl (by show 2 * 0 + _ ≤ _; exact Nat.le_of_eq rfl) (hb hby at_81) (fun _ _ => ⟨rfl, e0, (by decide : 0 + 0 ≤ _), (by decide : 0 + 0 ≤ _)⟩)
              dsimp only [Pt.U, Pt.locs, Pt.cells, Pt.slots] at X16 l16 y16 z16 st16 hQ16
              subst l16 y16 z16
              obtain ⟨rfl, N16q, e16⟩ := hQ16
              have N16 := Fr.app N0 N16q
              refine Go.st st16 ?_
              show Go p e below s _ _ _ T16 (mkF m 84 #[.val (.int v0), .val (.int v1), .val (.int (v1 &&& (3 : Int32))), .val (.int ((v0 &&& (-65536 : Int32)) ||| (((v1.toUInt32 >>> ((2 : Int32) &&& 31).toUInt32).toInt32) &&& (63 : Int32)))), .val (.int (1 : Int32))] [(.int (f_isWs ((v0 &&& (-65536 : Int32)) ||| (((v1.toUInt32 >>> ((2 : Int32) &&& 31).toUInt32).toInt32) &&& (63 : Int32)))))])
              refine G_iload X16 hx (pc' := 86) rfl (hb hby at_84) rfl ?_
              by_cases hc86_31 : (f_isWs ((v0 &&& (-65536 : Int32)) ||| (((v1.toUInt32 >>> ((2 : Int32) &&& 31).toUInt32).toInt32) &&& (63 : Int32)))) = (1 : Int32)
              · refine G_icmpNo X16 hx (pc' := 89) rfl (hb hby at_86) (teq hc86_31).2 ?_
                refine G_iconst X16 hx (pc' := 90) rfl (hb hby at_89) (z := (1 : Int32)) rfl ?_
                refine G_goto X16 hx (pc' := 94) (hb hby at_90)  (by decide) (by decide) ?_
                refine Go.fin X16 hlk (v := some (.int (1 : Int32))) (fun h => by rw [Bd.returns] at h; cases h) (by decide) (by decide) ?_ (fun fs hr => retN X16 hx (t := .boolean) Bd.returns (by simp) (hb hby at_94) hr)
                show Q_law Z v0 v1 h0 n0 _ T16.heap _
                rw [e16]
                exact ⟨congrArg (fun z => some (Value.int z)) (by rw [f_law]; rw [if_neg hc5_1, if_neg hc15_9, if_neg hc28_17, if_neg hc52_25, if_neg hc58_27, if_neg hc70_29, if_pos hc86_31]), N16⟩
              · refine G_icmpYes X16 hx (pc' := 93) (hb hby at_86) (feq hc86_31).2 (by decide) (by decide) ?_
                refine G_iconst X16 hx (pc' := 94) rfl (hb hby at_93) (z := (0 : Int32)) rfl ?_
                refine Go.fin X16 hlk (v := some (.int (0 : Int32))) (fun h => by rw [Bd.returns] at h; cases h) (by decide) (by decide) ?_ (fun fs hr => retN X16 hx (t := .boolean) Bd.returns (by simp) (hb hby at_94) hr)
                show Q_law Z v0 v1 h0 n0 _ T16.heap _
                rw [e16]
                exact ⟨congrArg (fun z => some (Value.int z)) (by rw [f_law]; rw [if_neg hc5_1, if_neg hc15_9, if_neg hc28_17, if_neg hc52_25, if_neg hc58_27, if_neg hc70_29, if_neg hc86_31]), N16⟩
def own_core (c : Int32) : Int32 := (if c < (0 : Int32) then (if (f_isWs c) = (0 : Int32) then (1 : Int32) else (0 : Int32)) else (if (32 : Int32) < c then (if (f_isWs c) = (0 : Int32) then (1 : Int32) else (0 : Int32)) else (if ((((4294977024 : Int64).toUInt64 >>> (c &&& 0x3f).toInt64.toUInt64).toInt64) &&& (1 : Int64)) = (0 : Int64) then (if (f_isWs c) = (0 : Int32) then (1 : Int32) else (0 : Int32)) else (if (f_isWs c) = (1 : Int32) then (1 : Int32) else (0 : Int32)))))
theorem own_small : ∀ n : Fin 33, own_core (Int32.ofNat n.val) = 1 := by decide +kernel
theorem own_ws {c : Int32} (h : c < 0 ∨ 32 < c) : f_isWs c = 0 := by
  have l0 : (0 : Int32).toInt = 0 := by decide
  have l1 : (32 : Int32).toInt = 32 := by decide
  have l2 : (9 : Int32).toInt = 9 := by decide
  have l3 : (13 : Int32).toInt = 13 := by decide
  have l4 : (10 : Int32).toInt = 10 := by decide
  unfold f_isWs
  simp only [Int32.lt_iff_toInt_lt, l0, l1] at h
  simp only [← Int32.toInt_inj, l1, l2, l3, l4]
  rw [if_neg (by omega), if_neg (by omega), if_neg (by omega), if_neg (by omega)]
theorem own_one (c : Int32) : own_core c = 1 := by
  by_cases h1 : c < 0
  · unfold own_core; rw [if_pos h1, own_ws (Or.inl h1)]; rfl
  · by_cases h2 : 32 < c
    · unfold own_core; rw [if_neg h1, if_pos h2, own_ws (Or.inr h2)]; rfl
    · have l0 : (0 : Int32).toInt = 0 := by decide
      have l1 : (32 : Int32).toInt = 32 := by decide
      rw [Int32.lt_iff_toInt_lt, l0] at h1
      rw [Int32.lt_iff_toInt_lt, l1] at h2
      have e : c = Int32.ofNat c.toInt.toNat := by
        apply Int32.toInt_inj.mp
        rw [Int32.toInt_ofNat_of_lt (by omega)]
        omega
      rw [e]
      exact own_small ⟨c.toInt.toNat, by omega⟩
theorem own_law (a b : Int32) : f_law a b = 1 := by
  unfold f_law
  split
  · exact own_one _
  · split
    · exact own_one _
    · split
      · exact own_one _
      · exact own_one _

set_option maxRecDepth 65536 in
set_option maxHeartbeats 40000000 in
theorem comes_1 {Post : Tables → Env → Array Value → State → Outcome → State → Prop} (hpost : ∀ tb e args s v u, (limb_1_1.after args s (.returned v) u = true ∧ limb_1_2.after args s (.returned v) u = true ∧ True) → FrameEnd s (.returned v) u (Jvm.fieldLocs frame_1_writes args s ++ Jvm.arrayLocs frame_1_arrays args s ++ Jvm.staticLocs frame_1_statics s) 0 0 → Post tb e args s (.returned v) u) :
    ArmFor flags0 classFile x code maxLocals ret World_1 tables_1 room_1 Calls_1 rest_1 Pre_1 Post := by
  intro l hfl _ _ p e ha hc hk s m args below hf hA hF happ hP
  obtain ⟨hcalls, hrest, hpre⟩ := hP
  obtain ⟨-, -, -, hnamed, -, -, -, hat⟩ := (Spec.applies_iff hf).mp happ
  obtain ⟨hg, hn⟩ := and_e (Cond.before_iff.mp (show (Jvm.Cond.and given_1 narrow_1).before args s = true from hpre))
  obtain ⟨hcnt, hg0⟩ := and_e hg
  obtain ⟨ha0, hg1⟩ := and_e hg0
  have ha1 := hg1
  obtain ⟨w0, w1, rfl⟩ : ∃ w0 w1 : Value, args = #[w0, w1] := by
    have hs : args.size = 2 := by simpa [Cond.value, given_1] using hcnt
    obtain ⟨L⟩ := args
    match L, hs with
    | [w0, w1], _ => exact ⟨w0, w1, rfl⟩
  have hw := fun d (hd : d ∈ tables_1) => atoms_spec (ws := Jvm.Cond.code x code maxLocals ret :: tables_1) hat d (List.mem_cons_of_mem _ hd)
  have hfit : Fit s := fun {y c} hc i hi => by
    obtain ⟨ha, rfl⟩ := Array.getElem?_eq_some_iff.mp hc
    have q := List.all_eq_true.mp ((Array.all_eq_true_iff_forall_mem.mp hF) _ (Array.getElem_mem ha)) i (List.mem_range.mpr hi)
    simpa [Array.getElem?_eq_getElem hi] using q
  obtain ⟨i0, ei0⟩ := is_v ha0
  obtain rfl : w0 = (.int i0) := Option.some.inj ei0
  obtain ⟨i1, ei1⟩ := is_v ha1
  obtain rfl : w1 = (.int i1) := Option.some.inj ei1
  obtain ⟨n, o, h1, h2, h3, v, L, rfl, ⟨hv, N⟩, hq⟩ := rm_law l s _ hw tables_1 i0 i1  s.heap s.heap.size (Nat.le_refl _)  p e ha hc hk s m _ below hf ((Spec.applies_iff_loose hf).mp happ).1 ⟨rfl, State.Warmed39.refl s, rfl⟩ trivial
  rw [own_law i0 i1] at hv
  subst hv
  refine ⟨n, _, h1, h2, h3, hpost _ _ _ _ _ _ ⟨Cond.after_iff.mpr rfl, Cond.after_iff.mpr (eq_i res_at (Term.int_eval (1)) rfl), trivial⟩ ⟨hq.1, hq.2.1, (hq.2.2.sift fun y hy => Or.inr (N y hy)).mono (by decide) (by decide)⟩⟩
theorem main_1_1 : Claimed_1_1 := comes_1 fun _ _ _ _ _ _ h hF => ⟨h.1, hF⟩
theorem main_1_2 : Claimed_1_2 := comes_1 fun _ _ _ _ _ _ h hF => ⟨h.2.1, hF⟩
end Jvm.Pilot.@@N@@
namespace Jvm.Pilot.@@N@@
open Jvm Jvm.ClassFile Sem Op Lib Jvm.Free Jvm.Stand Jvm.Pilot.@@N@@.Jvm.D
/-! MADE BY PROGRAM (witnessworld.py) out of the Statement's table words and the real class files: 9 classes; the members and pool entries that the words name. The judged class is class 1, her method 1. -/
namespace start1
open Jvm.ClassFile
def u (s : String) : CpInfo := .utf8 (stringToUtf16 s)
/-- a pool by its gaps: so many unusable entries, then the entry; so many at the end -/
def gap : Nat → List CpInfo → List CpInfo
  | 0, r => r
  | n + 1, r => .unusable :: gap n r
def poolList (es : List (Nat × CpInfo)) (last : Nat) : List CpInfo := es.foldr (fun e r => gap e.1 (e.2 :: r)) (gap last [])
def pool (es : List (Nat × CpInfo)) (last : Nat) : Array CpInfo := ⟨poolList es last⟩
def fileOf (pool : Array CpInfo) (this : Nat) (attrs : Array Attribute := #[]) (ms : Array MethodInfo := #[]) (fl : Nat := 33) (sup : Nat := 0) (ifs : Array Nat := #[]) (fds : Array FieldInfo := #[]) : ClassFile where
  minorVersion := 0
  majorVersion := 65
  constantPool := pool
  accessFlags := fl
  thisClass := this
  superClass := sup
  interfaces := ifs
  fields := fds
  methods := ms
  attributes := attrs
def plain (name : String) (sup : Option ClassId) : Class where
  name := name
  kind := .ordinary
  loader := none
  accessFlags := 33
  super := sup
  interfaces := #[]
  cf := none
  fields := #[]
  methods := #[]
  instanceTypes := #[]
  staticTypes := #[]
  resolved := #[]
  callSites := []
  init := .initialized
  statics := none
  mirror := none

def pool0 : Array CpInfo := pool [(5, u "<init>"), (0, u "()V"), (1, .class_ 10), (1, u "java/lang/Object")] 113

def k0m0 : Method := { name := "<init>", desc := "()V", sig := { parameters := [], returnType := none }, accessFlags := 1, code := none }
/-- java/lang/Object -/
def k0 : Class := { plain "java/lang/Object" none with
  accessFlags := 33
  interfaces := #[]
  cf := some (fileOf pool0 8 #[] #[{ accessFlags := 1, nameIndex := 5, descriptorIndex := 6, attributes := #[] }] 33 0 #[] #[])
  fields := #[]
  methods := #[k0m0]
  instanceTypes := #[]
  staticTypes := #[]
  resolved := Array.replicate 124 none
  statics := none }

def pool1 : Array CpInfo := pool [(2, .class_ 4), (1, u "java/lang/Object"), (0, u "<init>"), (0, u "()V"), (0, .integer 65535), (0, .integer 4294901760), (0, .class_ 10), (0, u "com/example/bound_prefix/boundprefix/XmlCharactersIsWhiteSpacePinLaw"), (0, .long 4294977024), (1, .methodref 14 15), (0, .class_ 16), (0, .nameAndType 17 18), (0, u "com/example/bound_prefix/boundprefix/XmlCharacters"), (0, u "isWhiteSpace"), (0, u "(I)Z"), (0, u "WHITE"), (0, u "J"), (3, u "law"), (0, u "(II)Z")] 3

def k1m0 : Method := { name := "<init>", desc := "()V", sig := { parameters := [], returnType := none }, accessFlags := 2, code := none }
def k1c1 : Code := { maxStack := 4, maxLocals := 5, code := code, exceptionTable := #[], attributes := #[] }
def k1m1 : Method := { name := "law", desc := "(II)Z", sig := { parameters := [.int, .int], returnType := some .boolean }, accessFlags := 9, code := some k1c1 }
/-- com/example/bound_prefix/boundprefix/XmlCharactersIsWhiteSpacePinLaw -/
def k1 : Class := { plain "com/example/bound_prefix/boundprefix/XmlCharactersIsWhiteSpacePinLaw" (some 0) with
  accessFlags := 49
  interfaces := #[]
  cf := some (fileOf pool1 9 #[] #[{ accessFlags := 2, nameIndex := 5, descriptorIndex := 6, attributes := #[] }, { accessFlags := 9, nameIndex := 24, descriptorIndex := 25, attributes := #[] }] 49 2 #[] #[{ accessFlags := 26, nameIndex := 19, descriptorIndex := 20, attributes := #[] }])
  fields := #[{ name := "WHITE", type := .long, accessFlags := 26, slot := 0, constantValue := 0 }]
  methods := #[k1m0, k1m1]
  instanceTypes := #[]
  staticTypes := #[.long]
  resolved := Array.replicate 29 none
  statics := none }

def pool2 : Array CpInfo := pool [(2, .class_ 4), (1, u "java/lang/Object"), (0, u "<init>"), (0, u "()V"), (5, .class_ 14), (1, u "com/example/bound_prefix/boundprefix/XmlCharacters"), (5, u "(I)Z"), (2, u "isWhiteSpace")] 39

def k2m0 : Method := { name := "<init>", desc := "()V", sig := { parameters := [], returnType := none }, accessFlags := 2, code := none }
def k2c1 : Code := { maxStack := 2, maxLocals := 1, code := prog_107_method_4_code, exceptionTable := #[], attributes := #[] }
def k2m1 : Method := { name := "isWhiteSpace", desc := "(I)Z", sig := { parameters := [.int], returnType := some .boolean }, accessFlags := 8, code := some k2c1 }
/-- com/example/bound_prefix/boundprefix/XmlCharacters -/
def k2 : Class := { plain "com/example/bound_prefix/boundprefix/XmlCharacters" (some 0) with
  accessFlags := 48
  interfaces := #[]
  cf := some (fileOf pool2 12 #[] #[{ accessFlags := 2, nameIndex := 5, descriptorIndex := 6, attributes := #[] }, { accessFlags := 8, nameIndex := 23, descriptorIndex := 20, attributes := #[] }] 48 2 #[] #[])
  fields := #[]
  methods := #[k2m0, k2m1]
  instanceTypes := #[]
  staticTypes := #[]
  resolved := Array.replicate 63 none
  statics := none }

def pool3 : Array CpInfo := pool [(1, u "java/lang/Cloneable"), (0, .class_ 1), (0, u "java/lang/Object"), (0, .class_ 3)] 3

/-- java/lang/Cloneable -/
def k3 : Class := { plain "java/lang/Cloneable" (some 0) with
  accessFlags := 1537
  interfaces := #[]
  cf := some (fileOf pool3 2 #[] #[] 1537 4 #[] #[])
  fields := #[]
  methods := #[]
  instanceTypes := #[]
  staticTypes := #[]
  resolved := Array.replicate 8 none
  statics := none }

def pool4 : Array CpInfo := pool [(1, u "java/io/Serializable"), (0, .class_ 1), (0, u "java/lang/Object"), (0, .class_ 3)] 3

/-- java/io/Serializable -/
def k4 : Class := { plain "java/io/Serializable" (some 0) with
  accessFlags := 1537
  interfaces := #[]
  cf := some (fileOf pool4 2 #[] #[] 1537 4 #[] #[])
  fields := #[]
  methods := #[]
  instanceTypes := #[]
  staticTypes := #[]
  resolved := Array.replicate 8 none
  statics := none }

/-- the primitive byte -/
def k5 : Class := { plain "byte" none with kind := .primitive 'B', accessFlags := 0x411 }
/-- [B -/
def k6 : Class := { plain "[B" (some 0) with kind := .array 5 .byte, interfaces := #[3, 4], accessFlags := 1041 }

/-- the primitive int -/
def k7 : Class := { plain "int" none with kind := .primitive 'I', accessFlags := 0x411 }
/-- [I -/
def k8 : Class := { plain "[I" (some 0) with kind := .array 7 .int, interfaces := #[3, 4], accessFlags := 1041 }

def heap : Heap := #[]
def classes : Array Class := #[k0, k1, k2, k3, k4, k5, k6, k7, k8]
def interned : List (Array UInt16 × Addr) := []
def slotsUsed : Nat := 0
def theMethod : MethodId := ⟨1, 1⟩
def args0 : Array Value := #[.int 5, .int 7]
def aboutOver (below : List Frame) : State where
  vm := { classes := classes, interned := interned.toArray }
  heap := heap
  slotsUsed := slotsUsed
  threads := #[{ frames := .invoking theMethod args0 :: below }]
def below0 : List Frame := [.native { method := ⟨0, 0⟩, args := #[] }]
def about1 : State := aboutOver below0
def p0 : Program := .bare "" "" ""
def e0 : Env := launch0.env 0 0 0
theorem w_frames : about1.frames = Frame.invoking theMethod args0 :: below0 := rfl
set_option maxRecDepth 65536 in
theorem w_args : argsFit about1.vm theMethod args0 = true := by decide +kernel
set_option maxRecDepth 65536 in
theorem w_heap : heapFits about1 = true := by decide +kernel
set_option maxRecDepth 65536 in
theorem w_runnable : about1.curStatus? = some .runnable := by decide +kernel
set_option maxRecDepth 65536 in
theorem w_alone : about1.alone = true := by decide +kernel
set_option maxRecDepth 65536 in
theorem w_named : about1.methodNamed? x = some theMethod := by decide +kernel
set_option maxRecDepth 65536 in
theorem w_hears : about1.hears theMethod below0 = true := by decide +kernel
set_option maxRecDepth 65536 in
theorem w_ripe : about1.ripe theMethod args0 below0 = true := by decide +kernel
theorem w_running : about1.status = .running := rfl
set_option maxRecDepth 65536 in
theorem w_room : about1.hasRoom e0.platform room_1 = true :=
  launch0.hasRoom_least _ room_1 (by decide +kernel) (by decide +kernel) (by decide +kernel) (by decide +kernel) (by decide +kernel) (by decide +kernel)
theorem allAtoms_all (ts : List Jvm.Cond) (a : Array Jvm.Value) (st : Jvm.State) : (allAtoms ts).before a st = ts.all (fun c => c.before a st) := by
  induction ts with
  | nil => rfl
  | cons c t ih =>
    show (Jvm.Cond.and c (allAtoms t)).before a st = _
    rw [Jvm.Cond.before_and, ih, List.all_cons]
def words1 : List Jvm.Cond := Jvm.Cond.code x code maxLocals ret :: tables_1
/-- a 'code' word, met by the world's own term for the bytes: nothing is compared byte by byte -/
theorem code_word {y : MethodName} {bytes : ByteArray} {mx : Nat} {rt : Option FieldType} {a : Array Value} {s : State} {m : MethodId} {meth : Method} {c : Code} (h1 : s.methodNamed? y = some m) (h2 : s.vm.method? m = some meth) (h3 : meth.code = some c) (h4 : c.code = bytes)
    (h5 : (c.maxLocals == mx && c.exceptionTable.isEmpty && decide (c.maxStack ≤ mostOperands) && decide (meth.sig.returnType = rt) && !meth.locks && decide (parseMethodDescriptor y.desc = some meth.sig)) = true) : (Jvm.Cond.code y bytes mx rt).before a s = true := by
  simp only [Bool.and_eq_true, beq_iff_eq, Bool.not_eq_true', decide_eq_true_eq] at h5
  obtain ⟨⟨⟨⟨⟨g1, g2⟩, g3⟩, g4⟩, g5⟩, g6⟩ := h5
  simp [Cond.before, Cond.holds, Cond.value, h1, h2, h3, h4, g1, g2, g3, g4, g5, g6]
def isCode : Jvm.Cond → Bool
  | .code _ _ _ _ => true
  | _ => false
theorem all_split {L : List Jvm.Cond} {P : Jvm.Cond → Bool} (h1 : L.all (fun c => isCode c || P c) = true) (h2 : ∀ c ∈ L.filter isCode, P c = true) : L.all P = true := by
  refine List.all_eq_true.mpr fun c hc => ?_
  have h := List.all_eq_true.mp h1 c hc
  rcases Bool.eq_false_or_eq_true (isCode c) with hi | hi
  · exact h2 c (List.mem_filter.mpr ⟨hc, hi⟩)
  · simpa [hi] using h
set_option maxRecDepth 65536 in
theorem w_c0 : (Jvm.Cond.code x code maxLocals ret).before args0 about1 = true := code_word (m := ⟨1, 1⟩) (meth := k1m1) (c := k1c1) (by decide +kernel) rfl rfl rfl (by decide +kernel)
set_option maxRecDepth 65536 in
theorem w_c1 : (Jvm.Cond.code ({ cls := "com/example/bound_prefix/boundprefix/XmlCharacters", name := "isWhiteSpace", desc := "(I)Z" } : Jvm.MethodName) prog_107_method_4_code (1 : Nat) (Option.some Jvm.ClassFile.FieldType.boolean)).before args0 about1 = true := code_word (m := ⟨2, 1⟩) (meth := k2m1) (c := k2c1) (by decide +kernel) rfl rfl rfl (by decide +kernel)
def codes1 : List Jvm.Cond := [Jvm.Cond.code x code maxLocals ret, Jvm.Cond.code ({ cls := "com/example/bound_prefix/boundprefix/XmlCharacters", name := "isWhiteSpace", desc := "(I)Z" } : Jvm.MethodName) prog_107_method_4_code (1 : Nat) (Option.some Jvm.ClassFile.FieldType.boolean)]
set_option maxRecDepth 65536 in
theorem codes_eq : words1.filter isCode = codes1 := rfl
theorem w_codes : ∀ c ∈ words1.filter isCode, c.before args0 about1 = true := by
  rw [codes_eq]
  intro c hc
  simp only [codes1, List.mem_cons, List.not_mem_nil, or_false] at hc
  rcases hc with rfl | rfl
  · exact w_c0
  · exact w_c1
set_option maxRecDepth 65536 in
theorem w_t1 : words1.all (fun c => isCode c || c.before args0 about1) = true := by decide +kernel
theorem w_tables : (allAtoms (Jvm.Cond.code x code maxLocals ret :: tables_1)).before args0 about1 = true := by
  rw [allAtoms_all]
  show words1.all (fun c => c.before args0 about1) = true
  refine all_split ?_ w_codes
  rw [w_t1]
set_option maxRecDepth 65536 in
theorem w_case : (Jvm.Cond.and given_1 narrow_1).before args0 about1 = true := by decide +kernel
theorem w_applies : (headSpec (Jvm.Cond.code x code maxLocals ret :: tables_1) room_1).applies x e0.platform about1 = true :=
  (Spec.applies_iff w_frames).mpr ⟨w_running, w_runnable, w_alone, w_named, w_hears, w_ripe, w_room, w_tables⟩
theorem atStart : AtStart classFile x code maxLocals ret World_1 tables_1 room_1 Calls_1 rest_1 Pre_1 launch0 p0 e0 about1 theMethod args0 below0 :=
  ⟨lists_1, trivial, launch0.admits_env _ _ _, launch0.least_env, fairChoices_fair.cas, fairChoices_fair.clock, w_frames, w_args, w_heap, w_applies, trivial, trivial, w_case⟩
end start1
theorem witness_1 : WitnessClaimed_1 := ⟨start1.p0, start1.e0, start1.about1, start1.theMethod, start1.args0, start1.below0, start1.atStart⟩
end Jvm.Pilot.@@N@@
