import JvmDerived
import JvmDerived.Pilot.@@N@@Statement
import JvmDerived.Pilot.@@N@@Code
set_option linter.unusedVariables false
set_option linter.unusedSimpArgs false
namespace Jvm.Pilot.@@N@@
open Jvm Jvm.ClassFile Sem Op Lib Jvm.Free Jvm.Stand Jvm.LawKit Jvm.RoadKit Bundle Jvm.Pilot.@@N@@.Jvm.D
section Own
variable {p : Program} {l : Launch} {e : Env} {R : Room} {s : State} {m : MethodId} {args : Array Value} {below : List Frame} {meth : Method} {c : Code} {T T' : State} {locs : List Loc} {cells slots C N : Nat} {Q : Option Value → Heap → List Loc → Prop} {g g' : JFrame}
/-- from T with the frame g on top the invocation of s comes to its end: it returns, and Q holds of what it returns, of the heap and of the places written -/
def Go (p : Program) (e : Env) (below : List Frame) (s : State) (C N : Nat) (Q : Option Value → Heap → List Loc → Prop) (T : State) (g : JFrame) : Prop :=
  ∃ s₂ o, Steps p.tables e below (T.setTop g) s₂ ∧ s₂.status = .running ∧ Ended s₂ below o ∧ ∃ v L, o = .returned v ∧ Q v s₂.heap L ∧ FrameEnd s o s₂ L C N
theorem Go.st (h : ∀ t, Steps p.tables e below (T'.setTop g') t → Steps p.tables e below (T.setTop g) t) (k : Go p e below s C N Q T' g') : Go p e below s C N Q T g := by
  obtain ⟨s2, o, h1, h2⟩ := k
  exact ⟨s2, o, h _ h1, h2⟩
theorem Go.enter (q : g = g') (k : Go p e below s C N Q T g') : ∃ s₂ o, Steps p.tables e below (T.setTop g) s₂ ∧ s₂.status = .running ∧ Ended s₂ below o ∧ ∃ v L, o = .returned v ∧ Q v s₂.heap L ∧ FrameEnd s o s₂ L C N := by
  subst q; exact k
theorem Go.fin (X : Stand p l e R s m args below meth c T locs cells slots) (hlk : meth.locks = false) {v : Option Value} (hv : meth.sig.returnType = none → v = none) (hC : cells ≤ C) (hN : slots ≤ N) (hq : Q v T.heap locs)
    (hs : ∀ fs, (∀ (f : JFrame) (acts : List Action), f.method = m → f.locked = none → f.entered = [] → (doReturn e (T.setTop f) acts v).1 = T.setFrames fs) → Steps p.tables e below (T.setTop g) (T.setFrames fs)) : Go p e below s C N Q T g := by
  obtain ⟨fs, hr, hrun, hended, hW, hsame⟩ := X.leave hv hlk
  exact ⟨_, _, hs fs hr, hrun, hended, _, _, rfl, hq, ⟨_, rfl⟩, hW, hsame.mono hC hN⟩
end Own

section OwnG
variable {p : Program} {l : Launch} {e : Env} {R : Room} {s : State} {m : MethodId} {args : Array Value} {below : List Frame} {meth : Method} {c : Code} {T : State} {locs : List Loc} {cells slots C N : Nat} {Q : Option Value → Heap → List Loc → Prop} {pc pc' : Nat} {L L' : Array Slot} {S : List Value}
theorem G_iloadN (X : Stand p l e R s m args below meth c T locs cells slots) (hx : p.tables.exec = Jvm.exec) {k : Fin 4} {v : Int32} (hp : pc + 1 = pc') (hd : decode c.code pc = .ok (.iload_n k, 1)) (hl : L[k.val]? = some (.val (.int v))) (h : Go p e below s C N Q T (mkF m pc' L (.int v :: S))) : Go p e below s C N Q T (mkF m pc L S) := by
  subst hp; exact Go.st (fun _ k => XS.iloadN X.here hx rfl hd hl k) h
theorem G_iload (X : Stand p l e R s m args below meth c T locs cells slots) (hx : p.tables.exec = Jvm.exec) {k : Nat} {v : Int32} (hp : pc + 2 = pc') (hd : decode c.code pc = .ok (.iload k, 2)) (hl : L[k]? = some (.val (.int v))) (h : Go p e below s C N Q T (mkF m pc' L (.int v :: S))) : Go p e below s C N Q T (mkF m pc L S) := by
  subst hp; exact Go.st (fun _ k => XS.iload X.here hx rfl hd hl k) h
theorem G_istoreN (X : Stand p l e R s m args below meth c T locs cells slots) (hx : p.tables.exec = Jvm.exec) {k : Fin 4} {v : Int32} (hp : pc + 1 = pc') (hd : decode c.code pc = .ok (.istore_n k, 1)) (hl : storeLocals L k.val (.int v) = some L') (h : Go p e below s C N Q T (mkF m pc' L' S)) : Go p e below s C N Q T (mkF m pc L (.int v :: S)) := by
  subst hp; exact Go.st (fun _ k => XS.istoreN X.here hx rfl hd rfl hl k) h
theorem G_istore (X : Stand p l e R s m args below meth c T locs cells slots) (hx : p.tables.exec = Jvm.exec) {k : Nat} {v : Int32} (hp : pc + 2 = pc') (hd : decode c.code pc = .ok (.istore k, 2)) (hl : storeLocals L k (.int v) = some L') (h : Go p e below s C N Q T (mkF m pc' L' S)) : Go p e below s C N Q T (mkF m pc L (.int v :: S)) := by
  subst hp; exact Go.st (fun _ k => XS.istore X.here hx rfl hd rfl hl k) h
theorem G_lloadN (X : Stand p l e R s m args below meth c T locs cells slots) (hx : p.tables.exec = Jvm.exec) {k : Fin 4} {v : Int64} (hp : pc + 1 = pc') (hd : decode c.code pc = .ok (.lload_n k, 1)) (hl : L[k.val]? = some (.val (.long v))) (h : Go p e below s C N Q T (mkF m pc' L (.long v :: S))) : Go p e below s C N Q T (mkF m pc L S) := by
  subst hp; exact Go.st (fun _ k => XS.lloadN X.here hx rfl hd hl k) h
theorem G_lload (X : Stand p l e R s m args below meth c T locs cells slots) (hx : p.tables.exec = Jvm.exec) {k : Nat} {v : Int64} (hp : pc + 2 = pc') (hd : decode c.code pc = .ok (.lload k, 2)) (hl : L[k]? = some (.val (.long v))) (h : Go p e below s C N Q T (mkF m pc' L (.long v :: S))) : Go p e below s C N Q T (mkF m pc L S) := by
  subst hp; exact Go.st (fun _ k => XS.lload X.here hx rfl hd hl k) h
theorem G_lstoreN (X : Stand p l e R s m args below meth c T locs cells slots) (hx : p.tables.exec = Jvm.exec) {k : Fin 4} {v : Int64} (hp : pc + 1 = pc') (hd : decode c.code pc = .ok (.lstore_n k, 1)) (hl : storeLocals L k.val (.long v) = some L') (h : Go p e below s C N Q T (mkF m pc' L' S)) : Go p e below s C N Q T (mkF m pc L (.long v :: S)) := by
  subst hp; exact Go.st (fun _ k => XS.lstoreN X.here hx rfl hd rfl hl k) h
theorem G_lstore (X : Stand p l e R s m args below meth c T locs cells slots) (hx : p.tables.exec = Jvm.exec) {k : Nat} {v : Int64} (hp : pc + 2 = pc') (hd : decode c.code pc = .ok (.lstore k, 2)) (hl : storeLocals L k (.long v) = some L') (h : Go p e below s C N Q T (mkF m pc' L' S)) : Go p e below s C N Q T (mkF m pc L (.long v :: S)) := by
  subst hp; exact Go.st (fun _ k => XS.lstore X.here hx rfl hd rfl hl k) h
theorem G_aloadN (X : Stand p l e R s m args below meth c T locs cells slots) (hx : p.tables.exec = Jvm.exec) {k : Fin 4} {v : Value} (hp : pc + 1 = pc') (hd : decode c.code pc = .ok (.aload_n k, 1)) (hl : L[k.val]? = some (.val v)) (hv : v.isRef = true) (h : Go p e below s C N Q T (mkF m pc' L (v :: S))) : Go p e below s C N Q T (mkF m pc L S) := by
  subst hp; exact Go.st (fun _ k => XS.aloadN X.here hx rfl hd hl hv k) h
theorem G_aload (X : Stand p l e R s m args below meth c T locs cells slots) (hx : p.tables.exec = Jvm.exec) {k : Nat} {v : Value} (hp : pc + 2 = pc') (hd : decode c.code pc = .ok (.aload k, 2)) (hl : L[k]? = some (.val v)) (hv : v.isRef = true) (h : Go p e below s C N Q T (mkF m pc' L (v :: S))) : Go p e below s C N Q T (mkF m pc L S) := by
  subst hp; exact Go.st (fun _ k => XS.aload X.here hx rfl hd hl hv k) h
theorem G_astoreN (X : Stand p l e R s m args below meth c T locs cells slots) (hx : p.tables.exec = Jvm.exec) {k : Fin 4} {v : Value} (hp : pc + 1 = pc') (hd : decode c.code pc = .ok (.astore_n k, 1)) (hv : v.isRef = true) (hl : storeLocals L k.val v = some L') (h : Go p e below s C N Q T (mkF m pc' L' S)) : Go p e below s C N Q T (mkF m pc L (v :: S)) := by
  subst hp; exact Go.st (fun _ k => XS.astoreN X.here hx rfl hd rfl hv hl k) h
theorem G_astore (X : Stand p l e R s m args below meth c T locs cells slots) (hx : p.tables.exec = Jvm.exec) {k : Nat} {v : Value} (hp : pc + 2 = pc') (hd : decode c.code pc = .ok (.astore k, 2)) (hv : v.isRef = true) (hl : storeLocals L k v = some L') (h : Go p e below s C N Q T (mkF m pc' L' S)) : Go p e below s C N Q T (mkF m pc L (v :: S)) := by
  subst hp; exact Go.st (fun _ k => XS.astore X.here hx rfl hd rfl hv hl k) h
theorem G_iconst (X : Stand p l e R s m args below meth c T locs cells slots) (hx : p.tables.exec = Jvm.exec) {i : Int} {z : Int32} (hp : pc + 1 = pc') (hd : decode c.code pc = .ok (.iconst i, 1)) (hz : Int32.ofInt i = z) (h : Go p e below s C N Q T (mkF m pc' L (.int z :: S))) : Go p e below s C N Q T (mkF m pc L S) := by
  subst hp; exact Go.st (fun _ k => XS.iconst X.here hx rfl hd (by rw [hz]; exact k)) h
theorem G_bipush (X : Stand p l e R s m args below meth c T locs cells slots) (hx : p.tables.exec = Jvm.exec) {i : Int} {z : Int32} (hp : pc + 2 = pc') (hd : decode c.code pc = .ok (.bipush i, 2)) (hz : (Int8.ofInt i).toInt32 = z) (h : Go p e below s C N Q T (mkF m pc' L (.int z :: S))) : Go p e below s C N Q T (mkF m pc L S) := by
  subst hp; exact Go.st (fun _ k => XS.bipush X.here hx rfl hd (by rw [hz]; exact k)) h
theorem G_sipush (X : Stand p l e R s m args below meth c T locs cells slots) (hx : p.tables.exec = Jvm.exec) {i : Int} {z : Int32} (hp : pc + 3 = pc') (hd : decode c.code pc = .ok (.sipush i, 3)) (hz : (Int16.ofInt i).toInt32 = z) (h : Go p e below s C N Q T (mkF m pc' L (.int z :: S))) : Go p e below s C N Q T (mkF m pc L S) := by
  subst hp; exact Go.st (fun _ k => XS.sipush X.here hx rfl hd (by rw [hz]; exact k)) h
theorem G_lconst (X : Stand p l e R s m args below meth c T locs cells slots) (hx : p.tables.exec = Jvm.exec) {i : Fin 2} {z : Int64} (hp : pc + 1 = pc') (hd : decode c.code pc = .ok (.lconst i, 1)) (hz : Int64.ofNat i = z) (h : Go p e below s C N Q T (mkF m pc' L (.long z :: S))) : Go p e below s C N Q T (mkF m pc L S) := by
  subst hp; exact Go.st (fun _ k => XS.lconst X.here hx rfl hd (by rw [hz]; exact k)) h
theorem G_aconstNull (X : Stand p l e R s m args below meth c T locs cells slots) (hx : p.tables.exec = Jvm.exec)  (hp : pc + 1 = pc') (hd : decode c.code pc = .ok (.aconst_null, 1))  (h : Go p e below s C N Q T (mkF m pc' L (.null :: S))) : Go p e below s C N Q T (mkF m pc L S) := by
  subst hp; exact Go.st (fun _ k => XS.aconstNull X.here hx rfl hd k) h
theorem G_iadd (X : Stand p l e R s m args below meth c T locs cells slots) (hx : p.tables.exec = Jvm.exec) {x y : Int32} (hp : pc + 1 = pc') (hd : decode c.code pc = .ok (.iadd, 1))  (h : Go p e below s C N Q T (mkF m pc' L (.int (x + y) :: S))) : Go p e below s C N Q T (mkF m pc L (.int y :: .int x :: S)) := by
  subst hp; exact Go.st (fun _ k => XS.iadd X.here hx rfl hd rfl k) h
theorem G_isub (X : Stand p l e R s m args below meth c T locs cells slots) (hx : p.tables.exec = Jvm.exec) {x y : Int32} (hp : pc + 1 = pc') (hd : decode c.code pc = .ok (.isub, 1))  (h : Go p e below s C N Q T (mkF m pc' L (.int (x - y) :: S))) : Go p e below s C N Q T (mkF m pc L (.int y :: .int x :: S)) := by
  subst hp; exact Go.st (fun _ k => XS.isub X.here hx rfl hd rfl k) h
theorem G_imul (X : Stand p l e R s m args below meth c T locs cells slots) (hx : p.tables.exec = Jvm.exec) {x y : Int32} (hp : pc + 1 = pc') (hd : decode c.code pc = .ok (.imul, 1))  (h : Go p e below s C N Q T (mkF m pc' L (.int (x * y) :: S))) : Go p e below s C N Q T (mkF m pc L (.int y :: .int x :: S)) := by
  subst hp; exact Go.st (fun _ k => XS.imul X.here hx rfl hd rfl k) h
theorem G_iand (X : Stand p l e R s m args below meth c T locs cells slots) (hx : p.tables.exec = Jvm.exec) {x y : Int32} (hp : pc + 1 = pc') (hd : decode c.code pc = .ok (.iand, 1))  (h : Go p e below s C N Q T (mkF m pc' L (.int (x &&& y) :: S))) : Go p e below s C N Q T (mkF m pc L (.int y :: .int x :: S)) := by
  subst hp; exact Go.st (fun _ k => XS.iand X.here hx rfl hd rfl k) h
theorem G_ior (X : Stand p l e R s m args below meth c T locs cells slots) (hx : p.tables.exec = Jvm.exec) {x y : Int32} (hp : pc + 1 = pc') (hd : decode c.code pc = .ok (.ior, 1))  (h : Go p e below s C N Q T (mkF m pc' L (.int (x ||| y) :: S))) : Go p e below s C N Q T (mkF m pc L (.int y :: .int x :: S)) := by
  subst hp; exact Go.st (fun _ k => XS.ior X.here hx rfl hd rfl k) h
theorem G_ixor (X : Stand p l e R s m args below meth c T locs cells slots) (hx : p.tables.exec = Jvm.exec) {x y : Int32} (hp : pc + 1 = pc') (hd : decode c.code pc = .ok (.ixor, 1))  (h : Go p e below s C N Q T (mkF m pc' L (.int (x ^^^ y) :: S))) : Go p e below s C N Q T (mkF m pc L (.int y :: .int x :: S)) := by
  subst hp; exact Go.st (fun _ k => XS.ixor X.here hx rfl hd rfl k) h
theorem G_ishl (X : Stand p l e R s m args below meth c T locs cells slots) (hx : p.tables.exec = Jvm.exec) {x y : Int32} (hp : pc + 1 = pc') (hd : decode c.code pc = .ok (.ishl, 1))  (h : Go p e below s C N Q T (mkF m pc' L (.int (x <<< (y &&& 31)) :: S))) : Go p e below s C N Q T (mkF m pc L (.int y :: .int x :: S)) := by
  subst hp; exact Go.st (fun _ k => XS.ishl X.here hx rfl hd rfl k) h
theorem G_ishr (X : Stand p l e R s m args below meth c T locs cells slots) (hx : p.tables.exec = Jvm.exec) {x y : Int32} (hp : pc + 1 = pc') (hd : decode c.code pc = .ok (.ishr, 1))  (h : Go p e below s C N Q T (mkF m pc' L (.int (x >>> (y &&& 31)) :: S))) : Go p e below s C N Q T (mkF m pc L (.int y :: .int x :: S)) := by
  subst hp; exact Go.st (fun _ k => XS.ishr X.here hx rfl hd rfl k) h
theorem G_iushr (X : Stand p l e R s m args below meth c T locs cells slots) (hx : p.tables.exec = Jvm.exec) {x y : Int32} (hp : pc + 1 = pc') (hd : decode c.code pc = .ok (.iushr, 1))  (h : Go p e below s C N Q T (mkF m pc' L (.int ((x.toUInt32 >>> (y &&& 31).toUInt32).toInt32) :: S))) : Go p e below s C N Q T (mkF m pc L (.int y :: .int x :: S)) := by
  subst hp; exact Go.st (fun _ k => XS.iushr X.here hx rfl hd rfl k) h
theorem G_ladd (X : Stand p l e R s m args below meth c T locs cells slots) (hx : p.tables.exec = Jvm.exec) {x y : Int64} (hp : pc + 1 = pc') (hd : decode c.code pc = .ok (.ladd, 1))  (h : Go p e below s C N Q T (mkF m pc' L (.long (x + y) :: S))) : Go p e below s C N Q T (mkF m pc L (.long y :: .long x :: S)) := by
  subst hp; exact Go.st (fun _ k => XS.ladd X.here hx rfl hd rfl k) h
theorem G_lsub (X : Stand p l e R s m args below meth c T locs cells slots) (hx : p.tables.exec = Jvm.exec) {x y : Int64} (hp : pc + 1 = pc') (hd : decode c.code pc = .ok (.lsub, 1))  (h : Go p e below s C N Q T (mkF m pc' L (.long (x - y) :: S))) : Go p e below s C N Q T (mkF m pc L (.long y :: .long x :: S)) := by
  subst hp; exact Go.st (fun _ k => XS.lsub X.here hx rfl hd rfl k) h
theorem G_lmul (X : Stand p l e R s m args below meth c T locs cells slots) (hx : p.tables.exec = Jvm.exec) {x y : Int64} (hp : pc + 1 = pc') (hd : decode c.code pc = .ok (.lmul, 1))  (h : Go p e below s C N Q T (mkF m pc' L (.long (x * y) :: S))) : Go p e below s C N Q T (mkF m pc L (.long y :: .long x :: S)) := by
  subst hp; exact Go.st (fun _ k => XS.lmul X.here hx rfl hd rfl k) h
theorem G_land (X : Stand p l e R s m args below meth c T locs cells slots) (hx : p.tables.exec = Jvm.exec) {x y : Int64} (hp : pc + 1 = pc') (hd : decode c.code pc = .ok (.land, 1))  (h : Go p e below s C N Q T (mkF m pc' L (.long (x &&& y) :: S))) : Go p e below s C N Q T (mkF m pc L (.long y :: .long x :: S)) := by
  subst hp; exact Go.st (fun _ k => XS.land X.here hx rfl hd rfl k) h
theorem G_lor (X : Stand p l e R s m args below meth c T locs cells slots) (hx : p.tables.exec = Jvm.exec) {x y : Int64} (hp : pc + 1 = pc') (hd : decode c.code pc = .ok (.lor, 1))  (h : Go p e below s C N Q T (mkF m pc' L (.long (x ||| y) :: S))) : Go p e below s C N Q T (mkF m pc L (.long y :: .long x :: S)) := by
  subst hp; exact Go.st (fun _ k => XS.lor X.here hx rfl hd rfl k) h
theorem G_lxor (X : Stand p l e R s m args below meth c T locs cells slots) (hx : p.tables.exec = Jvm.exec) {x y : Int64} (hp : pc + 1 = pc') (hd : decode c.code pc = .ok (.lxor, 1))  (h : Go p e below s C N Q T (mkF m pc' L (.long (x ^^^ y) :: S))) : Go p e below s C N Q T (mkF m pc L (.long y :: .long x :: S)) := by
  subst hp; exact Go.st (fun _ k => XS.lxor X.here hx rfl hd rfl k) h
theorem G_lshl (X : Stand p l e R s m args below meth c T locs cells slots) (hx : p.tables.exec = Jvm.exec) {x : Int64} {y : Int32} (hp : pc + 1 = pc') (hd : decode c.code pc = .ok (.lshl, 1))  (h : Go p e below s C N Q T (mkF m pc' L (.long (x <<< (y &&& 0x3f).toInt64) :: S))) : Go p e below s C N Q T (mkF m pc L (.int y :: .long x :: S)) := by
  subst hp; exact Go.st (fun _ k => XS.lshl X.here hx rfl hd rfl k) h
theorem G_lshr (X : Stand p l e R s m args below meth c T locs cells slots) (hx : p.tables.exec = Jvm.exec) {x : Int64} {y : Int32} (hp : pc + 1 = pc') (hd : decode c.code pc = .ok (.lshr, 1))  (h : Go p e below s C N Q T (mkF m pc' L (.long (x >>> (y &&& 0x3f).toInt64) :: S))) : Go p e below s C N Q T (mkF m pc L (.int y :: .long x :: S)) := by
  subst hp; exact Go.st (fun _ k => XS.lshr X.here hx rfl hd rfl k) h
theorem G_lushr (X : Stand p l e R s m args below meth c T locs cells slots) (hx : p.tables.exec = Jvm.exec) {x : Int64} {y : Int32} (hp : pc + 1 = pc') (hd : decode c.code pc = .ok (.lushr, 1))  (h : Go p e below s C N Q T (mkF m pc' L (.long ((x.toUInt64 >>> (y &&& 0x3f).toInt64.toUInt64).toInt64) :: S))) : Go p e below s C N Q T (mkF m pc L (.int y :: .long x :: S)) := by
  subst hp; exact Go.st (fun _ k => XS.lushr X.here hx rfl hd rfl k) h
theorem G_idiv (X : Stand p l e R s m args below meth c T locs cells slots) (hx : p.tables.exec = Jvm.exec) {x y : Int32} (hp : pc + 1 = pc') (hd : decode c.code pc = .ok (.idiv, 1)) (hy : y ≠ 0) (h : Go p e below s C N Q T (mkF m pc' L (.int (x / y) :: S))) : Go p e below s C N Q T (mkF m pc L (.int y :: .int x :: S)) := by
  subst hp; exact Go.st (fun _ k => XS.idiv X.here hx rfl hd rfl hy k) h
theorem G_irem (X : Stand p l e R s m args below meth c T locs cells slots) (hx : p.tables.exec = Jvm.exec) {x y : Int32} (hp : pc + 1 = pc') (hd : decode c.code pc = .ok (.irem, 1)) (hy : y ≠ 0) (h : Go p e below s C N Q T (mkF m pc' L (.int (x % y) :: S))) : Go p e below s C N Q T (mkF m pc L (.int y :: .int x :: S)) := by
  subst hp; exact Go.st (fun _ k => iremM X hx rfl hd rfl hy k) h
theorem G_ldiv (X : Stand p l e R s m args below meth c T locs cells slots) (hx : p.tables.exec = Jvm.exec) {x y : Int64} (hp : pc + 1 = pc') (hd : decode c.code pc = .ok (.ldiv, 1)) (hy : y ≠ 0) (h : Go p e below s C N Q T (mkF m pc' L (.long (x / y) :: S))) : Go p e below s C N Q T (mkF m pc L (.long y :: .long x :: S)) := by
  subst hp; exact Go.st (fun _ k => XS.ldiv X.here hx rfl hd rfl hy k) h
theorem G_lrem (X : Stand p l e R s m args below meth c T locs cells slots) (hx : p.tables.exec = Jvm.exec) {x y : Int64} (hp : pc + 1 = pc') (hd : decode c.code pc = .ok (.lrem, 1)) (hy : y ≠ 0) (h : Go p e below s C N Q T (mkF m pc' L (.long (x % y) :: S))) : Go p e below s C N Q T (mkF m pc L (.long y :: .long x :: S)) := by
  subst hp; exact Go.st (fun _ k => XS.lrem X.here hx rfl hd rfl hy (by rw [lrem_mod]; exact k)) h
theorem G_ineg (X : Stand p l e R s m args below meth c T locs cells slots) (hx : p.tables.exec = Jvm.exec) {x : Int32} (hp : pc + 1 = pc') (hd : decode c.code pc = .ok (.ineg, 1))  (h : Go p e below s C N Q T (mkF m pc' L (.int (-x) :: S))) : Go p e below s C N Q T (mkF m pc L (.int x :: S)) := by
  subst hp; exact Go.st (fun _ k => XS.ineg X.here hx rfl hd rfl k) h
theorem G_lneg (X : Stand p l e R s m args below meth c T locs cells slots) (hx : p.tables.exec = Jvm.exec) {x : Int64} (hp : pc + 1 = pc') (hd : decode c.code pc = .ok (.lneg, 1))  (h : Go p e below s C N Q T (mkF m pc' L (.long (-x) :: S))) : Go p e below s C N Q T (mkF m pc L (.long x :: S)) := by
  subst hp; exact Go.st (fun _ k => XS.lneg X.here hx rfl hd rfl k) h
theorem G_i2l (X : Stand p l e R s m args below meth c T locs cells slots) (hx : p.tables.exec = Jvm.exec) {x : Int32} (hp : pc + 1 = pc') (hd : decode c.code pc = .ok (.i2l, 1))  (h : Go p e below s C N Q T (mkF m pc' L (.long (x.toInt64) :: S))) : Go p e below s C N Q T (mkF m pc L (.int x :: S)) := by
  subst hp; exact Go.st (fun _ k => XS.i2l X.here hx rfl hd rfl k) h
theorem G_l2i (X : Stand p l e R s m args below meth c T locs cells slots) (hx : p.tables.exec = Jvm.exec) {x : Int64} (hp : pc + 1 = pc') (hd : decode c.code pc = .ok (.l2i, 1))  (h : Go p e below s C N Q T (mkF m pc' L (.int (x.toInt32) :: S))) : Go p e below s C N Q T (mkF m pc L (.long x :: S)) := by
  subst hp; exact Go.st (fun _ k => XS.l2i X.here hx rfl hd rfl k) h
theorem G_i2b (X : Stand p l e R s m args below meth c T locs cells slots) (hx : p.tables.exec = Jvm.exec) {x : Int32} (hp : pc + 1 = pc') (hd : decode c.code pc = .ok (.i2b, 1))  (h : Go p e below s C N Q T (mkF m pc' L (.int (x.toInt8.toInt32) :: S))) : Go p e below s C N Q T (mkF m pc L (.int x :: S)) := by
  subst hp; exact Go.st (fun _ k => XS.i2b X.here hx rfl hd rfl k) h
theorem G_i2s (X : Stand p l e R s m args below meth c T locs cells slots) (hx : p.tables.exec = Jvm.exec) {x : Int32} (hp : pc + 1 = pc') (hd : decode c.code pc = .ok (.i2s, 1))  (h : Go p e below s C N Q T (mkF m pc' L (.int (x.toInt16.toInt32) :: S))) : Go p e below s C N Q T (mkF m pc L (.int x :: S)) := by
  subst hp; exact Go.st (fun _ k => XS.i2s X.here hx rfl hd rfl k) h
theorem G_i2c (X : Stand p l e R s m args below meth c T locs cells slots) (hx : p.tables.exec = Jvm.exec) {x : Int32} (hp : pc + 1 = pc') (hd : decode c.code pc = .ok (.i2c, 1))  (h : Go p e below s C N Q T (mkF m pc' L (.int (x.toUInt32.toUInt16.toUInt32.toInt32) :: S))) : Go p e below s C N Q T (mkF m pc L (.int x :: S)) := by
  subst hp; exact Go.st (fun _ k => XS.i2c X.here hx rfl hd rfl k) h
theorem G_lcmp (X : Stand p l e R s m args below meth c T locs cells slots) (hx : p.tables.exec = Jvm.exec) {x y : Int64} (hp : pc + 1 = pc') (hd : decode c.code pc = .ok (.lcmp, 1))  (h : Go p e below s C N Q T (mkF m pc' L (.int (lcmpW x y) :: S))) : Go p e below s C N Q T (mkF m pc L (.long y :: .long x :: S)) := by
  subst hp; exact Go.st (fun _ k => XS.lcmp X.here hx rfl hd rfl k) h
theorem G_iinc (X : Stand p l e R s m args below meth c T locs cells slots) (hx : p.tables.exec = Jvm.exec) {k : Nat} {cst : Int} {x z : Int32} (hp : pc + 3 = pc') (hd : decode c.code pc = .ok (.iinc k cst, 3)) (hl : L[k]? = some (.val (.int x))) (hz : x + Int32.ofInt cst = z) (hl' : storeLocals L k (.int z) = some L') (h : Go p e below s C N Q T (mkF m pc' L' S)) : Go p e below s C N Q T (mkF m pc L S) := by
  subst hp; exact Go.st (fun _ k => XS.iinc X.here hx rfl hd hl (by rw [hz]; exact hl') k) h
theorem G_dup (X : Stand p l e R s m args below meth c T locs cells slots) (hx : p.tables.exec = Jvm.exec) {x : Value} (hp : pc + 1 = pc') (hd : decode c.code pc = .ok (.dup, 1)) (hc : x.category = 1) (h : Go p e below s C N Q T (mkF m pc' L (x :: x :: S))) : Go p e below s C N Q T (mkF m pc L (x :: S)) := by
  subst hp; exact Go.st (fun _ k => XS.dup X.here hx rfl hd rfl hc k) h
theorem G_pop (X : Stand p l e R s m args below meth c T locs cells slots) (hx : p.tables.exec = Jvm.exec) {x : Value} (hp : pc + 1 = pc') (hd : decode c.code pc = .ok (.pop, 1)) (hc : x.category = 1) (h : Go p e below s C N Q T (mkF m pc' L S)) : Go p e below s C N Q T (mkF m pc L (x :: S)) := by
  subst hp; exact Go.st (fun _ k => XS.pop X.here hx rfl hd rfl hc k) h
theorem G_dupX1 (X : Stand p l e R s m args below meth c T locs cells slots) (hx : p.tables.exec = Jvm.exec) {x y : Value} (hp : pc + 1 = pc') (hd : decode c.code pc = .ok (.dup_x1, 1)) (hc : x.category = 1) (hc' : y.category = 1) (h : Go p e below s C N Q T (mkF m pc' L (x :: y :: x :: S))) : Go p e below s C N Q T (mkF m pc L (x :: y :: S)) := by
  subst hp; exact Go.st (fun _ k => XS.dupX1 X.here hx rfl hd rfl hc hc' k) h
theorem G_goto (X : Stand p l e R s m args below meth c T locs cells slots) (hx : p.tables.exec = Jvm.exec)  {o : Int} (hd : decode c.code pc = .ok (.goto o, 3))  (ho : 0 ≤ (pc : Int) + o) (hp : ((pc : Int) + o).toNat = pc') (h : Go p e below s C N Q T (mkF m pc' L S)) : Go p e below s C N Q T (mkF m pc L S) :=
  Go.st (fun _ k => XS.goto X.here hx rfl rfl hd ho hp k) h
theorem G_ifYes (X : Stand p l e R s m args below meth c T locs cells slots) (hx : p.tables.exec = Jvm.exec) {cd : ClassFile.Cond} {x : Int32} {o : Int} (hd : decode c.code pc = .ok (.ifCond cd o, 3)) (hc : ifCond.holds cd x = true) (ho : 0 ≤ (pc : Int) + o) (hp : ((pc : Int) + o).toNat = pc') (h : Go p e below s C N Q T (mkF m pc' L S)) : Go p e below s C N Q T (mkF m pc L (.int x :: S)) :=
  Go.st (fun _ k => XS.ifYes X.here hx rfl rfl hd rfl hc ho hp k) h
theorem G_icmpYes (X : Stand p l e R s m args below meth c T locs cells slots) (hx : p.tables.exec = Jvm.exec) {cd : ClassFile.Cond} {x y : Int32} {o : Int} (hd : decode c.code pc = .ok (.if_icmp cd o, 3)) (hc : if_icmp.holds cd x y = true) (ho : 0 ≤ (pc : Int) + o) (hp : ((pc : Int) + o).toNat = pc') (h : Go p e below s C N Q T (mkF m pc' L S)) : Go p e below s C N Q T (mkF m pc L (.int y :: .int x :: S)) :=
  Go.st (fun _ k => XS.icmpYes X.here hx rfl rfl hd rfl hc ho hp k) h
theorem G_ifnullYes (X : Stand p l e R s m args below meth c T locs cells slots) (hx : p.tables.exec = Jvm.exec)  {o : Int} (hd : decode c.code pc = .ok (.ifnull o, 3))  (ho : 0 ≤ (pc : Int) + o) (hp : ((pc : Int) + o).toNat = pc') (h : Go p e below s C N Q T (mkF m pc' L S)) : Go p e below s C N Q T (mkF m pc L (.null :: S)) :=
  Go.st (fun _ k => XS.ifnullYes X.here hx rfl rfl hd rfl ho hp k) h
theorem G_ifnonnullYes (X : Stand p l e R s m args below meth c T locs cells slots) (hx : p.tables.exec = Jvm.exec) {b : Addr} {o : Int} (hd : decode c.code pc = .ok (.ifnonnull o, 3))  (ho : 0 ≤ (pc : Int) + o) (hp : ((pc : Int) + o).toNat = pc') (h : Go p e below s C N Q T (mkF m pc' L S)) : Go p e below s C N Q T (mkF m pc L (.ref b :: S)) :=
  Go.st (fun _ k => XS.ifnonnullYes X.here hx rfl rfl hd rfl ho hp k) h
theorem G_ifNo (X : Stand p l e R s m args below meth c T locs cells slots) (hx : p.tables.exec = Jvm.exec) {cd : ClassFile.Cond} {x : Int32} {o : Int} (hp : pc + 3 = pc') (hd : decode c.code pc = .ok (.ifCond cd o, 3)) (hc : ifCond.holds cd x = false) (h : Go p e below s C N Q T (mkF m pc' L S)) : Go p e below s C N Q T (mkF m pc L (.int x :: S)) := by
  subst hp; exact Go.st (fun _ k => XS.ifNo X.here hx rfl hd rfl hc k) h
theorem G_icmpNo (X : Stand p l e R s m args below meth c T locs cells slots) (hx : p.tables.exec = Jvm.exec) {cd : ClassFile.Cond} {x y : Int32} {o : Int} (hp : pc + 3 = pc') (hd : decode c.code pc = .ok (.if_icmp cd o, 3)) (hc : if_icmp.holds cd x y = false) (h : Go p e below s C N Q T (mkF m pc' L S)) : Go p e below s C N Q T (mkF m pc L (.int y :: .int x :: S)) := by
  subst hp; exact Go.st (fun _ k => XS.icmpNo X.here hx rfl hd rfl hc k) h
theorem G_ifnullNo (X : Stand p l e R s m args below meth c T locs cells slots) (hx : p.tables.exec = Jvm.exec) {b : Addr} {o : Int} (hp : pc + 3 = pc') (hd : decode c.code pc = .ok (.ifnull o, 3))  (h : Go p e below s C N Q T (mkF m pc' L S)) : Go p e below s C N Q T (mkF m pc L (.ref b :: S)) := by
  subst hp; exact Go.st (fun _ k => XS.ifnullNo X.here hx rfl hd rfl k) h
theorem G_ifnonnullNo (X : Stand p l e R s m args below meth c T locs cells slots) (hx : p.tables.exec = Jvm.exec) {o : Int} (hp : pc + 3 = pc') (hd : decode c.code pc = .ok (.ifnonnull o, 3))  (h : Go p e below s C N Q T (mkF m pc' L S)) : Go p e below s C N Q T (mkF m pc L (.null :: S)) := by
  subst hp; exact Go.st (fun _ k => XS.ifnonnullNo X.here hx rfl hd rfl k) h
theorem G_ldc (X : Stand p l e R s m args below meth c T locs cells slots) (hx : p.tables.exec = Jvm.exec) (hp : pc + 2 = pc') {own : String} {index : Nat} {v : Int32} (hown : s.vm.findClass own = some m.cls) (hw : (Cond.constant own index v).before args s = true) (hd : decode c.code pc = .ok (.ldc index, 2)) (h : Go p e below s C N Q T (mkF m pc' L (.int v :: S))) : Go p e below s C N Q T (mkF m pc L S) := by
  subst hp; exact Go.st (X.ldcInt hx hown hw (g := mkF m pc L S) rfl hd) h
theorem G_ldc2 (X : Stand p l e R s m args below meth c T locs cells slots) (hx : p.tables.exec = Jvm.exec) (hp : pc + 3 = pc') {own : String} {index : Nat} {v : Int64} (hown : s.vm.findClass own = some m.cls) (hw : (Cond.constantLong own index v).before args s = true) (hd : decode c.code pc = .ok (.ldc2_w index, 3)) (h : Go p e below s C N Q T (mkF m pc' L (.long v :: S))) : Go p e below s C N Q T (mkF m pc L S) := by
  subst hp; exact Go.st (X.ldc2Long hx hown hw (g := mkF m pc L S) rfl hd) h
end OwnG

section OwnStart
variable {args : Array Value} {s : State} {t : Term} {C n d : String} {a : Addr}
theorem own_ref (h : (Cond.exactly t C).value args s none s [] = some true) : ∃ a, t.eval args s none [] s = some (.ref a) := by
  obtain ⟨a', _, _, _, e1, -⟩ := Cond.exactly_spec (Cond.before_iff.mpr h)
  exact ⟨a', e1⟩
theorem own_fldI {x : Int32} (ev : t.eval args s none [] s = some (.ref a)) (h : (Cond.eq (.field t C n d) (.int x)).value args s none s [] = some true) : Fld s s.heap a C n d (.int x) := by
  apply Fld.start
  simp only [Cond.value, Term.eval, ev, Option.bind_eq_bind, Option.bind_some] at h
  cases hf : s.fieldOf? a C n d with
  | none => simp [hf] at h
  | some v => cases v <;> simp [hf] at h; subst h; rfl
theorem own_fldJ {x : Int64} (ev : t.eval args s none [] s = some (.ref a)) (h : (Cond.eq (.field t C n d) (.long x)).value args s none s [] = some true) : Fld s s.heap a C n d (.long x) := by
  apply Fld.start
  simp only [Cond.value, Term.eval, ev, Option.bind_eq_bind, Option.bind_some] at h
  cases hf : s.fieldOf? a C n d with
  | none => simp [hf] at h
  | some v => cases v <;> simp [hf] at h; subst h; rfl
end OwnStart

theorem d_encl_0 : decode prog_100_method_4_code 0 = .ok (.iload_n 1, 1) := by decide +kernel
theorem d_encl_1 : decode prog_100_method_4_code 1 = .ok (.aload_n 0, 1) := by decide +kernel
theorem d_encl_2 : decode prog_100_method_4_code 2 = .ok (.getfield 40, 3) := by decide +kernel
theorem d_encl_5 : decode prog_100_method_4_code 5 = .ok (.iadd, 1) := by decide +kernel
theorem d_encl_6 : decode prog_100_method_4_code 6 = .ok (.iconst 1, 1) := by decide +kernel
theorem d_encl_7 : decode prog_100_method_4_code 7 = .ok (.isub, 1) := by decide +kernel
theorem d_encl_8 : decode prog_100_method_4_code 8 = .ok (.aload_n 0, 1) := by decide +kernel
theorem d_encl_9 : decode prog_100_method_4_code 9 = .ok (.getfield 40, 3) := by decide +kernel
theorem d_encl_12 : decode prog_100_method_4_code 12 = .ok (.idiv, 1) := by decide +kernel
theorem d_encl_13 : decode prog_100_method_4_code 13 = .ok (.aload_n 0, 1) := by decide +kernel
theorem d_encl_14 : decode prog_100_method_4_code 14 = .ok (.getfield 40, 3) := by decide +kernel
theorem d_encl_17 : decode prog_100_method_4_code 17 = .ok (.imul, 1) := by decide +kernel
theorem d_encl_18 : decode prog_100_method_4_code 18 = .ok (.ireturn, 1) := by decide +kernel
def f_encl (v1 : Int32) (b : Int32) : Int32 := ((((v1 + b) - (1 : Int32)) / b) * b)
theorem ef_encl (m : MethodId) (v0 : Addr) (v1 : Int32) : entryFrame m #[(.ref v0), (.int v1)] 2 = mkF m 0 #[.val (.ref v0), .val (.int v1)] [] := by first | (simp [entryFrame, mkF, argsToLocals, Value.category]; done) | rfl
def Q_encl (Z : State) (v0 : Addr) (v1 : Int32) (b : Int32) (h0 : Heap) (n0 : Nat) (v : Option Value) (h : Heap) (L : List Loc) : Prop := v = some (.int (f_encl v1 b)) ∧ Fr n0 L ∧ h = h0
set_option maxRecDepth 65536 in
set_option maxHeartbeats 40000000 in
theorem rm_encl (l : Launch) (Z : State) (a0 : Array Value) (hw : ∀ d ∈ tables_1, d.before a0 Z = true) (ws : List Jvm.Cond) (v0 : Addr) (v1 : Int32) (b : Int32) (h0 : Heap) (n0 : Nat) (Z0 : n0 ≤ h0.size) (f0_F_v0 : Fld Z h0 v0 "managerie/usm/PrivProtocol" "block" "I" (.int b)) (hb0 : b ≠ 0) :
    MetFree l (⟨"managerie/usm/PrivProtocol", "encryptedLength", "(I)I"⟩ : MethodName) (head1 (Jvm.Cond.code (⟨"managerie/usm/PrivProtocol", "encryptedLength", "(I)I"⟩ : MethodName) prog_100_method_4_code 2 (some .int) :: ws) ({ frames := 0, cells := 0, slots := 0, locals := 0 } : Room)) (fun a U => a = #[(.ref v0), (.int v1)] ∧ Z.Warmed39 U.vm ∧ U.heap = h0) (fun _ _ _ _ _ => True) (fun _ U o U' => ∃ v L, o = .returned v ∧ Q_encl Z v0 v1 b h0 n0 v U'.heap L ∧ FrameEnd U o U' L ({ frames := 0, cells := 0, slots := 0, locals := 0 } : Room).cells ({ frames := 0, cells := 0, slots := 0, locals := 0 } : Room).slots) := by
  refine MetFree.of_bodySF (plainFor_of_name (by first | (simp [plainName, overriddenIn]; done) | decide +kernel)) hisR ?_
  intro p e s m args below meth c s₁ Bd hml0 hP hK
  obtain ⟨rfl, hZ, hh⟩ := hP
  have hx := Bd.exec
  have hby := Bd.bytes
  have hml : c.maxLocals = 2 := hml0
  have hown : s.vm.findClass "managerie/usm/PrivProtocol" = some m.cls := findClass_of_methodNamed Bd.named
  have hnm := (name_of_methodNamed Bd.named Bd.method).1
  have hlk : meth.locks = false := Bd.notSynchronized
  have X0 : Stand p l e ({ frames := 0, cells := 0, slots := 0, locals := 0 } : Room) s m #[(.ref v0), (.int v1)] below meth c s₁ [] 0 0 := Stand.of_body Bd
  have e0 : s₁.heap = h0 := by rw [← hh, Bd.state]; rfl
  have N0 := Fr.nil n0
  refine Go.enter (Q := Q_encl Z v0 v1 b h0 n0) (C := ({ frames := 0, cells := 0, slots := 0, locals := 0 } : Room).cells) (N := ({ frames := 0, cells := 0, slots := 0, locals := 0 } : Room).slots) (ef_encl m v0 v1) ?_
  show Go p e below s _ _ _ s₁ (mkF m 0 #[.val (.ref v0), .val (.int v1)] [])
  refine G_iloadN X0 hx (pc' := 1) rfl (hb hby d_encl_0) rfl ?_
  refine G_aloadN X0 hx (pc' := 2) rfl (hb hby d_encl_1) rfl rfl ?_
  obtain ⟨T1, X1, e1, st1⟩ := getF X0 hx hZ hown (host := "") (Or.inl (hw _ (List.mem_of_getElem? (i := 9) rfl))) Via.refl e0 f0_F_v0 (g := (mkF m 2 #[.val (.ref v0), .val (.int v1)] [(.ref v0), (.int v1)])) rfl rfl (hb hby d_encl_2)
  refine Go.st st1 ?_
  show Go p e below s _ _ _ T1 (mkF m 5 #[.val (.ref v0), .val (.int v1)] [(.int b), (.int v1)])
  refine G_iadd X1 hx (pc' := 6) rfl (hb hby d_encl_5)  ?_
  refine G_iconst X1 hx (pc' := 7) rfl (hb hby d_encl_6) (z := (1 : Int32)) rfl ?_
  refine G_isub X1 hx (pc' := 8) rfl (hb hby d_encl_7)  ?_
  refine G_aloadN X1 hx (pc' := 9) rfl (hb hby d_encl_8) rfl rfl ?_
  obtain ⟨T2, X2, e2, st2⟩ := getF X1 hx hZ hown (host := "") (Or.inl (hw _ (List.mem_of_getElem? (i := 9) rfl))) Via.refl e1 f0_F_v0 (g := (mkF m 9 #[.val (.ref v0), .val (.int v1)] [(.ref v0), (.int ((v1 + b) - (1 : Int32)))])) rfl rfl (hb hby d_encl_9)
  refine Go.st st2 ?_
  show Go p e below s _ _ _ T2 (mkF m 12 #[.val (.ref v0), .val (.int v1)] [(.int b), (.int ((v1 + b) - (1 : Int32)))])
  refine G_idiv X2 hx (pc' := 13) rfl (hb hby d_encl_12) hb0 ?_
  refine G_aloadN X2 hx (pc' := 14) rfl (hb hby d_encl_13) rfl rfl ?_
  obtain ⟨T3, X3, e3, st3⟩ := getF X2 hx hZ hown (host := "") (Or.inl (hw _ (List.mem_of_getElem? (i := 9) rfl))) Via.refl e2 f0_F_v0 (g := (mkF m 14 #[.val (.ref v0), .val (.int v1)] [(.ref v0), (.int (((v1 + b) - (1 : Int32)) / b))])) rfl rfl (hb hby d_encl_14)
  refine Go.st st3 ?_
  show Go p e below s _ _ _ T3 (mkF m 17 #[.val (.ref v0), .val (.int v1)] [(.int b), (.int (((v1 + b) - (1 : Int32)) / b))])
  refine G_imul X3 hx (pc' := 18) rfl (hb hby d_encl_17)  ?_
  refine Go.fin X3 hlk (v := some (.int ((((v1 + b) - (1 : Int32)) / b) * b))) (fun h => by rw [Bd.returns] at h; cases h) (by decide) (by decide) ?_ (fun fs hr => retOut X3 hx Bd.returns rfl (Or.inl ⟨rfl, Or.inl rfl, _, rfl⟩) (hb hby d_encl_18) hr)
  show Q_encl Z v0 v1 b h0 n0 _ T3.heap _
  rw [e3]
  exact ⟨congrArg (fun z => some (Value.int z)) (by rw [f_encl]), N0, rfl⟩
theorem pd_0 : parseMethodDescriptor "(I)I" = some ⟨[.int], some .int⟩ := by decide +kernel
def f_law (v0 : Int32) (v1 : Int32) : Int32 := (if (v1 &&& (1 : Int32)) = (0 : Int32) then (if (2147483640 : Int32) < (v0 &&& (2147483647 : Int32)) then (1 : Int32) else (if ((f_encl (v0 &&& (2147483647 : Int32)) (8 : Int32)) &&& (7 : Int32)) = (0 : Int32) then (if (f_encl (v0 &&& (2147483647 : Int32)) (8 : Int32)) < (v0 &&& (2147483647 : Int32)) then (0 : Int32) else (if (7 : Int32) < ((f_encl (v0 &&& (2147483647 : Int32)) (8 : Int32)) - (v0 &&& (2147483647 : Int32))) then (0 : Int32) else (1 : Int32))) else (0 : Int32))) else (if (f_encl (v0 &&& (2147483647 : Int32)) (1 : Int32)) = (v0 &&& (2147483647 : Int32)) then (1 : Int32) else (0 : Int32)))
theorem ef_law (m : MethodId) (v0 : Int32) (v1 : Int32) : entryFrame m #[(.int v0), (.int v1)] maxLocals = mkF m 0 #[.val (.int v0), .val (.int v1), .unset, .unset, .unset] [] := by first | (simp [entryFrame, mkF, argsToLocals, Value.category, maxLocals]; done) | rfl
def Q_law (Z : State) (v0 : Int32) (v1 : Int32) (aD : Addr) (aA : Addr) (h0 : Heap) (n0 : Nat) (v : Option Value) (h : Heap) (L : List Loc) : Prop := v = some (.int (f_law v0 v1)) ∧ Fr n0 L
set_option maxRecDepth 65536 in
set_option maxHeartbeats 40000000 in
theorem rm_law (l : Launch) (Z : State) (a0 : Array Value) (hw : ∀ d ∈ tables_1, d.before a0 Z = true) (ws : List Jvm.Cond) (v0 : Int32) (v1 : Int32) (aD : Addr) (aA : Addr) (h0 : Heap) (n0 : Nat) (Z0 : n0 ≤ h0.size) (f0_S_managerie_usm_PrivProtocol : Sta Z h0 "managerie/usm/PrivProtocol" "DES" "Lmanagerie/usm/PrivProtocol;" (.ref aD)) (f1_S_managerie_usm_PrivProtocol : Sta Z h0 "managerie/usm/PrivProtocol" "AES" "Lmanagerie/usm/PrivProtocol;" (.ref aA)) (f2_E_aD : Exa Z h0 aD "managerie/usm/PrivProtocol$1") (f3_E_aA : Exa Z h0 aA "managerie/usm/PrivProtocol$2") (f4_F_aD : Fld Z h0 aD "managerie/usm/PrivProtocol" "block" "I" (.int (8 : Int32))) (f5_F_aA : Fld Z h0 aA "managerie/usm/PrivProtocol" "block" "I" (.int (1 : Int32))) :
    MetFree l x (head1 (Jvm.Cond.code x code maxLocals ret :: ws) room_1) (fun a U => a = #[(.int v0), (.int v1)] ∧ Z.Warmed39 U.vm ∧ U.heap = h0) (fun _ _ _ _ _ => True) (fun _ U o U' => ∃ v L, o = .returned v ∧ Q_law Z v0 v1 aD aA h0 n0 v U'.heap L ∧ FrameEnd U o U' L room_1.cells room_1.slots) := by
  refine MetFree.of_bodySF (plainFor_of_name (by first | (simp [plainName, overriddenIn]; done) | decide +kernel)) hisR ?_
  intro p e s m args below meth c s₁ Bd hml0 hP hK
  obtain ⟨rfl, hZ, hh⟩ := hP
  have hx := Bd.exec
  have hby := Bd.bytes
  have hml : c.maxLocals = 5 := hml0
  have hown : s.vm.findClass "managerie/usm/PrivProtocolEncryptedLengthPinLaw" = some m.cls := findClass_of_methodNamed Bd.named
  have hnm := (name_of_methodNamed Bd.named Bd.method).1
  have hlk : meth.locks = false := Bd.notSynchronized
  have X0 : Stand p l e room_1 s m #[(.int v0), (.int v1)] below meth c s₁ [] 0 0 := Stand.of_body Bd
  have e0 : s₁.heap = h0 := by rw [← hh, Bd.state]; rfl
  have N0 := Fr.nil n0
  refine Go.enter (Q := Q_law Z v0 v1 aD aA h0 n0) (C := room_1.cells) (N := room_1.slots) (ef_law m v0 v1) ?_
  show Go p e below s _ _ _ s₁ (mkF m 0 #[.val (.int v0), .val (.int v1), .unset, .unset, .unset] [])
  refine G_iloadN X0 hx (pc' := 1) rfl (hb hby at_0) rfl ?_
  refine G_ldc X0 hx (pc' := 3) rfl hown (mvT hZ (hw _ (List.mem_of_getElem? (i := 0) rfl))) (hb hby at_1) ?_
  refine G_iand X0 hx (pc' := 4) rfl (hb hby at_3)  ?_
  refine G_istoreN X0 hx (pc' := 5) rfl (hb hby at_4) (L' := #[.val (.int v0), .val (.int v1), .val (.int (v0 &&& (2147483647 : Int32))), .unset, .unset]) rfl ?_
  refine G_iloadN X0 hx (pc' := 6) rfl (hb hby at_5) rfl ?_
  refine G_iconst X0 hx (pc' := 7) rfl (hb hby at_6) (z := (1 : Int32)) rfl ?_
  refine G_iand X0 hx (pc' := 8) rfl (hb hby at_7)  ?_
  by_cases hc8_1 : (v1 &&& (1 : Int32)) = (0 : Int32)
  · refine G_ifNo X0 hx (pc' := 11) rfl (hb hby at_8) ((if0 _ _).trans (teq hc8_1).2) ?_
    refine G_iconst X0 hx (pc' := 12) rfl (hb hby at_11) (z := (1 : Int32)) rfl ?_
    refine G_goto X0 hx (pc' := 16) (hb hby at_12)  (by decide) (by decide) ?_
    refine G_istoreN X0 hx (pc' := 17) rfl (hb hby at_16) (L' := #[.val (.int v0), .val (.int v1), .val (.int (v0 &&& (2147483647 : Int32))), .val (.int (1 : Int32)), .unset]) rfl ?_
    refine G_iloadN X0 hx (pc' := 18) rfl (hb hby at_17) rfl ?_
    refine G_ifNo X0 hx (pc' := 21) rfl (hb hby at_18) ((if0 _ _).trans (feq (by decide : ¬ ((1 : Int32) = (0 : Int32)))).1) ?_
    refine G_iloadN X0 hx (pc' := 22) rfl (hb hby at_21) rfl ?_
    refine G_ldc X0 hx (pc' := 24) rfl hown (mvT hZ (hw _ (List.mem_of_getElem? (i := 11) rfl))) (hb hby at_22) ?_
    by_cases hc24_2 : (2147483640 : Int32) < (v0 &&& (2147483647 : Int32))
    · refine G_icmpNo X0 hx (pc' := 27) rfl (hb hby at_24) (tlt hc24_2).2.2.2 ?_
      refine G_iconst X0 hx (pc' := 28) rfl (hb hby at_27) (z := (1 : Int32)) rfl ?_
      refine Go.fin X0 hlk (v := some (.int (1 : Int32))) (fun h => by rw [Bd.returns] at h; cases h) (by decide) (by decide) ?_ (fun fs hr => retN X0 hx (t := .boolean) Bd.returns (by simp) (hb hby at_28) hr)
      show Q_law Z v0 v1 aD aA h0 n0 _ s₁.heap _
      rw [e0]
      exact ⟨congrArg (fun z => some (Value.int z)) (by rw [f_law]; rw [if_pos hc8_1, if_pos hc24_2]), N0⟩
    · refine G_icmpYes X0 hx (pc' := 29) (hb hby at_24) (flt hc24_2).2.2.2 (by decide) (by decide) ?_
      obtain ⟨T4, X4, e4, st4⟩ := getS2 X0 hx hZ hown (host := "") (Or.inl (hw _ (List.mem_of_getElem? (i := 12) rfl))) Via.refl e0 f0_S_managerie_usm_PrivProtocol (g := (mkF m 29 #[.val (.int v0), .val (.int v1), .val (.int (v0 &&& (2147483647 : Int32))), .val (.int (1 : Int32)), .unset] [])) rfl (hb hby at_29)
      refine Go.st st4 ?_
      show Go p e below s _ _ _ T4 (mkF m 32 #[.val (.int v0), .val (.int v1), .val (.int (v0 &&& (2147483647 : Int32))), .val (.int (1 : Int32)), .unset] [(.ref aD)])
      refine G_iloadN X4 hx (pc' := 33) rfl (hb hby at_32) rfl ?_
      obtain ⟨cq5, kq5, q5a, q5b, q5c⟩ := isOf hZ e4 f2_E_aD
      obtain ⟨_, _, ⟨T5, L5, k5, n5⟩, -, X5, ⟨Lc5, hQ5, l5, y5, z5⟩, st5⟩ := X4.virtualBack hx (y := (⟨"managerie/usm/PrivProtocol", "encryptedLength", "(I)I"⟩ : MethodName)) (z := (⟨"managerie/usm/PrivProtocol", "encryptedLength", "(I)I"⟩ : MethodName)) hown (mvT hZ (hw _ (List.mem_of_getElem? (i := 4) rfl))) (mvT hZ (hw _ (List.mem_of_getElem? (i := 5) rfl))) (notFace_of_selects (args := #[]) (mvT hZ (hw _ (List.mem_of_getElem? (i := 14) rfl)))) (mvT hZ (hw _ (List.mem_of_getElem? (i := 14) rfl))) (mvT hZ (hw _ (List.mem_of_getElem? (i := 6) rfl))) (by decide) (backOf (W := 0) (rm_encl l Z a0 hw [] aD (v0 &&& (2147483647 : Int32)) (8 : Int32) h0 n0 Z0 f4_F_aD (by decide)) hZ (hw _ (List.mem_of_getElem? (i := 8) rfl)) (hw _ (List.mem_of_getElem? (i := 2) rfl)) (by decide) (by decide)) q5a q5c (g := (mkF m 33 #[.val (.int v0), .val (.int v1), .val (.int (v0 &&& (2147483647 : Int32))), .val (.int (1 : Int32)), .unset] [(.int (v0 &&& (2147483647 : Int32))), (.ref aD)])) rfl (by rw [hml]; rfl) (Steps.refl _) (argsL := [(.int (v0 &&& (2147483647 : Int32)))]) (rest := []) (lenOf pd_0 rfl) rfl (by show 2 * 0 + _ ≤ _; exact Nat.le_of_eq rfl) (hb hby at_33) (fun _ _ => ⟨rfl, e4, (by decide : 0 + 0 ≤ _), (by decide : 0 + 0 ≤ _)⟩)
      dsimp only [Pt.U, Pt.locs, Pt.cells, Pt.slots] at X5 l5 y5 z5 st5 hQ5
      subst l5 y5 z5
      obtain ⟨rfl, N5q, e5⟩ := hQ5
      have N5 := Fr.app N0 N5q
      refine Go.st (fun _ k => st5.trans k) ?_
      show Go p e below s _ _ _ T5 (mkF m 36 #[.val (.int v0), .val (.int v1), .val (.int (v0 &&& (2147483647 : Int32))), .val (.int (1 : Int32)), .unset] [(.int (f_encl (v0 &&& (2147483647 : Int32)) (8 : Int32)))])
      refine G_istore X5 hx (pc' := 38) rfl (hb hby at_36) (L' := #[.val (.int v0), .val (.int v1), .val (.int (v0 &&& (2147483647 : Int32))), .val (.int (1 : Int32)), .val (.int (f_encl (v0 &&& (2147483647 : Int32)) (8 : Int32)))]) rfl ?_
      refine G_iload X5 hx (pc' := 40) rfl (hb hby at_38) rfl ?_
      refine G_bipush X5 hx (pc' := 42) rfl (hb hby at_40) (z := (7 : Int32)) rfl ?_
      refine G_iand X5 hx (pc' := 43) rfl (hb hby at_42)  ?_
      by_cases hc43_3 : ((f_encl (v0 &&& (2147483647 : Int32)) (8 : Int32)) &&& (7 : Int32)) = (0 : Int32)
      · refine G_ifNo X5 hx (pc' := 46) rfl (hb hby at_43) ((if0 _ _).trans (teq hc43_3).2) ?_
        refine G_iload X5 hx (pc' := 48) rfl (hb hby at_46) rfl ?_
        refine G_iloadN X5 hx (pc' := 49) rfl (hb hby at_48) rfl ?_
        by_cases hc49_4 : (f_encl (v0 &&& (2147483647 : Int32)) (8 : Int32)) < (v0 &&& (2147483647 : Int32))
        · refine G_icmpYes X5 hx (pc' := 65) (hb hby at_49) (tlt hc49_4).1 (by decide) (by decide) ?_
          refine G_iconst X5 hx (pc' := 66) rfl (hb hby at_65) (z := (0 : Int32)) rfl ?_
          refine Go.fin X5 hlk (v := some (.int (0 : Int32))) (fun h => by rw [Bd.returns] at h; cases h) (by decide) (by decide) ?_ (fun fs hr => retN X5 hx (t := .boolean) Bd.returns (by simp) (hb hby at_66) hr)
          show Q_law Z v0 v1 aD aA h0 n0 _ T5.heap _
          rw [e5]
          exact ⟨congrArg (fun z => some (Value.int z)) (by rw [f_law]; rw [if_pos hc8_1, if_neg hc24_2, if_pos hc43_3, if_pos hc49_4]), N5⟩
        · refine G_icmpNo X5 hx (pc' := 52) rfl (hb hby at_49) (flt hc49_4).1 ?_
          refine G_iload X5 hx (pc' := 54) rfl (hb hby at_52) rfl ?_
          refine G_iloadN X5 hx (pc' := 55) rfl (hb hby at_54) rfl ?_
          refine G_isub X5 hx (pc' := 56) rfl (hb hby at_55)  ?_
          refine G_bipush X5 hx (pc' := 58) rfl (hb hby at_56) (z := (7 : Int32)) rfl ?_
          by_cases hc58_5 : (7 : Int32) < ((f_encl (v0 &&& (2147483647 : Int32)) (8 : Int32)) - (v0 &&& (2147483647 : Int32)))
          · refine G_icmpYes X5 hx (pc' := 65) (hb hby at_58) (tlt hc58_5).2.2.1 (by decide) (by decide) ?_
            refine G_iconst X5 hx (pc' := 66) rfl (hb hby at_65) (z := (0 : Int32)) rfl ?_
            refine Go.fin X5 hlk (v := some (.int (0 : Int32))) (fun h => by rw [Bd.returns] at h; cases h) (by decide) (by decide) ?_ (fun fs hr => retN X5 hx (t := .boolean) Bd.returns (by simp) (hb hby at_66) hr)
            show Q_law Z v0 v1 aD aA h0 n0 _ T5.heap _
            rw [e5]
            exact ⟨congrArg (fun z => some (Value.int z)) (by rw [f_law]; rw [if_pos hc8_1, if_neg hc24_2, if_pos hc43_3, if_neg hc49_4, if_pos hc58_5]), N5⟩
          · refine G_icmpNo X5 hx (pc' := 61) rfl (hb hby at_58) (flt hc58_5).2.2.1 ?_
            refine G_iconst X5 hx (pc' := 62) rfl (hb hby at_61) (z := (1 : Int32)) rfl ?_
            refine G_goto X5 hx (pc' := 66) (hb hby at_62)  (by decide) (by decide) ?_
            refine Go.fin X5 hlk (v := some (.int (1 : Int32))) (fun h => by rw [Bd.returns] at h; cases h) (by decide) (by decide) ?_ (fun fs hr => retN X5 hx (t := .boolean) Bd.returns (by simp) (hb hby at_66) hr)
            show Q_law Z v0 v1 aD aA h0 n0 _ T5.heap _
            rw [e5]
            exact ⟨congrArg (fun z => some (Value.int z)) (by rw [f_law]; rw [if_pos hc8_1, if_neg hc24_2, if_pos hc43_3, if_neg hc49_4, if_neg hc58_5]), N5⟩
      · refine G_ifYes X5 hx (pc' := 65) (hb hby at_43) ((if0 _ _).trans (feq hc43_3).2) (by decide) (by decide) ?_
        refine G_iconst X5 hx (pc' := 66) rfl (hb hby at_65) (z := (0 : Int32)) rfl ?_
        refine Go.fin X5 hlk (v := some (.int (0 : Int32))) (fun h => by rw [Bd.returns] at h; cases h) (by decide) (by decide) ?_ (fun fs hr => retN X5 hx (t := .boolean) Bd.returns (by simp) (hb hby at_66) hr)
        show Q_law Z v0 v1 aD aA h0 n0 _ T5.heap _
        rw [e5]
        exact ⟨congrArg (fun z => some (Value.int z)) (by rw [f_law]; rw [if_pos hc8_1, if_neg hc24_2, if_neg hc43_3]), N5⟩
  · refine G_ifYes X0 hx (pc' := 15) (hb hby at_8) ((if0 _ _).trans (feq hc8_1).2) (by decide) (by decide) ?_
    refine G_iconst X0 hx (pc' := 16) rfl (hb hby at_15) (z := (0 : Int32)) rfl ?_
    refine G_istoreN X0 hx (pc' := 17) rfl (hb hby at_16) (L' := #[.val (.int v0), .val (.int v1), .val (.int (v0 &&& (2147483647 : Int32))), .val (.int (0 : Int32)), .unset]) rfl ?_
    refine G_iloadN X0 hx (pc' := 18) rfl (hb hby at_17) rfl ?_
    refine G_ifYes X0 hx (pc' := 67) (hb hby at_18) ((if0 _ _).trans (teq (by decide : (0 : Int32) = (0 : Int32))).1) (by decide) (by decide) ?_
    obtain ⟨T6, X6, e6, st6⟩ := getS2 X0 hx hZ hown (host := "") (Or.inl (hw _ (List.mem_of_getElem? (i := 1) rfl))) Via.refl e0 f1_S_managerie_usm_PrivProtocol (g := (mkF m 67 #[.val (.int v0), .val (.int v1), .val (.int (v0 &&& (2147483647 : Int32))), .val (.int (0 : Int32)), .unset] [])) rfl (hb hby at_67)
    refine Go.st st6 ?_
    show Go p e below s _ _ _ T6 (mkF m 70 #[.val (.int v0), .val (.int v1), .val (.int (v0 &&& (2147483647 : Int32))), .val (.int (0 : Int32)), .unset] [(.ref aA)])
    refine G_iloadN X6 hx (pc' := 71) rfl (hb hby at_70) rfl ?_
    obtain ⟨cq7, kq7, q7a, q7b, q7c⟩ := isOf hZ e6 f3_E_aA
    obtain ⟨_, _, ⟨T7, L7, k7, n7⟩, -, X7, ⟨Lc7, hQ7, l7, y7, z7⟩, st7⟩ := X6.virtualBack hx (y := (⟨"managerie/usm/PrivProtocol", "encryptedLength", "(I)I"⟩ : MethodName)) (z := (⟨"managerie/usm/PrivProtocol", "encryptedLength", "(I)I"⟩ : MethodName)) hown (mvT hZ (hw _ (List.mem_of_getElem? (i := 4) rfl))) (mvT hZ (hw _ (List.mem_of_getElem? (i := 5) rfl))) (notFace_of_selects (args := #[]) (mvT hZ (hw _ (List.mem_of_getElem? (i := 7) rfl)))) (mvT hZ (hw _ (List.mem_of_getElem? (i := 7) rfl))) (mvT hZ (hw _ (List.mem_of_getElem? (i := 6) rfl))) (by decide) (backOf (W := 0) (rm_encl l Z a0 hw [] aA (v0 &&& (2147483647 : Int32)) (1 : Int32) h0 n0 Z0 f5_F_aA (by decide)) hZ (hw _ (List.mem_of_getElem? (i := 8) rfl)) (hw _ (List.mem_of_getElem? (i := 2) rfl)) (by decide) (by decide)) q7a q7c (g := (mkF m 71 #[.val (.int v0), .val (.int v1), .val (.int (v0 &&& (2147483647 : Int32))), .val (.int (0 : Int32)), .unset] [(.int (v0 &&& (2147483647 : Int32))), (.ref aA)])) rfl (by rw [hml]; rfl) (Steps.refl _) (argsL := [(.int (v0 &&& (2147483647 : Int32)))]) (rest := []) (lenOf pd_0 rfl) rfl (by show 2 * 0 + _ ≤ _; exact Nat.le_of_eq rfl) (hb hby at_71) (fun _ _ => ⟨rfl, e6, (by decide : 0 + 0 ≤ _), (by decide : 0 + 0 ≤ _)⟩)
    dsimp only [Pt.U, Pt.locs, Pt.cells, Pt.slots] at X7 l7 y7 z7 st7 hQ7
    subst l7 y7 z7
    obtain ⟨rfl, N7q, e7⟩ := hQ7
    have N7 := Fr.app N0 N7q
    refine Go.st (fun _ k => st7.trans k) ?_
    show Go p e below s _ _ _ T7 (mkF m 74 #[.val (.int v0), .val (.int v1), .val (.int (v0 &&& (2147483647 : Int32))), .val (.int (0 : Int32)), .unset] [(.int (f_encl (v0 &&& (2147483647 : Int32)) (1 : Int32)))])
    refine G_istore X7 hx (pc' := 76) rfl (hb hby at_74) (L' := #[.val (.int v0), .val (.int v1), .val (.int (v0 &&& (2147483647 : Int32))), .val (.int (0 : Int32)), .val (.int (f_encl (v0 &&& (2147483647 : Int32)) (1 : Int32)))]) rfl ?_
    refine G_iload X7 hx (pc' := 78) rfl (hb hby at_76) rfl ?_
    refine G_iloadN X7 hx (pc' := 79) rfl (hb hby at_78) rfl ?_
    by_cases hc79_6 : (f_encl (v0 &&& (2147483647 : Int32)) (1 : Int32)) = (v0 &&& (2147483647 : Int32))
    · refine G_icmpNo X7 hx (pc' := 82) rfl (hb hby at_79) (teq hc79_6).2 ?_
      refine G_iconst X7 hx (pc' := 83) rfl (hb hby at_82) (z := (1 : Int32)) rfl ?_
      refine G_goto X7 hx (pc' := 87) (hb hby at_83)  (by decide) (by decide) ?_
      refine Go.fin X7 hlk (v := some (.int (1 : Int32))) (fun h => by rw [Bd.returns] at h; cases h) (by decide) (by decide) ?_ (fun fs hr => retN X7 hx (t := .boolean) Bd.returns (by simp) (hb hby at_87) hr)
      show Q_law Z v0 v1 aD aA h0 n0 _ T7.heap _
      rw [e7]
      exact ⟨congrArg (fun z => some (Value.int z)) (by rw [f_law]; rw [if_neg hc8_1, if_pos hc79_6]), N7⟩
    · refine G_icmpYes X7 hx (pc' := 86) (hb hby at_79) (feq hc79_6).2 (by decide) (by decide) ?_
      refine G_iconst X7 hx (pc' := 87) rfl (hb hby at_86) (z := (0 : Int32)) rfl ?_
      refine Go.fin X7 hlk (v := some (.int (0 : Int32))) (fun h => by rw [Bd.returns] at h; cases h) (by decide) (by decide) ?_ (fun fs hr => retN X7 hx (t := .boolean) Bd.returns (by simp) (hb hby at_87) hr)
      show Q_law Z v0 v1 aD aA h0 n0 _ T7.heap _
      rw [e7]
      exact ⟨congrArg (fun z => some (Value.int z)) (by rw [f_law]; rw [if_neg hc8_1, if_neg hc79_6]), N7⟩
theorem own_enc (x b : Int32) : f_encl x b = (((x + b) - (1 : Int32)) / b) * b := rfl
theorem own_des {x : Int32} (h0 : 0 ≤ x.toInt) (h1 : ¬ (2147483640 : Int32) < x) : (f_encl x 8).toInt = (x.toInt + 7) / 8 * 8 := by
  rw [own_enc]
  rw [Int32.lt_iff_toInt_lt] at h1
  have l8 : (8 : Int32).toInt = 8 := by decide
  have l1 : (1 : Int32).toInt = 1 := by decide
  have lm : (2147483640 : Int32).toInt = 2147483640 := by decide
  have e1 := c_iadd x 8
  have e2 := c_isub (x + 8) 1
  have e3 := c_idiv (x + 8 - 1) 8 8 (by decide) (by decide)
  have e4 := c_imul ((x + 8 - 1) / 8) 8
  have r1 := rng32 (x + 8)
  have r2 := rng32 (x + 8 - 1)
  have r4 := rng32 ((x + 8 - 1) / 8 * 8)
  rw [l8] at e1 e4
  rw [l1] at e2
  rw [lm] at h1
  have q : (x + 8 - 1).toInt = x.toInt + 7 := by omega
  have e5 := e3.1 (by omega)
  rw [q] at e5
  omega
theorem own_aes (x : Int32) : f_encl x 1 = x := by
  rw [own_enc]
  apply Int32.toInt_inj.mp
  have l1 : (1 : Int32).toInt = 1 := by decide
  have q : x + 1 - 1 = x := by
    apply Int32.toInt_inj.mp
    have e1 := c_iadd x 1
    have e2 := c_isub (x + 1) 1
    have r1 := rng32 (x + 1)
    have r2 := rng32 (x + 1 - 1)
    have r0 := rng32 x
    rw [l1] at e1 e2
    omega
  rw [q]
  have e3 := c_idiv x 1 1 (by decide) (by decide)
  have e4 := c_imul (x / 1) 1
  have r4 := rng32 (x / 1 * 1)
  have r0 := rng32 x
  rw [l1] at e4
  rcases Int.lt_or_le x.toInt 0 with h | h
  · have := e3.2 h; omega
  · have := e3.1 h; omega
theorem own_mask0 (x : Int32) : 0 ≤ (x &&& (2147483647 : Int32)).toInt := by
  rw [c_mask x 2147483647 31 (by decide) (by decide)]; omega
theorem own_law (a b : Int32) : f_law a b = 1 := by
  unfold f_law
  have h0 := own_mask0 a
  generalize (a &&& (2147483647 : Int32)) = x at *
  rw [own_aes]
  by_cases hb : (b &&& 1) = 0
  · rw [if_pos hb]
    by_cases h1 : (2147483640 : Int32) < x
    · rw [if_pos h1]
    · rw [if_neg h1]
      have e := own_des h0 h1
      generalize f_encl x 8 = y at *
      have m := c_mask y 7 3 (by decide) (by decide)
      have s := c_isub y x
      have rs := rng32 (y - x)
      have rx := rng32 x
      have ry := rng32 y
      have l7 : (7 : Int32).toInt = 7 := by decide
      have g1 : (y &&& 7) = 0 := Int32.toInt_inj.mp (by rw [m]; show _ = (0 : Int); omega)
      have g2 : ¬ y < x := by rw [Int32.lt_iff_toInt_lt]; omega
      have g3 : ¬ (7 : Int32) < y - x := by rw [Int32.lt_iff_toInt_lt, l7]; omega
      rw [if_pos g1, if_neg g2, if_neg g3]
  · rw [if_neg hb]
    simp

set_option maxRecDepth 65536 in
set_option maxHeartbeats 40000000 in
theorem comes_1 {Post : Tables → Env → Array Value → State → Outcome → State → Prop} (hpost : ∀ tb e args s v u, (limb_1_1.after args s (.returned v) u = true ∧ limb_1_2.after args s (.returned v) u = true ∧ True) → FrameEnd s (.returned v) u (Jvm.fieldLocs frame_1_writes args s ++ Jvm.arrayLocs frame_1_arrays args s ++ Jvm.staticLocs frame_1_statics s) 0 0 → Post tb e args s (.returned v) u) :
    ArmFor flags0 classFile x code maxLocals ret World_1 tables_1 room_1 Calls_1 rest_1 Pre_1 Post := by
  intro l hfl _ _ p e ha hc hk s m args below hf hA hF happ hP
  obtain ⟨hcalls, hrest, hpre⟩ := hP
  obtain ⟨-, -, -, hnamed, -, -, -, hat⟩ := (Spec.applies_iff hf).mp happ
  obtain ⟨hg, hn⟩ := and_e (Cond.before_iff.mp (show (Jvm.Cond.and given_1 narrow_1).before args s = true from hpre))
  obtain ⟨hcnt, hg0⟩ := and_e hg
  obtain ⟨ha0, hg1⟩ := and_e hg0
  have ha1 := hg1
  obtain ⟨w0, w1, rfl⟩ : ∃ w0 w1 : Value, args = #[w0, w1] := by
    have hs : args.size = 2 := by simpa [Cond.value, given_1] using hcnt
    obtain ⟨L⟩ := args
    match L, hs with
    | [w0, w1], _ => exact ⟨w0, w1, rfl⟩
  have hw := fun d (hd : d ∈ tables_1) => atoms_spec (ws := Jvm.Cond.code x code maxLocals ret :: tables_1) hat d (List.mem_cons_of_mem _ hd)
  have hfit : Fit s := fun {y c} hc i hi => by
    obtain ⟨ha, rfl⟩ := Array.getElem?_eq_some_iff.mp hc
    have q := List.all_eq_true.mp ((Array.all_eq_true_iff_forall_mem.mp hF) _ (Array.getElem_mem ha)) i (List.mem_range.mpr hi)
    simpa [Array.getElem?_eq_getElem hi] using q
  obtain ⟨i0, ei0⟩ := is_v ha0
  obtain rfl : w0 = (.int i0) := Option.some.inj ei0
  obtain ⟨i1, ei1⟩ := is_v ha1
  obtain rfl : w1 = (.int i1) := Option.some.inj ei1
  obtain ⟨n0, hn1⟩ := and_e hn
  obtain ⟨n1, hn2⟩ := and_e hn1
  obtain ⟨n2, n3⟩ := and_e hn2
  obtain ⟨aA, evA⟩ := own_ref n0
  obtain ⟨aD, evD⟩ := own_ref n2
  have SA := Sta.start evA (Or.inr ⟨(hw _ (List.mem_of_getElem? (i := 2) rfl)), (hw _ (List.mem_of_getElem? (i := 3) rfl))⟩)
  have SD := Sta.start evD (Or.inr ⟨(hw _ (List.mem_of_getElem? (i := 2) rfl)), (hw _ (List.mem_of_getElem? (i := 13) rfl))⟩)
  obtain ⟨n, o, h1, h2, h3, v, L, rfl, ⟨hv, N⟩, hq⟩ := rm_law l s _ hw tables_1 i0 i1 aD aA s.heap s.heap.size (Nat.le_refl _) SD SA (Exa.start evD n2) (Exa.start evA n0) (own_fldI evD n3) (own_fldI evA n1) p e ha hc hk s m _ below hf ((Spec.applies_iff_loose hf).mp happ).1 ⟨rfl, State.Warmed39.refl s, rfl⟩ trivial
  rw [own_law i0 i1] at hv
  subst hv
  refine ⟨n, _, h1, h2, h3, hpost _ _ _ _ _ _ ⟨Cond.after_iff.mpr rfl, Cond.after_iff.mpr (eq_i res_at (Term.int_eval (1)) rfl), trivial⟩ ⟨hq.1, hq.2.1, (hq.2.2.sift fun y hy => Or.inr (N y hy)).mono (by decide) (by decide)⟩⟩
theorem main_1_1 : Claimed_1_1 := comes_1 fun _ _ _ _ _ _ h hF => ⟨h.1, hF⟩
theorem main_1_2 : Claimed_1_2 := comes_1 fun _ _ _ _ _ _ h hF => ⟨h.2.1, hF⟩
end Jvm.Pilot.@@N@@
namespace Jvm.Pilot.@@N@@
open Jvm Jvm.ClassFile Sem Op Lib Jvm.Free Jvm.Stand Jvm.Pilot.@@N@@.Jvm.D
/-! MADE BY PROGRAM (witnessworld.py) out of the Statement's table words and the real class files: 14 classes; the members and pool entries that the words name. The judged class is class 1, her method 1. -/
namespace start1
open Jvm.ClassFile
def u (s : String) : CpInfo := .utf8 (stringToUtf16 s)
/-- a pool by its gaps: so many unusable entries, then the entry; so many at the end -/
def gap : Nat → List CpInfo → List CpInfo
  | 0, r => r
  | n + 1, r => .unusable :: gap n r
def poolList (es : List (Nat × CpInfo)) (last : Nat) : List CpInfo := es.foldr (fun e r => gap e.1 (e.2 :: r)) (gap last [])
def pool (es : List (Nat × CpInfo)) (last : Nat) : Array CpInfo := ⟨poolList es last⟩
def fileOf (pool : Array CpInfo) (this : Nat) (attrs : Array Attribute := #[]) (ms : Array MethodInfo := #[]) (fl : Nat := 33) (sup : Nat := 0) (ifs : Array Nat := #[]) (fds : Array FieldInfo := #[]) : ClassFile where
  minorVersion := 0
  majorVersion := 65
  constantPool := pool
  accessFlags := fl
  thisClass := this
  superClass := sup
  interfaces := ifs
  fields := fds
  methods := ms
  attributes := attrs
def plain (name : String) (sup : Option ClassId) : Class where
  name := name
  kind := .ordinary
  loader := none
  accessFlags := 33
  super := sup
  interfaces := #[]
  cf := none
  fields := #[]
  methods := #[]
  instanceTypes := #[]
  staticTypes := #[]
  resolved := #[]
  callSites := []
  init := .initialized
  statics := none
  mirror := none

def pool0 : Array CpInfo := pool [(5, u "<init>"), (0, u "()V"), (1, .class_ 10), (1, u "java/lang/Object")] 113

def k0m0 : Method := { name := "<init>", desc := "()V", sig := { parameters := [], returnType := none }, accessFlags := 1, code := none }
/-- java/lang/Object -/
def k0 : Class := { plain "java/lang/Object" none with
  accessFlags := 33
  interfaces := #[]
  cf := some (fileOf pool0 8 #[] #[{ accessFlags := 1, nameIndex := 5, descriptorIndex := 6, attributes := #[] }] 33 0 #[] #[])
  fields := #[]
  methods := #[k0m0]
  instanceTypes := #[]
  staticTypes := #[]
  resolved := Array.replicate 124 none
  statics := none }

def pool1 : Array CpInfo := pool [(2, .class_ 4), (1, u "java/lang/Object"), (0, u "<init>"), (0, u "()V"), (0, .integer 2147483647), (2, .integer 2147483640), (0, .fieldref 12 13), (0, .class_ 14), (0, .nameAndType 15 16), (0, u "managerie/usm/PrivProtocol"), (0, u "DES"), (0, u "Lmanagerie/usm/PrivProtocol;"), (0, .methodref 12 18), (0, .nameAndType 19 20), (0, u "encryptedLength"), (0, u "(I)I"), (0, .fieldref 12 22), (0, .nameAndType 23 16), (0, u "AES"), (0, .class_ 25), (0, u "managerie/usm/PrivProtocolEncryptedLengthPinLaw"), (2, u "law"), (0, u "(II)Z")] 3

def k1m0 : Method := { name := "<init>", desc := "()V", sig := { parameters := [], returnType := none }, accessFlags := 1, code := none }
def k1c1 : Code := { maxStack := 2, maxLocals := 5, code := code, exceptionTable := #[], attributes := #[] }
def k1m1 : Method := { name := "law", desc := "(II)Z", sig := { parameters := [.int, .int], returnType := some .boolean }, accessFlags := 9, code := some k1c1 }
/-- managerie/usm/PrivProtocolEncryptedLengthPinLaw -/
def k1 : Class := { plain "managerie/usm/PrivProtocolEncryptedLengthPinLaw" (some 0) with
  accessFlags := 49
  interfaces := #[]
  cf := some (fileOf pool1 24 #[] #[{ accessFlags := 1, nameIndex := 5, descriptorIndex := 6, attributes := #[] }, { accessFlags := 9, nameIndex := 28, descriptorIndex := 29, attributes := #[] }] 49 2 #[] #[])
  fields := #[]
  methods := #[k1m0, k1m1]
  instanceTypes := #[]
  staticTypes := #[]
  resolved := Array.replicate 33 none
  statics := none }

def pool2 : Array CpInfo := pool [(1, .class_ 2), (0, u "java/lang/constant/Constable"), (0, .class_ 4), (0, u "java/lang/Object")] 6

/-- java/lang/constant/Constable -/
def k2 : Class := { plain "java/lang/constant/Constable" (some 0) with
  accessFlags := 1537
  interfaces := #[]
  cf := some (fileOf pool2 1 #[] #[] 1537 3 #[] #[])
  fields := #[]
  methods := #[]
  instanceTypes := #[]
  staticTypes := #[]
  resolved := Array.replicate 11 none
  statics := none }

def pool3 : Array CpInfo := pool [(1, .class_ 2), (0, u "java/lang/Comparable"), (0, .class_ 4), (0, u "java/lang/Object")] 7

/-- java/lang/Comparable -/
def k3 : Class := { plain "java/lang/Comparable" (some 0) with
  accessFlags := 1537
  interfaces := #[]
  cf := some (fileOf pool3 1 #[] #[] 1537 3 #[] #[])
  fields := #[]
  methods := #[]
  instanceTypes := #[]
  staticTypes := #[]
  resolved := Array.replicate 12 none
  statics := none }

def pool4 : Array CpInfo := pool [(1, .class_ 2), (0, u "java/io/Serializable"), (0, .class_ 4), (0, u "java/lang/Object")] 2

/-- java/io/Serializable -/
def k4 : Class := { plain "java/io/Serializable" (some 0) with
  accessFlags := 1537
  interfaces := #[]
  cf := some (fileOf pool4 1 #[] #[] 1537 3 #[] #[])
  fields := #[]
  methods := #[]
  instanceTypes := #[]
  staticTypes := #[]
  resolved := Array.replicate 7 none
  statics := none }

def pool5 : Array CpInfo := pool [(2, .class_ 4), (1, u "java/lang/Enum"), (0, u "name"), (0, u "Ljava/lang/String;"), (2, u "ordinal"), (0, u "I"), (1, .class_ 14), (1, u "java/lang/Object"), (4, u "hash"), (86, .class_ 108), (1, u "java/lang/Enum$EnumDesc"), (2, .class_ 112), (0, u "java/lang/constant/Constable"), (0, .class_ 114), (0, u "java/lang/Comparable"), (0, .class_ 116), (0, u "java/io/Serializable")] 87

/-- java/lang/Enum -/
def k5 : Class := { plain "java/lang/Enum" (some 0) with
  accessFlags := 1057
  interfaces := #[2, 3, 4]
  cf := some (fileOf pool5 2 #[.nestMembers #[106]] #[] 1057 12 #[111, 113, 115] #[{ accessFlags := 18, nameIndex := 5, descriptorIndex := 6, attributes := #[] }, { accessFlags := 18, nameIndex := 9, descriptorIndex := 10, attributes := #[] }, { accessFlags := 2, nameIndex := 19, descriptorIndex := 10, attributes := #[] }])
  fields := #[{ name := "name", type := (.object "java/lang/String"), accessFlags := 18, slot := 0, constantValue := 0 }, { name := "ordinal", type := .int, accessFlags := 18, slot := 1, constantValue := 0 }, { name := "hash", type := .int, accessFlags := 2, slot := 2, constantValue := 0 }]
  methods := #[]
  instanceTypes := #[(.object "java/lang/String"), .int, .int]
  staticTypes := #[]
  resolved := Array.replicate 204 none
  statics := none }

def pool6 : Array CpInfo := pool [(1, .class_ 2), (0, u "managerie/usm/PrivProtocol"), (2, u "DES"), (0, u "Lmanagerie/usm/PrivProtocol;"), (2, u "AES"), (2, u "$VALUES"), (0, u "[Lmanagerie/usm/PrivProtocol;"), (6, .class_ 22), (1, u "java/lang/Enum"), (8, u "algorithm"), (0, u "Ljava/lang/String;"), (2, u "transformation"), (2, u "keyOctets"), (0, u "I"), (0, .fieldref 1 41), (0, .nameAndType 42 39), (0, u "block"), (2, u "encryptedLength"), (0, u "(I)I"), (67, .class_ 115), (0, u "managerie/usm/PrivProtocol$1"), (6, .class_ 123), (0, u "managerie/usm/PrivProtocol$2"), (8, u "SALT_OCTETS")] 40

def k6c0 : Code := { maxStack := 2, maxLocals := 2, code := prog_100_method_4_code, exceptionTable := #[], attributes := #[] }
def k6m0 : Method := { name := "encryptedLength", desc := "(I)I", sig := { parameters := [.int], returnType := some .int }, accessFlags := 1, code := some k6c0 }
/-- managerie/usm/PrivProtocol -/
def k6 : Class := { plain "managerie/usm/PrivProtocol" (some 5) with
  accessFlags := 17441
  interfaces := #[]
  cf := some (fileOf pool6 1 #[.nestMembers #[122, 114]] #[{ accessFlags := 1, nameIndex := 45, descriptorIndex := 46, attributes := #[] }] 17441 20 #[] #[{ accessFlags := 16409, nameIndex := 5, descriptorIndex := 6, attributes := #[] }, { accessFlags := 16409, nameIndex := 9, descriptorIndex := 6, attributes := #[] }, { accessFlags := 25, nameIndex := 132, descriptorIndex := 39, attributes := #[] }, { accessFlags := 18, nameIndex := 31, descriptorIndex := 32, attributes := #[] }, { accessFlags := 18, nameIndex := 35, descriptorIndex := 32, attributes := #[] }, { accessFlags := 18, nameIndex := 38, descriptorIndex := 39, attributes := #[] }, { accessFlags := 18, nameIndex := 42, descriptorIndex := 39, attributes := #[] }, { accessFlags := 4122, nameIndex := 12, descriptorIndex := 13, attributes := #[] }])
  fields := #[{ name := "DES", type := (.object "managerie/usm/PrivProtocol"), accessFlags := 16409, slot := 0, constantValue := 0 }, { name := "AES", type := (.object "managerie/usm/PrivProtocol"), accessFlags := 16409, slot := 1, constantValue := 0 }, { name := "SALT_OCTETS", type := .int, accessFlags := 25, slot := 2, constantValue := 0 }, { name := "algorithm", type := (.object "java/lang/String"), accessFlags := 18, slot := 3, constantValue := 0 }, { name := "transformation", type := (.object "java/lang/String"), accessFlags := 18, slot := 4, constantValue := 0 }, { name := "keyOctets", type := .int, accessFlags := 18, slot := 5, constantValue := 0 }, { name := "block", type := .int, accessFlags := 18, slot := 6, constantValue := 0 }, { name := "$VALUES", type := (.array (.object "managerie/usm/PrivProtocol")), accessFlags := 4122, slot := 3, constantValue := 0 }]
  methods := #[k6m0]
  instanceTypes := #[(.object "java/lang/String"), .int, .int, (.object "java/lang/String"), (.object "java/lang/String"), .int, .int]
  staticTypes := #[(.object "managerie/usm/PrivProtocol"), (.object "managerie/usm/PrivProtocol"), .int, (.array (.object "managerie/usm/PrivProtocol"))]
  resolved := Array.replicate 173 none
  statics := some 0 }

def pool7 : Array CpInfo := pool [(2, .class_ 4), (1, u "managerie/usm/PrivProtocol"), (25, .class_ 31), (0, u "managerie/usm/PrivProtocol$2")] 12

/-- managerie/usm/PrivProtocol$2 -/
def k7 : Class := { plain "managerie/usm/PrivProtocol$2" (some 6) with
  accessFlags := 16432
  interfaces := #[]
  cf := some (fileOf pool7 30 #[.nestHost 2] #[] 16432 2 #[] #[])
  fields := #[]
  methods := #[]
  instanceTypes := #[(.object "java/lang/String"), .int, .int, (.object "java/lang/String"), (.object "java/lang/String"), .int, .int]
  staticTypes := #[]
  resolved := Array.replicate 44 none
  statics := none }

def pool8 : Array CpInfo := pool [(2, .class_ 4), (1, u "managerie/usm/PrivProtocol"), (16, .class_ 23), (1, u "managerie/usm/PrivProtocol$1")] 17

/-- managerie/usm/PrivProtocol$1 -/
def k8 : Class := { plain "managerie/usm/PrivProtocol$1" (some 6) with
  accessFlags := 16432
  interfaces := #[]
  cf := some (fileOf pool8 21 #[.nestHost 2] #[] 16432 2 #[] #[])
  fields := #[]
  methods := #[]
  instanceTypes := #[(.object "java/lang/String"), .int, .int, (.object "java/lang/String"), (.object "java/lang/String"), .int, .int]
  staticTypes := #[]
  resolved := Array.replicate 41 none
  statics := none }

def pool9 : Array CpInfo := pool [(1, u "java/lang/Cloneable"), (0, .class_ 1), (0, u "java/lang/Object"), (0, .class_ 3)] 3

/-- java/lang/Cloneable -/
def k9 : Class := { plain "java/lang/Cloneable" (some 0) with
  accessFlags := 1537
  interfaces := #[]
  cf := some (fileOf pool9 2 #[] #[] 1537 4 #[] #[])
  fields := #[]
  methods := #[]
  instanceTypes := #[]
  staticTypes := #[]
  resolved := Array.replicate 8 none
  statics := none }

/-- the primitive byte -/
def k10 : Class := { plain "byte" none with kind := .primitive 'B', accessFlags := 0x411 }
/-- [B -/
def k11 : Class := { plain "[B" (some 0) with kind := .array 10 .byte, interfaces := #[9, 4], accessFlags := 1041 }

/-- the primitive int -/
def k12 : Class := { plain "int" none with kind := .primitive 'I', accessFlags := 0x411 }
/-- [I -/
def k13 : Class := { plain "[I" (some 0) with kind := .array 12 .int, interfaces := #[9, 4], accessFlags := 1041 }

def heap : Heap := #[{ cls := 6, slots := #[.ref 2, .ref 1, .int 0, .null], vm := .statics 6 },
  { cls := 7, slots := #[.null, .int 1, .int 0, .null, .null, .int 16, .int 1], vm := .none },
  { cls := 8, slots := #[.null, .int 0, .int 0, .null, .null, .int 16, .int 8], vm := .none }]
def classes : Array Class := #[k0, k1, k2, k3, k4, k5, k6, k7, k8, k9, k10, k11, k12, k13]
def interned : List (Array UInt16 × Addr) := []
def slotsUsed : Nat := 18
def theMethod : MethodId := ⟨1, 1⟩
def args0 : Array Value := #[.int 5, .int 7]
def aboutOver (below : List Frame) : State where
  vm := { classes := classes, interned := interned.toArray }
  heap := heap
  slotsUsed := slotsUsed
  threads := #[{ frames := .invoking theMethod args0 :: below }]
def below0 : List Frame := [.native { method := ⟨0, 0⟩, args := #[] }]
def about1 : State := aboutOver below0
def p0 : Program := .bare "" "" ""
def e0 : Env := launch0.env 0 0 0
theorem w_frames : about1.frames = Frame.invoking theMethod args0 :: below0 := rfl
set_option maxRecDepth 65536 in
theorem w_args : argsFit about1.vm theMethod args0 = true := by decide +kernel
set_option maxRecDepth 65536 in
theorem w_heap : heapFits about1 = true := by decide +kernel
set_option maxRecDepth 65536 in
theorem w_runnable : about1.curStatus? = some .runnable := by decide +kernel
set_option maxRecDepth 65536 in
theorem w_alone : about1.alone = true := by decide +kernel
set_option maxRecDepth 65536 in
theorem w_named : about1.methodNamed? x = some theMethod := by decide +kernel
set_option maxRecDepth 65536 in
theorem w_hears : about1.hears theMethod below0 = true := by decide +kernel
set_option maxRecDepth 65536 in
theorem w_ripe : about1.ripe theMethod args0 below0 = true := by decide +kernel
theorem w_running : about1.status = .running := rfl
set_option maxRecDepth 65536 in
theorem w_room : about1.hasRoom e0.platform room_1 = true :=
  launch0.hasRoom_least _ room_1 (by decide +kernel) (by decide +kernel) (by decide +kernel) (by decide +kernel) (by decide +kernel) (by decide +kernel)
theorem allAtoms_all (ts : List Jvm.Cond) (a : Array Jvm.Value) (st : Jvm.State) : (allAtoms ts).before a st = ts.all (fun c => c.before a st) := by
  induction ts with
  | nil => rfl
  | cons c t ih =>
    show (Jvm.Cond.and c (allAtoms t)).before a st = _
    rw [Jvm.Cond.before_and, ih, List.all_cons]
def words1 : List Jvm.Cond := Jvm.Cond.code x code maxLocals ret :: tables_1
/-- a 'code' word, met by the world's own term for the bytes: nothing is compared byte by byte -/
theorem code_word {y : MethodName} {bytes : ByteArray} {mx : Nat} {rt : Option FieldType} {a : Array Value} {s : State} {m : MethodId} {meth : Method} {c : Code} (h1 : s.methodNamed? y = some m) (h2 : s.vm.method? m = some meth) (h3 : meth.code = some c) (h4 : c.code = bytes)
    (h5 : (c.maxLocals == mx && c.exceptionTable.isEmpty && decide (c.maxStack ≤ mostOperands) && decide (meth.sig.returnType = rt) && !meth.locks && decide (parseMethodDescriptor y.desc = some meth.sig)) = true) : (Jvm.Cond.code y bytes mx rt).before a s = true := by
  simp only [Bool.and_eq_true, beq_iff_eq, Bool.not_eq_true', decide_eq_true_eq] at h5
  obtain ⟨⟨⟨⟨⟨g1, g2⟩, g3⟩, g4⟩, g5⟩, g6⟩ := h5
  simp [Cond.before, Cond.holds, Cond.value, h1, h2, h3, h4, g1, g2, g3, g4, g5, g6]
def isCode : Jvm.Cond → Bool
  | .code _ _ _ _ => true
  | _ => false
theorem all_split {L : List Jvm.Cond} {P : Jvm.Cond → Bool} (h1 : L.all (fun c => isCode c || P c) = true) (h2 : ∀ c ∈ L.filter isCode, P c = true) : L.all P = true := by
  refine List.all_eq_true.mpr fun c hc => ?_
  have h := List.all_eq_true.mp h1 c hc
  rcases Bool.eq_false_or_eq_true (isCode c) with hi | hi
  · exact h2 c (List.mem_filter.mpr ⟨hc, hi⟩)
  · simpa [hi] using h
set_option maxRecDepth 65536 in
theorem w_c0 : (Jvm.Cond.code x code maxLocals ret).before args0 about1 = true := code_word (m := ⟨1, 1⟩) (meth := k1m1) (c := k1c1) (by decide +kernel) rfl rfl rfl (by decide +kernel)
set_option maxRecDepth 65536 in
theorem w_c1 : (Jvm.Cond.code ({ cls := "managerie/usm/PrivProtocol", name := "encryptedLength", desc := "(I)I" } : Jvm.MethodName) prog_100_method_4_code (2 : Nat) (Option.some Jvm.ClassFile.FieldType.int)).before args0 about1 = true := code_word (m := ⟨6, 0⟩) (meth := k6m0) (c := k6c0) (by decide +kernel) rfl rfl rfl (by decide +kernel)
def codes1 : List Jvm.Cond := [Jvm.Cond.code x code maxLocals ret, Jvm.Cond.code ({ cls := "managerie/usm/PrivProtocol", name := "encryptedLength", desc := "(I)I" } : Jvm.MethodName) prog_100_method_4_code (2 : Nat) (Option.some Jvm.ClassFile.FieldType.int)]
set_option maxRecDepth 65536 in
theorem codes_eq : words1.filter isCode = codes1 := rfl
theorem w_codes : ∀ c ∈ words1.filter isCode, c.before args0 about1 = true := by
  rw [codes_eq]
  intro c hc
  simp only [codes1, List.mem_cons, List.not_mem_nil, or_false] at hc
  rcases hc with rfl | rfl
  · exact w_c0
  · exact w_c1
set_option maxRecDepth 65536 in
theorem w_t1 : words1.all (fun c => isCode c || c.before args0 about1) = true := by decide +kernel
theorem w_tables : (allAtoms (Jvm.Cond.code x code maxLocals ret :: tables_1)).before args0 about1 = true := by
  rw [allAtoms_all]
  show words1.all (fun c => c.before args0 about1) = true
  refine all_split ?_ w_codes
  rw [w_t1]
set_option maxRecDepth 65536 in
theorem w_case : (Jvm.Cond.and given_1 narrow_1).before args0 about1 = true := by decide +kernel
theorem w_applies : (headSpec (Jvm.Cond.code x code maxLocals ret :: tables_1) room_1).applies x e0.platform about1 = true :=
  (Spec.applies_iff w_frames).mpr ⟨w_running, w_runnable, w_alone, w_named, w_hears, w_ripe, w_room, w_tables⟩
theorem atStart : AtStart classFile x code maxLocals ret World_1 tables_1 room_1 Calls_1 rest_1 Pre_1 launch0 p0 e0 about1 theMethod args0 below0 :=
  ⟨lists_1, trivial, launch0.admits_env _ _ _, launch0.least_env, fairChoices_fair.cas, fairChoices_fair.clock, w_frames, w_args, w_heap, w_applies, trivial, trivial, w_case⟩
end start1
theorem witness_1 : WitnessClaimed_1 := ⟨start1.p0, start1.e0, start1.about1, start1.theMethod, start1.args0, start1.below0, start1.atStart⟩
end Jvm.Pilot.@@N@@
