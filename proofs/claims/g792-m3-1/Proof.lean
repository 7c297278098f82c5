import JvmDerived
import JvmDerived.Pilot.@@N@@Statement
import JvmDerived.Pilot.@@N@@Code
set_option linter.unusedVariables false
set_option linter.unusedSimpArgs false
namespace Jvm.Pilot.@@N@@
open Jvm Jvm.ClassFile Sem Op Lib Jvm.Free Jvm.Stand Jvm.LawKit Jvm.RoadKit Bundle Jvm.Pilot.@@N@@.Jvm.D
section Own
variable {p : Program} {l : Launch} {e : Env} {R : Room} {s : State} {m : MethodId} {args : Array Value} {below : List Frame} {meth : Method} {c : Code} {T T' : State} {locs : List Loc} {cells slots C N : Nat} {Q : Option Value → Heap → List Loc → Prop} {g g' : JFrame}
/-- from T with the frame g on top the invocation of s comes to its end: it returns, and Q holds of what it returns, of the heap and of the places written -/
def Go (p : Program) (e : Env) (below : List Frame) (s : State) (C N : Nat) (Q : Option Value → Heap → List Loc → Prop) (T : State) (g : JFrame) : Prop :=
  ∃ s₂ o, Steps p.tables e below (T.setTop g) s₂ ∧ s₂.status = .running ∧ Ended s₂ below o ∧ ∃ v L, o = .returned v ∧ Q v s₂.heap L ∧ FrameEnd s o s₂ L C N
theorem Go.st (h : ∀ t, Steps p.tables e below (T'.setTop g') t → Steps p.tables e below (T.setTop g) t) (k : Go p e below s C N Q T' g') : Go p e below s C N Q T g := by
  obtain ⟨s2, o, h1, h2⟩ := k
  exact ⟨s2, o, h _ h1, h2⟩
theorem Go.enter (q : g = g') (k : Go p e below s C N Q T g') : ∃ s₂ o, Steps p.tables e below (T.setTop g) s₂ ∧ s₂.status = .running ∧ Ended s₂ below o ∧ ∃ v L, o = .returned v ∧ Q v s₂.heap L ∧ FrameEnd s o s₂ L C N := by
  subst q; exact k
theorem Go.fin (X : Stand p l e R s m args below meth c T locs cells slots) (hlk : meth.locks = false) {v : Option Value} (hv : meth.sig.returnType = none → v = none) (hC : cells ≤ C) (hN : slots ≤ N) (hq : Q v T.heap locs)
    (hs : ∀ fs, (∀ (f : JFrame) (acts : List Action), f.method = m → f.locked = none → f.entered = [] → (doReturn e (T.setTop f) acts v).1 = T.setFrames fs) → Steps p.tables e below (T.setTop g) (T.setFrames fs)) : Go p e below s C N Q T g := by
  obtain ⟨fs, hr, hrun, hended, hW, hsame⟩ := X.leave hv hlk
  exact ⟨_, _, hs fs hr, hrun, hended, _, _, rfl, hq, ⟨_, rfl⟩, hW, hsame.mono hC hN⟩
end Own

section OwnG
variable {p : Program} {l : Launch} {e : Env} {R : Room} {s : State} {m : MethodId} {args : Array Value} {below : List Frame} {meth : Method} {c : Code} {T : State} {locs : List Loc} {cells slots C N : Nat} {Q : Option Value → Heap → List Loc → Prop} {pc pc' : Nat} {L L' : Array Slot} {S : List Value}
theorem G_iloadN (X : Stand p l e R s m args below meth c T locs cells slots) (hx : p.tables.exec = Jvm.exec) {k : Fin 4} {v : Int32} (hp : pc + 1 = pc') (hd : decode c.code pc = .ok (.iload_n k, 1)) (hl : L[k.val]? = some (.val (.int v))) (h : Go p e below s C N Q T (mkF m pc' L (.int v :: S))) : Go p e below s C N Q T (mkF m pc L S) := by
  subst hp; exact Go.st (fun _ k => XS.iloadN X.here hx rfl hd hl k) h
theorem G_iload (X : Stand p l e R s m args below meth c T locs cells slots) (hx : p.tables.exec = Jvm.exec) {k : Nat} {v : Int32} (hp : pc + 2 = pc') (hd : decode c.code pc = .ok (.iload k, 2)) (hl : L[k]? = some (.val (.int v))) (h : Go p e below s C N Q T (mkF m pc' L (.int v :: S))) : Go p e below s C N Q T (mkF m pc L S) := by
  subst hp; exact Go.st (fun _ k => XS.iload X.here hx rfl hd hl k) h
theorem G_istoreN (X : Stand p l e R s m args below meth c T locs cells slots) (hx : p.tables.exec = Jvm.exec) {k : Fin 4} {v : Int32} (hp : pc + 1 = pc') (hd : decode c.code pc = .ok (.istore_n k, 1)) (hl : storeLocals L k.val (.int v) = some L') (h : Go p e below s C N Q T (mkF m pc' L' S)) : Go p e below s C N Q T (mkF m pc L (.int v :: S)) := by
  subst hp; exact Go.st (fun _ k => XS.istoreN X.here hx rfl hd rfl hl k) h
theorem G_istore (X : Stand p l e R s m args below meth c T locs cells slots) (hx : p.tables.exec = Jvm.exec) {k : Nat} {v : Int32} (hp : pc + 2 = pc') (hd : decode c.code pc = .ok (.istore k, 2)) (hl : storeLocals L k (.int v) = some L') (h : Go p e below s C N Q T (mkF m pc' L' S)) : Go p e below s C N Q T (mkF m pc L (.int v :: S)) := by
  subst hp; exact Go.st (fun _ k => XS.istore X.here hx rfl hd rfl hl k) h
theorem G_lloadN (X : Stand p l e R s m args below meth c T locs cells slots) (hx : p.tables.exec = Jvm.exec) {k : Fin 4} {v : Int64} (hp : pc + 1 = pc') (hd : decode c.code pc = .ok (.lload_n k, 1)) (hl : L[k.val]? = some (.val (.long v))) (h : Go p e below s C N Q T (mkF m pc' L (.long v :: S))) : Go p e below s C N Q T (mkF m pc L S) := by
  subst hp; exact Go.st (fun _ k => XS.lloadN X.here hx rfl hd hl k) h
theorem G_lload (X : Stand p l e R s m args below meth c T locs cells slots) (hx : p.tables.exec = Jvm.exec) {k : Nat} {v : Int64} (hp : pc + 2 = pc') (hd : decode c.code pc = .ok (.lload k, 2)) (hl : L[k]? = some (.val (.long v))) (h : Go p e below s C N Q T (mkF m pc' L (.long v :: S))) : Go p e below s C N Q T (mkF m pc L S) := by
  subst hp; exact Go.st (fun _ k => XS.lload X.here hx rfl hd hl k) h
theorem G_lstoreN (X : Stand p l e R s m args below meth c T locs cells slots) (hx : p.tables.exec = Jvm.exec) {k : Fin 4} {v : Int64} (hp : pc + 1 = pc') (hd : decode c.code pc = .ok (.lstore_n k, 1)) (hl : storeLocals L k.val (.long v) = some L') (h : Go p e below s C N Q T (mkF m pc' L' S)) : Go p e below s C N Q T (mkF m pc L (.long v :: S)) := by
  subst hp; exact Go.st (fun _ k => XS.lstoreN X.here hx rfl hd rfl hl k) h
theorem G_lstore (X : Stand p l e R s m args below meth c T locs cells slots) (hx : p.tables.exec = Jvm.exec) {k : Nat} {v : Int64} (hp : pc + 2 = pc') (hd : decode c.code pc = .ok (.lstore k, 2)) (hl : storeLocals L k (.long v) = some L') (h : Go p e below s C N Q T (mkF m pc' L' S)) : Go p e below s C N Q T (mkF m pc L (.long v :: S)) := by
  subst hp; exact Go.st (fun _ k => XS.lstore X.here hx rfl hd rfl hl k) h
theorem G_aloadN (X : Stand p l e R s m args below meth c T locs cells slots) (hx : p.tables.exec = Jvm.exec) {k : Fin 4} {v : Value} (hp : pc + 1 = pc') (hd : decode c.code pc = .ok (.aload_n k, 1)) (hl : L[k.val]? = some (.val v)) (hv : v.isRef = true) (h : Go p e below s C N Q T (mkF m pc' L (v :: S))) : Go p e below s C N Q T (mkF m pc L S) := by
  subst hp; exact Go.st (fun _ k => XS.aloadN X.here hx rfl hd hl hv k) h
theorem G_aload (X : Stand p l e R s m args below meth c T locs cells slots) (hx : p.tables.exec = Jvm.exec) {k : Nat} {v : Value} (hp : pc + 2 = pc') (hd : decode c.code pc = .ok (.aload k, 2)) (hl : L[k]? = some (.val v)) (hv : v.isRef = true) (h : Go p e below s C N Q T (mkF m pc' L (v :: S))) : Go p e below s C N Q T (mkF m pc L S) := by
  subst hp; exact Go.st (fun _ k => XS.aload X.here hx rfl hd hl hv k) h
theorem G_astoreN (X : Stand p l e R s m args below meth c T locs cells slots) (hx : p.tables.exec = Jvm.exec) {k : Fin 4} {v : Value} (hp : pc + 1 = pc') (hd : decode c.code pc = .ok (.astore_n k, 1)) (hv : v.isRef = true) (hl : storeLocals L k.val v = some L') (h : Go p e below s C N Q T (mkF m pc' L' S)) : Go p e below s C N Q T (mkF m pc L (v :: S)) := by
  subst hp; exact Go.st (fun _ k => XS.astoreN X.here hx rfl hd rfl hv hl k) h
theorem G_astore (X : Stand p l e R s m args below meth c T locs cells slots) (hx : p.tables.exec = Jvm.exec) {k : Nat} {v : Value} (hp : pc + 2 = pc') (hd : decode c.code pc = .ok (.astore k, 2)) (hv : v.isRef = true) (hl : storeLocals L k v = some L') (h : Go p e below s C N Q T (mkF m pc' L' S)) : Go p e below s C N Q T (mkF m pc L (v :: S)) := by
  subst hp; exact Go.st (fun _ k => XS.astore X.here hx rfl hd rfl hv hl k) h
theorem G_iconst (X : Stand p l e R s m args below meth c T locs cells slots) (hx : p.tables.exec = Jvm.exec) {i : Int} {z : Int32} (hp : pc + 1 = pc') (hd : decode c.code pc = .ok (.iconst i, 1)) (hz : Int32.ofInt i = z) (h : Go p e below s C N Q T (mkF m pc' L (.int z :: S))) : Go p e below s C N Q T (mkF m pc L S) := by
  subst hp; exact Go.st (fun _ k => XS.iconst X.here hx rfl hd (by rw [hz]; exact k)) h
theorem G_bipush (X : Stand p l e R s m args below meth c T locs cells slots) (hx : p.tables.exec = Jvm.exec) {i : Int} {z : Int32} (hp : pc + 2 = pc') (hd : decode c.code pc = .ok (.bipush i, 2)) (hz : (Int8.ofInt i).toInt32 = z) (h : Go p e below s C N Q T (mkF m pc' L (.int z :: S))) : Go p e below s C N Q T (mkF m pc L S) := by
  subst hp; exact Go.st (fun _ k => XS.bipush X.here hx rfl hd (by rw [hz]; exact k)) h
theorem G_sipush (X : Stand p l e R s m args below meth c T locs cells slots) (hx : p.tables.exec = Jvm.exec) {i : Int} {z : Int32} (hp : pc + 3 = pc') (hd : decode c.code pc = .ok (.sipush i, 3)) (hz : (Int16.ofInt i).toInt32 = z) (h : Go p e below s C N Q T (mkF m pc' L (.int z :: S))) : Go p e below s C N Q T (mkF m pc L S) := by
  subst hp; exact Go.st (fun _ k => XS.sipush X.here hx rfl hd (by rw [hz]; exact k)) h
theorem G_lconst (X : Stand p l e R s m args below meth c T locs cells slots) (hx : p.tables.exec = Jvm.exec) {i : Fin 2} {z : Int64} (hp : pc + 1 = pc') (hd : decode c.code pc = .ok (.lconst i, 1)) (hz : Int64.ofNat i = z) (h : Go p e below s C N Q T (mkF m pc' L (.long z :: S))) : Go p e below s C N Q T (mkF m pc L S) := by
  subst hp; exact Go.st (fun _ k => XS.lconst X.here hx rfl hd (by rw [hz]; exact k)) h
theorem G_aconstNull (X : Stand p l e R s m args below meth c T locs cells slots) (hx : p.tables.exec = Jvm.exec)  (hp : pc + 1 = pc') (hd : decode c.code pc = .ok (.aconst_null, 1))  (h : Go p e below s C N Q T (mkF m pc' L (.null :: S))) : Go p e below s C N Q T (mkF m pc L S) := by
  subst hp; exact Go.st (fun _ k => XS.aconstNull X.here hx rfl hd k) h
theorem G_iadd (X : Stand p l e R s m args below meth c T locs cells slots) (hx : p.tables.exec = Jvm.exec) {x y : Int32} (hp : pc + 1 = pc') (hd : decode c.code pc = .ok (.iadd, 1))  (h : Go p e below s C N Q T (mkF m pc' L (.int (x + y) :: S))) : Go p e below s C N Q T (mkF m pc L (.int y :: .int x :: S)) := by
  subst hp; exact Go.st (fun _ k => XS.iadd X.here hx rfl hd rfl k) h
theorem G_isub (X : Stand p l e R s m args below meth c T locs cells slots) (hx : p.tables.exec = Jvm.exec) {x y : Int32} (hp : pc + 1 = pc') (hd : decode c.code pc = .ok (.isub, 1))  (h : Go p e below s C N Q T (mkF m pc' L (.int (x - y) :: S))) : Go p e below s C N Q T (mkF m pc L (.int y :: .int x :: S)) := by
  subst hp; exact Go.st (fun _ k => XS.isub X.here hx rfl hd rfl k) h
theorem G_imul (X : Stand p l e R s m args below meth c T locs cells slots) (hx : p.tables.exec = Jvm.exec) {x y : Int32} (hp : pc + 1 = pc') (hd : decode c.code pc = .ok (.imul, 1))  (h : Go p e below s C N Q T (mkF m pc' L (.int (x * y) :: S))) : Go p e below s C N Q T (mkF m pc L (.int y :: .int x :: S)) := by
  subst hp; exact Go.st (fun _ k => XS.imul X.here hx rfl hd rfl k) h
theorem G_iand (X : Stand p l e R s m args below meth c T locs cells slots) (hx : p.tables.exec = Jvm.exec) {x y : Int32} (hp : pc + 1 = pc') (hd : decode c.code pc = .ok (.iand, 1))  (h : Go p e below s C N Q T (mkF m pc' L (.int (x &&& y) :: S))) : Go p e below s C N Q T (mkF m pc L (.int y :: .int x :: S)) := by
  subst hp; exact Go.st (fun _ k => XS.iand X.here hx rfl hd rfl k) h
theorem G_ior (X : Stand p l e R s m args below meth c T locs cells slots) (hx : p.tables.exec = Jvm.exec) {x y : Int32} (hp : pc + 1 = pc') (hd : decode c.code pc = .ok (.ior, 1))  (h : Go p e below s C N Q T (mkF m pc' L (.int (x ||| y) :: S))) : Go p e below s C N Q T (mkF m pc L (.int y :: .int x :: S)) := by
  subst hp; exact Go.st (fun _ k => XS.ior X.here hx rfl hd rfl k) h
theorem G_ixor (X : Stand p l e R s m args below meth c T locs cells slots) (hx : p.tables.exec = Jvm.exec) {x y : Int32} (hp : pc + 1 = pc') (hd : decode c.code pc = .ok (.ixor, 1))  (h : Go p e below s C N Q T (mkF m pc' L (.int (x ^^^ y) :: S))) : Go p e below s C N Q T (mkF m pc L (.int y :: .int x :: S)) := by
  subst hp; exact Go.st (fun _ k => XS.ixor X.here hx rfl hd rfl k) h
theorem G_ishl (X : Stand p l e R s m args below meth c T locs cells slots) (hx : p.tables.exec = Jvm.exec) {x y : Int32} (hp : pc + 1 = pc') (hd : decode c.code pc = .ok (.ishl, 1))  (h : Go p e below s C N Q T (mkF m pc' L (.int (x <<< (y &&& 31)) :: S))) : Go p e below s C N Q T (mkF m pc L (.int y :: .int x :: S)) := by
  subst hp; exact Go.st (fun _ k => XS.ishl X.here hx rfl hd rfl k) h
theorem G_ishr (X : Stand p l e R s m args below meth c T locs cells slots) (hx : p.tables.exec = Jvm.exec) {x y : Int32} (hp : pc + 1 = pc') (hd : decode c.code pc = .ok (.ishr, 1))  (h : Go p e below s C N Q T (mkF m pc' L (.int (x >>> (y &&& 31)) :: S))) : Go p e below s C N Q T (mkF m pc L (.int y :: .int x :: S)) := by
  subst hp; exact Go.st (fun _ k => XS.ishr X.here hx rfl hd rfl k) h
theorem G_iushr (X : Stand p l e R s m args below meth c T locs cells slots) (hx : p.tables.exec = Jvm.exec) {x y : Int32} (hp : pc + 1 = pc') (hd : decode c.code pc = .ok (.iushr, 1))  (h : Go p e below s C N Q T (mkF m pc' L (.int ((x.toUInt32 >>> (y &&& 31).toUInt32).toInt32) :: S))) : Go p e below s C N Q T (mkF m pc L (.int y :: .int x :: S)) := by
  subst hp; exact Go.st (fun _ k => XS.iushr X.here hx rfl hd rfl k) h
theorem G_ladd (X : Stand p l e R s m args below meth c T locs cells slots) (hx : p.tables.exec = Jvm.exec) {x y : Int64} (hp : pc + 1 = pc') (hd : decode c.code pc = .ok (.ladd, 1))  (h : Go p e below s C N Q T (mkF m pc' L (.long (x + y) :: S))) : Go p e below s C N Q T (mkF m pc L (.long y :: .long x :: S)) := by
  subst hp; exact Go.st (fun _ k => XS.ladd X.here hx rfl hd rfl k) h
theorem G_lsub (X : Stand p l e R s m args below meth c T locs cells slots) (hx : p.tables.exec = Jvm.exec) {x y : Int64} (hp : pc + 1 = pc') (hd : decode c.code pc = .ok (.lsub, 1))  (h : Go p e below s C N Q T (mkF m pc' L (.long (x - y) :: S))) : Go p e below s C N Q T (mkF m pc L (.long y :: .long x :: S)) := by
  subst hp; exact Go.st (fun _ k => XS.lsub X.here hx rfl hd rfl k) h
theorem G_lmul (X : Stand p l e R s m args below meth c T locs cells slots) (hx : p.tables.exec = Jvm.exec) {x y : Int64} (hp : pc + 1 = pc') (hd : decode c.code pc = .ok (.lmul, 1))  (h : Go p e below s C N Q T (mkF m pc' L (.long (x * y) :: S))) : Go p e below s C N Q T (mkF m pc L (.long y :: .long x :: S)) := by
  subst hp; exact Go.st (fun _ k => XS.lmul X.here hx rfl hd rfl k) h
theorem G_land (X : Stand p l e R s m args below meth c T locs cells slots) (hx : p.tables.exec = Jvm.exec) {x y : Int64} (hp : pc + 1 = pc') (hd : decode c.code pc = .ok (.land, 1))  (h : Go p e below s C N Q T (mkF m pc' L (.long (x &&& y) :: S))) : Go p e below s C N Q T (mkF m pc L (.long y :: .long x :: S)) := by
  subst hp; exact Go.st (fun _ k => XS.land X.here hx rfl hd rfl k) h
theorem G_lor (X : Stand p l e R s m args below meth c T locs cells slots) (hx : p.tables.exec = Jvm.exec) {x y : Int64} (hp : pc + 1 = pc') (hd : decode c.code pc = .ok (.lor, 1))  (h : Go p e below s C N Q T (mkF m pc' L (.long (x ||| y) :: S))) : Go p e below s C N Q T (mkF m pc L (.long y :: .long x :: S)) := by
  subst hp; exact Go.st (fun _ k => XS.lor X.here hx rfl hd rfl k) h
theorem G_lxor (X : Stand p l e R s m args below meth c T locs cells slots) (hx : p.tables.exec = Jvm.exec) {x y : Int64} (hp : pc + 1 = pc') (hd : decode c.code pc = .ok (.lxor, 1))  (h : Go p e below s C N Q T (mkF m pc' L (.long (x ^^^ y) :: S))) : Go p e below s C N Q T (mkF m pc L (.long y :: .long x :: S)) := by
  subst hp; exact Go.st (fun _ k => XS.lxor X.here hx rfl hd rfl k) h
theorem G_lshl (X : Stand p l e R s m args below meth c T locs cells slots) (hx : p.tables.exec = Jvm.exec) {x : Int64} {y : Int32} (hp : pc + 1 = pc') (hd : decode c.code pc = .ok (.lshl, 1))  (h : Go p e below s C N Q T (mkF m pc' L (.long (x <<< (y &&& 0x3f).toInt64) :: S))) : Go p e below s C N Q T (mkF m pc L (.int y :: .long x :: S)) := by
  subst hp; exact Go.st (fun _ k => XS.lshl X.here hx rfl hd rfl k) h
theorem G_lshr (X : Stand p l e R s m args below meth c T locs cells slots) (hx : p.tables.exec = Jvm.exec) {x : Int64} {y : Int32} (hp : pc + 1 = pc') (hd : decode c.code pc = .ok (.lshr, 1))  (h : Go p e below s C N Q T (mkF m pc' L (.long (x >>> (y &&& 0x3f).toInt64) :: S))) : Go p e below s C N Q T (mkF m pc L (.int y :: .long x :: S)) := by
  subst hp; exact Go.st (fun _ k => XS.lshr X.here hx rfl hd rfl k) h
theorem G_lushr (X : Stand p l e R s m args below meth c T locs cells slots) (hx : p.tables.exec = Jvm.exec) {x : Int64} {y : Int32} (hp : pc + 1 = pc') (hd : decode c.code pc = .ok (.lushr, 1))  (h : Go p e below s C N Q T (mkF m pc' L (.long ((x.toUInt64 >>> (y &&& 0x3f).toInt64.toUInt64).toInt64) :: S))) : Go p e below s C N Q T (mkF m pc L (.int y :: .long x :: S)) := by
  subst hp; exact Go.st (fun _ k => XS.lushr X.here hx rfl hd rfl k) h
theorem G_idiv (X : Stand p l e R s m args below meth c T locs cells slots) (hx : p.tables.exec = Jvm.exec) {x y : Int32} (hp : pc + 1 = pc') (hd : decode c.code pc = .ok (.idiv, 1)) (hy : y ≠ 0) (h : Go p e below s C N Q T (mkF m pc' L (.int (x / y) :: S))) : Go p e below s C N Q T (mkF m pc L (.int y :: .int x :: S)) := by
  subst hp; exact Go.st (fun _ k => XS.idiv X.here hx rfl hd rfl hy k) h
theorem G_irem (X : Stand p l e R s m args below meth c T locs cells slots) (hx : p.tables.exec = Jvm.exec) {x y : Int32} (hp : pc + 1 = pc') (hd : decode c.code pc = .ok (.irem, 1)) (hy : y ≠ 0) (h : Go p e below s C N Q T (mkF m pc' L (.int (x % y) :: S))) : Go p e below s C N Q T (mkF m pc L (.int y :: .int x :: S)) := by
  subst hp; exact Go.st (fun _ k => iremM X hx rfl hd rfl hy k) h
theorem G_ldiv (X : Stand p l e R s m args below meth c T locs cells slots) (hx : p.tables.exec = Jvm.exec) {x y : Int64} (hp : pc + 1 = pc') (hd : decode c.code pc = .ok (.ldiv, 1)) (hy : y ≠ 0) (h : Go p e below s C N Q T (mkF m pc' L (.long (x / y) :: S))) : Go p e below s C N Q T (mkF m pc L (.long y :: .long x :: S)) := by
  subst hp; exact Go.st (fun _ k => XS.ldiv X.here hx rfl hd rfl hy k) h
theorem G_lrem (X : Stand p l e R s m args below meth c T locs cells slots) (hx : p.tables.exec = Jvm.exec) {x y : Int64} (hp : pc + 1 = pc') (hd : decode c.code pc = .ok (.lrem, 1)) (hy : y ≠ 0) (h : Go p e below s C N Q T (mkF m pc' L (.long (x % y) :: S))) : Go p e below s C N Q T (mkF m pc L (.long y :: .long x :: S)) := by
  subst hp; exact Go.st (fun _ k => XS.lrem X.here hx rfl hd rfl hy (by rw [lrem_mod]; exact k)) h
theorem G_ineg (X : Stand p l e R s m args below meth c T locs cells slots) (hx : p.tables.exec = Jvm.exec) {x : Int32} (hp : pc + 1 = pc') (hd : decode c.code pc = .ok (.ineg, 1))  (h : Go p e below s C N Q T (mkF m pc' L (.int (-x) :: S))) : Go p e below s C N Q T (mkF m pc L (.int x :: S)) := by
  subst hp; exact Go.st (fun _ k => XS.ineg X.here hx rfl hd rfl k) h
theorem G_lneg (X : Stand p l e R s m args below meth c T locs cells slots) (hx : p.tables.exec = Jvm.exec) {x : Int64} (hp : pc + 1 = pc') (hd : decode c.code pc = .ok (.lneg, 1))  (h : Go p e below s C N Q T (mkF m pc' L (.long (-x) :: S))) : Go p e below s C N Q T (mkF m pc L (.long x :: S)) := by
  subst hp; exact Go.st (fun _ k => XS.lneg X.here hx rfl hd rfl k) h
theorem G_i2l (X : Stand p l e R s m args below meth c T locs cells slots) (hx : p.tables.exec = Jvm.exec) {x : Int32} (hp : pc + 1 = pc') (hd : decode c.code pc = .ok (.i2l, 1))  (h : Go p e below s C N Q T (mkF m pc' L (.long (x.toInt64) :: S))) : Go p e below s C N Q T (mkF m pc L (.int x :: S)) := by
  subst hp; exact Go.st (fun _ k => XS.i2l X.here hx rfl hd rfl k) h
theorem G_l2i (X : Stand p l e R s m args below meth c T locs cells slots) (hx : p.tables.exec = Jvm.exec) {x : Int64} (hp : pc + 1 = pc') (hd : decode c.code pc = .ok (.l2i, 1))  (h : Go p e below s C N Q T (mkF m pc' L (.int (x.toInt32) :: S))) : Go p e below s C N Q T (mkF m pc L (.long x :: S)) := by
  subst hp; exact Go.st (fun _ k => XS.l2i X.here hx rfl hd rfl k) h
theorem G_i2b (X : Stand p l e R s m args below meth c T locs cells slots) (hx : p.tables.exec = Jvm.exec) {x : Int32} (hp : pc + 1 = pc') (hd : decode c.code pc = .ok (.i2b, 1))  (h : Go p e below s C N Q T (mkF m pc' L (.int (x.toInt8.toInt32) :: S))) : Go p e below s C N Q T (mkF m pc L (.int x :: S)) := by
  subst hp; exact Go.st (fun _ k => XS.i2b X.here hx rfl hd rfl k) h
theorem G_i2s (X : Stand p l e R s m args below meth c T locs cells slots) (hx : p.tables.exec = Jvm.exec) {x : Int32} (hp : pc + 1 = pc') (hd : decode c.code pc = .ok (.i2s, 1))  (h : Go p e below s C N Q T (mkF m pc' L (.int (x.toInt16.toInt32) :: S))) : Go p e below s C N Q T (mkF m pc L (.int x :: S)) := by
  subst hp; exact Go.st (fun _ k => XS.i2s X.here hx rfl hd rfl k) h
theorem G_i2c (X : Stand p l e R s m args below meth c T locs cells slots) (hx : p.tables.exec = Jvm.exec) {x : Int32} (hp : pc + 1 = pc') (hd : decode c.code pc = .ok (.i2c, 1))  (h : Go p e below s C N Q T (mkF m pc' L (.int (x.toUInt32.toUInt16.toUInt32.toInt32) :: S))) : Go p e below s C N Q T (mkF m pc L (.int x :: S)) := by
  subst hp; exact Go.st (fun _ k => XS.i2c X.here hx rfl hd rfl k) h
theorem G_lcmp (X : Stand p l e R s m args below meth c T locs cells slots) (hx : p.tables.exec = Jvm.exec) {x y : Int64} (hp : pc + 1 = pc') (hd : decode c.code pc = .ok (.lcmp, 1))  (h : Go p e below s C N Q T (mkF m pc' L (.int (lcmpW x y) :: S))) : Go p e below s C N Q T (mkF m pc L (.long y :: .long x :: S)) := by
  subst hp; exact Go.st (fun _ k => XS.lcmp X.here hx rfl hd rfl k) h
theorem G_iinc (X : Stand p l e R s m args below meth c T locs cells slots) (hx : p.tables.exec = Jvm.exec) {k : Nat} {cst : Int} {x z : Int32} (hp : pc + 3 = pc') (hd : decode c.code pc = .ok (.iinc k cst, 3)) (hl : L[k]? = some (.val (.int x))) (hz : x + Int32.ofInt cst = z) (hl' : storeLocals L k (.int z) = some L') (h : Go p e below s C N Q T (mkF m pc' L' S)) : Go p e below s C N Q T (mkF m pc L S) := by
  subst hp; exact Go.st (fun _ k => XS.iinc X.here hx rfl hd hl (by rw [hz]; exact hl') k) h
theorem G_dup (X : Stand p l e R s m args below meth c T locs cells slots) (hx : p.tables.exec = Jvm.exec) {x : Value} (hp : pc + 1 = pc') (hd : decode c.code pc = .ok (.dup, 1)) (hc : x.category = 1) (h : Go p e below s C N Q T (mkF m pc' L (x :: x :: S))) : Go p e below s C N Q T (mkF m pc L (x :: S)) := by
  subst hp; exact Go.st (fun _ k => XS.dup X.here hx rfl hd rfl hc k) h
theorem G_pop (X : Stand p l e R s m args below meth c T locs cells slots) (hx : p.tables.exec = Jvm.exec) {x : Value} (hp : pc + 1 = pc') (hd : decode c.code pc = .ok (.pop, 1)) (hc : x.category = 1) (h : Go p e below s C N Q T (mkF m pc' L S)) : Go p e below s C N Q T (mkF m pc L (x :: S)) := by
  subst hp; exact Go.st (fun _ k => XS.pop X.here hx rfl hd rfl hc k) h
theorem G_dupX1 (X : Stand p l e R s m args below meth c T locs cells slots) (hx : p.tables.exec = Jvm.exec) {x y : Value} (hp : pc + 1 = pc') (hd : decode c.code pc = .ok (.dup_x1, 1)) (hc : x.category = 1) (hc' : y.category = 1) (h : Go p e below s C N Q T (mkF m pc' L (x :: y :: x :: S))) : Go p e below s C N Q T (mkF m pc L (x :: y :: S)) := by
  subst hp; exact Go.st (fun _ k => XS.dupX1 X.here hx rfl hd rfl hc hc' k) h
theorem G_goto (X : Stand p l e R s m args below meth c T locs cells slots) (hx : p.tables.exec = Jvm.exec)  {o : Int} (hd : decode c.code pc = .ok (.goto o, 3))  (ho : 0 ≤ (pc : Int) + o) (hp : ((pc : Int) + o).toNat = pc') (h : Go p e below s C N Q T (mkF m pc' L S)) : Go p e below s C N Q T (mkF m pc L S) :=
  Go.st (fun _ k => XS.goto X.here hx rfl rfl hd ho hp k) h
theorem G_ifYes (X : Stand p l e R s m args below meth c T locs cells slots) (hx : p.tables.exec = Jvm.exec) {cd : ClassFile.Cond} {x : Int32} {o : Int} (hd : decode c.code pc = .ok (.ifCond cd o, 3)) (hc : ifCond.holds cd x = true) (ho : 0 ≤ (pc : Int) + o) (hp : ((pc : Int) + o).toNat = pc') (h : Go p e below s C N Q T (mkF m pc' L S)) : Go p e below s C N Q T (mkF m pc L (.int x :: S)) :=
  Go.st (fun _ k => XS.ifYes X.here hx rfl rfl hd rfl hc ho hp k) h
theorem G_icmpYes (X : Stand p l e R s m args below meth c T locs cells slots) (hx : p.tables.exec = Jvm.exec) {cd : ClassFile.Cond} {x y : Int32} {o : Int} (hd : decode c.code pc = .ok (.if_icmp cd o, 3)) (hc : if_icmp.holds cd x y = true) (ho : 0 ≤ (pc : Int) + o) (hp : ((pc : Int) + o).toNat = pc') (h : Go p e below s C N Q T (mkF m pc' L S)) : Go p e below s C N Q T (mkF m pc L (.int y :: .int x :: S)) :=
  Go.st (fun _ k => XS.icmpYes X.here hx rfl rfl hd rfl hc ho hp k) h
theorem G_ifnullYes (X : Stand p l e R s m args below meth c T locs cells slots) (hx : p.tables.exec = Jvm.exec)  {o : Int} (hd : decode c.code pc = .ok (.ifnull o, 3))  (ho : 0 ≤ (pc : Int) + o) (hp : ((pc : Int) + o).toNat = pc') (h : Go p e below s C N Q T (mkF m pc' L S)) : Go p e below s C N Q T (mkF m pc L (.null :: S)) :=
  Go.st (fun _ k => XS.ifnullYes X.here hx rfl rfl hd rfl ho hp k) h
theorem G_ifnonnullYes (X : Stand p l e R s m args below meth c T locs cells slots) (hx : p.tables.exec = Jvm.exec) {b : Addr} {o : Int} (hd : decode c.code pc = .ok (.ifnonnull o, 3))  (ho : 0 ≤ (pc : Int) + o) (hp : ((pc : Int) + o).toNat = pc') (h : Go p e below s C N Q T (mkF m pc' L S)) : Go p e below s C N Q T (mkF m pc L (.ref b :: S)) :=
  Go.st (fun _ k => XS.ifnonnullYes X.here hx rfl rfl hd rfl ho hp k) h
theorem G_ifNo (X : Stand p l e R s m args below meth c T locs cells slots) (hx : p.tables.exec = Jvm.exec) {cd : ClassFile.Cond} {x : Int32} {o : Int} (hp : pc + 3 = pc') (hd : decode c.code pc = .ok (.ifCond cd o, 3)) (hc : ifCond.holds cd x = false) (h : Go p e below s C N Q T (mkF m pc' L S)) : Go p e below s C N Q T (mkF m pc L (.int x :: S)) := by
  subst hp; exact Go.st (fun _ k => XS.ifNo X.here hx rfl hd rfl hc k) h
theorem G_icmpNo (X : Stand p l e R s m args below meth c T locs cells slots) (hx : p.tables.exec = Jvm.exec) {cd : ClassFile.Cond} {x y : Int32} {o : Int} (hp : pc + 3 = pc') (hd : decode c.code pc = .ok (.if_icmp cd o, 3)) (hc : if_icmp.holds cd x y = false) (h : Go p e below s C N Q T (mkF m pc' L S)) : Go p e below s C N Q T (mkF m pc L (.int y :: .int x :: S)) := by
  subst hp; exact Go.st (fun _ k => XS.icmpNo X.here hx rfl hd rfl hc k) h
theorem G_ifnullNo (X : Stand p l e R s m args below meth c T locs cells slots) (hx : p.tables.exec = Jvm.exec) {b : Addr} {o : Int} (hp : pc + 3 = pc') (hd : decode c.code pc = .ok (.ifnull o, 3))  (h : Go p e below s C N Q T (mkF m pc' L S)) : Go p e below s C N Q T (mkF m pc L (.ref b :: S)) := by
  subst hp; exact Go.st (fun _ k => XS.ifnullNo X.here hx rfl hd rfl k) h
theorem G_ifnonnullNo (X : Stand p l e R s m args below meth c T locs cells slots) (hx : p.tables.exec = Jvm.exec) {o : Int} (hp : pc + 3 = pc') (hd : decode c.code pc = .ok (.ifnonnull o, 3))  (h : Go p e below s C N Q T (mkF m pc' L S)) : Go p e below s C N Q T (mkF m pc L (.null :: S)) := by
  subst hp; exact Go.st (fun _ k => XS.ifnonnullNo X.here hx rfl hd rfl k) h
theorem G_ldc (X : Stand p l e R s m args below meth c T locs cells slots) (hx : p.tables.exec = Jvm.exec) (hp : pc + 2 = pc') {own : String} {index : Nat} {v : Int32} (hown : s.vm.findClass own = some m.cls) (hw : (Cond.constant own index v).before args s = true) (hd : decode c.code pc = .ok (.ldc index, 2)) (h : Go p e below s C N Q T (mkF m pc' L (.int v :: S))) : Go p e below s C N Q T (mkF m pc L S) := by
  subst hp; exact Go.st (X.ldcInt hx hown hw (g := mkF m pc L S) rfl hd) h
theorem G_ldc2 (X : Stand p l e R s m args below meth c T locs cells slots) (hx : p.tables.exec = Jvm.exec) (hp : pc + 3 = pc') {own : String} {index : Nat} {v : Int64} (hown : s.vm.findClass own = some m.cls) (hw : (Cond.constantLong own index v).before args s = true) (hd : decode c.code pc = .ok (.ldc2_w index, 3)) (h : Go p e below s C N Q T (mkF m pc' L (.long v :: S))) : Go p e below s C N Q T (mkF m pc L S) := by
  subst hp; exact Go.st (X.ldc2Long hx hown hw (g := mkF m pc L S) rfl hd) h
end OwnG

section OwnArr
variable {p : Program} {l : Launch} {e : Env} {R : Room} {s : State} {m : MethodId} {args : Array Value} {below : List Frame} {meth : Method} {c : Code} {T T' : State} {locs : List Loc} {cells slots : Nat} {Z : State} {a0 : Array Value} {h h' : Heap} {a b : Addr} {ty : FieldType} {vs : List Value} {xs : List Int32} {ys : List Int64} {v : Value} {sl : Nat} {ws : List Addr}
/-- the array at a, of components ty, holds just these values -/
def AV (Z : State) (h : Heap) (a : Addr) (ty : FieldType) (vs : List Value) : Prop := ∃ c : Cell, Arr Z h a c ty ∧ c.slots = vs.toArray ∧ vs.length < 2147483648 ∧ ∀ v ∈ vs, fits ty v = true
def AI (Z : State) (h : Heap) (a : Addr) (ty : FieldType) (xs : List Int32) : Prop := AV Z h a ty (xs.map Value.int)
def AJ (Z : State) (h : Heap) (a : Addr) (ys : List Int64) : Prop := AV Z h a .long (ys.map Value.long)
theorem AV.lt (F : AV Z h a ty vs) : a < h.size := by obtain ⟨c, A, -⟩ := F; exact A.lt
theorem AV.ext (F : AV Z h a ty vs) (E : Ext h h') : AV Z h' a ty vs := by obtain ⟨c, A, r⟩ := F; exact ⟨c, A.ext E, r⟩
theorem AV.other (F : AV Z h b ty vs) (W : Wr h h' a sl v) (q : b ≠ a) : AV Z h' b ty vs := by obtain ⟨c, A, r⟩ := F; exact ⟨c, A.other W q, r⟩
theorem AV.keep (F : AV Z h a ty vs) (K : Keep h h' ws) (q : a ∉ ws) : AV Z h' a ty vs := by obtain ⟨c, A, r⟩ := F; exact ⟨c, ⟨K.2.1 a c A.1 q, A.2⟩, r⟩
theorem AI.lt (F : AI Z h a ty xs) : a < h.size := AV.lt F
theorem AI.ext (F : AI Z h a ty xs) (E : Ext h h') : AI Z h' a ty xs := AV.ext F E
theorem AI.other (F : AI Z h b ty xs) (W : Wr h h' a sl v) (q : b ≠ a) : AI Z h' b ty xs := AV.other F W q
theorem AI.keep (F : AI Z h a ty xs) (K : Keep h h' ws) (q : a ∉ ws) : AI Z h' a ty xs := AV.keep F K q
theorem AJ.lt (F : AJ Z h a ys) : a < h.size := AV.lt F
theorem AJ.ext (F : AJ Z h a ys) (E : Ext h h') : AJ Z h' a ys := AV.ext F E
theorem AJ.other (F : AJ Z h b ys) (W : Wr h h' a sl v) (q : b ≠ a) : AJ Z h' b ys := AV.other F W q
theorem AJ.keep (F : AJ Z h a ys) (K : Keep h h' ws) (q : a ∉ ws) : AJ Z h' a ys := AV.keep F K q
theorem own_in {j : Int32} {n : Nat} (h1 : ¬ j < 0) (h2 : j.toNatClampNeg < n) : ¬ (j < 0 ∨ n ≤ j.toNatClampNeg) := fun q => q.elim h1 (fun r => by omega)
theorem AV.new {k : ClassId} {n : Int32} (A : Arr Z h a (newA k ty n) ty) (q : ¬ n < 0) (hf : fits ty (defaultValue ty) = true) : AV Z h a ty (List.replicate n.toNatClampNeg (defaultValue ty)) := by
  refine ⟨_, A, by simp [newA], ?_, fun v hv => ?_⟩
  · rw [List.length_replicate]; exact (back32 q).2
  · rw [List.eq_of_mem_replicate hv]; exact hf
theorem AV.set {cl : Cell} {jn : Nat} (A : Arr Z h a cl ty) (e1 : cl.slots = vs.toArray) (e2 : vs.length < 2147483648) (e3 : ∀ v ∈ vs, fits ty v = true) (hv : fits ty v = true) (W : Wr h h' a jn v) : AV Z h' a ty (vs.set jn v) := by
  refine ⟨cl.setSlot jn v, A.same W, ?_, by rw [List.length_set]; exact e2, fun w hw => ?_⟩
  · simp [Cell.setSlot, e1]
  · rcases List.mem_or_eq_of_mem_set hw with q | q
    · exact e3 w q
    · rw [q]; exact hv
theorem newAI (X : Stand p l e R s m args below meth c T locs cells slots) (hx : p.tables.exec = Jvm.exec) (hZ : Z.Warmed39 s.vm) {aty : ArrayType} (w : (Cond.arrayClass (newarray.typeOf aty)).before a0 Z = true) (eT : T.heap = h) {g : JFrame} (hg : g.method = m) (hd : decode c.code g.pc = .ok (.newarray aty, 2)) {n : Int32} {rest : List Value} (hs : g.stack = .int n :: rest)
    (hn : ¬ n < 0) {ty : FieldType} (hty : newarray.typeOf aty = ty) (hdv : defaultValue ty = .int 0 ∧ fits ty (.int 0) = true) {cap : Nat} (hcap : n.toNatClampNeg ≤ cap) (hb : cap * 8 ≤ 536870912) (hc : cells + 1 ≤ R.cells) (hl : slots + cap ≤ R.slots) {ad : String} (had : "[" ++ (newarray.typeOf aty).toString = ad) :
    ∃ T' h', Stand p l e R s m args below meth c T' locs (cells + 1) (slots + cap) ∧ T'.heap = h' ∧ Ext h h' ∧ Exa Z h' h.size ad ∧ AI Z h' h.size ty (List.replicate n.toNatClampNeg 0) ∧
      ∀ target, Steps p.tables e below (T'.setTop { g with pc := g.pc + 2, stack := .ref h.size :: rest }) target → Steps p.tables e below (T.setTop g) target := by
  subst hty
  obtain ⟨T', h', cA, X', e', E', A', B', st⟩ := newPE X hx hZ w eT hg hd hs hn hcap hb hc hl had
  have V := AV.new A' hn (by rw [hdv.1]; exact hdv.2)
  refine ⟨T', h', X', e', E', B', ?_, st⟩
  unfold AI
  rw [List.map_replicate, ← hdv.1]
  exact V
theorem newAJ (X : Stand p l e R s m args below meth c T locs cells slots) (hx : p.tables.exec = Jvm.exec) (hZ : Z.Warmed39 s.vm) (w : (Cond.arrayClass .long).before a0 Z = true) (eT : T.heap = h) {g : JFrame} (hg : g.method = m) (hd : decode c.code g.pc = .ok (.newarray .long, 2)) {n : Int32} {rest : List Value} (hs : g.stack = .int n :: rest)
    (hn : ¬ n < 0) {cap : Nat} (hcap : n.toNatClampNeg ≤ cap) (hb : cap * 8 ≤ 536870912) (hc : cells + 1 ≤ R.cells) (hl : slots + cap ≤ R.slots) {ad : String} (had : "[" ++ (newarray.typeOf .long).toString = ad) :
    ∃ T' h', Stand p l e R s m args below meth c T' locs (cells + 1) (slots + cap) ∧ T'.heap = h' ∧ Ext h h' ∧ Exa Z h' h.size ad ∧ AJ Z h' h.size (List.replicate n.toNatClampNeg 0) ∧
      ∀ target, Steps p.tables e below (T'.setTop { g with pc := g.pc + 2, stack := .ref h.size :: rest }) target → Steps p.tables e below (T.setTop g) target := by
  obtain ⟨T', h', cA, X', e', E', A', B', st⟩ := newPE X hx hZ (aty := .long) w eT hg hd hs hn hcap hb hc hl had
  have V := AV.new A' hn rfl
  refine ⟨T', h', X', e', E', B', ?_, st⟩
  unfold AJ
  rw [List.map_replicate]
  exact V
theorem own_len {n : Nat} (h : n < 2147483648) : n.toInt32 = Int32.ofNat n := rfl
theorem lenAV (X : Stand p l e R s m args below meth c T locs cells slots) (hx : p.tables.exec = Jvm.exec) (hZ : Z.Warmed39 s.vm) (eT : T.heap = h) (A : AV Z h a ty vs) {g : JFrame} (hg : g.method = m) {rest : List Value} (hs : g.stack = .ref a :: rest) (hd : decode c.code g.pc = .ok (.arraylength, 1)) :
    ∀ target, Steps p.tables e below (T.setTop { g with pc := g.pc + 1, stack := .int (Int32.ofNat vs.length) :: rest }) target → Steps p.tables e below (T.setTop g) target := by
  obtain ⟨cl, A, e1, e2, e3⟩ := A
  intro target k
  have hl : cl.slots.size.toInt32 = Int32.ofNat vs.length := by rw [e1]; rfl
  refine X.arraylength hx (cell := cl) (by rw [eT]; exact A.1) (State.isArrayOf_alike hZ.alike A.2.1) hg hs hd _ ?_
  rw [hl]; exact k
theorem lenAI (X : Stand p l e R s m args below meth c T locs cells slots) (hx : p.tables.exec = Jvm.exec) (hZ : Z.Warmed39 s.vm) (eT : T.heap = h) (A : AI Z h a ty xs) {g : JFrame} (hg : g.method = m) {rest : List Value} (hs : g.stack = .ref a :: rest) (hd : decode c.code g.pc = .ok (.arraylength, 1)) :
    ∀ target, Steps p.tables e below (T.setTop { g with pc := g.pc + 1, stack := .int (Int32.ofNat xs.length) :: rest }) target → Steps p.tables e below (T.setTop g) target := by
  have k := lenAV X hx hZ eT A hg hs hd
  rw [List.length_map] at k; exact k
theorem lenAJ (X : Stand p l e R s m args below meth c T locs cells slots) (hx : p.tables.exec = Jvm.exec) (hZ : Z.Warmed39 s.vm) (eT : T.heap = h) (A : AJ Z h a ys) {g : JFrame} (hg : g.method = m) {rest : List Value} (hs : g.stack = .ref a :: rest) (hd : decode c.code g.pc = .ok (.arraylength, 1)) :
    ∀ target, Steps p.tables e below (T.setTop { g with pc := g.pc + 1, stack := .int (Int32.ofNat ys.length) :: rest }) target → Steps p.tables e below (T.setTop g) target := by
  have k := lenAV X hx hZ eT A hg hs hd
  rw [List.length_map] at k; exact k
theorem own_getI {jn : Nat} (h2 : jn < xs.length) : (xs.map Value.int).toArray[jn]? = some (.int (xs.getD jn 0)) := by
  simp [List.getD_eq_getElem?_getD, h2]
theorem own_getJ {jn : Nat} (h2 : jn < ys.length) : (ys.map Value.long).toArray[jn]? = some (.long (ys.getD jn 0)) := by
  simp [List.getD_eq_getElem?_getD, h2]
theorem ldAI (X : Stand p l e R s m args below meth c T locs cells slots) (hx : p.tables.exec = Jvm.exec) (hZ : Z.Warmed39 s.vm) (eT : T.heap = h) (A : AI Z h a .int xs) {j : Int32} (h1 : ¬ j < 0) (h2 : j.toNatClampNeg < xs.length) {g : JFrame} (hg : g.method = m) {rest : List Value} (hs : g.stack = .int j :: .ref a :: rest) (hd : decode c.code g.pc = .ok (.iaload, 1)) :
    ∀ target, Steps p.tables e below (T.setTop { g with pc := g.pc + 1, stack := .int (xs.getD j.toNatClampNeg 0) :: rest }) target → Steps p.tables e below (T.setTop g) target := by
  obtain ⟨cl, A, e1, e2, e3⟩ := A
  intro target k
  refine X.iaload hx (cell := cl) (by rw [eT]; exact A.1) (State.isArrayOf_alike hZ.alike A.2.1) A.2.2 (own_in h1 (by rw [e1]; simpa using h2)) (by rw [e1]; exact own_getI h2) hg hs hd _ k
theorem ldAB (X : Stand p l e R s m args below meth c T locs cells slots) (hx : p.tables.exec = Jvm.exec) (hZ : Z.Warmed39 s.vm) (eT : T.heap = h) (A : AI Z h a .byte xs) {j : Int32} (h1 : ¬ j < 0) (h2 : j.toNatClampNeg < xs.length) {g : JFrame} (hg : g.method = m) {rest : List Value} (hs : g.stack = .int j :: .ref a :: rest) (hd : decode c.code g.pc = .ok (.baload, 1)) :
    ∀ target, Steps p.tables e below (T.setTop { g with pc := g.pc + 1, stack := .int (xs.getD j.toNatClampNeg 0) :: rest }) target → Steps p.tables e below (T.setTop g) target := by
  obtain ⟨cl, A, e1, e2, e3⟩ := A
  intro target k
  refine X.baloadBytes hx (cell := cl) (by rw [eT]; exact A.1) (State.isArrayOf_alike hZ.alike A.2.1) A.2.2 (own_in h1 (by rw [e1]; simpa using h2)) (by rw [e1]; exact own_getI h2) hg hs hd _ k
theorem ldAJ (X : Stand p l e R s m args below meth c T locs cells slots) (hx : p.tables.exec = Jvm.exec) (hZ : Z.Warmed39 s.vm) (eT : T.heap = h) (A : AJ Z h a ys) {j : Int32} (h1 : ¬ j < 0) (h2 : j.toNatClampNeg < ys.length) {g : JFrame} (hg : g.method = m) {rest : List Value} (hs : g.stack = .int j :: .ref a :: rest) (hd : decode c.code g.pc = .ok (.laload, 1)) :
    ∀ target, Steps p.tables e below (T.setTop { g with pc := g.pc + 1, stack := .long (ys.getD j.toNatClampNeg 0) :: rest }) target → Steps p.tables e below (T.setTop g) target := by
  obtain ⟨cl, A, e1, e2, e3⟩ := A
  intro target k
  refine X.laload hx (cell := cl) (by rw [eT]; exact A.1) (State.isArrayOf_alike hZ.alike A.2.1) A.2.2 (own_in h1 (by rw [e1]; simpa using h2)) (by rw [e1]; exact own_getJ h2) hg hs hd _ k
theorem stAI (X : Stand p l e R s m args below meth c T locs cells slots) (hx : p.tables.exec = Jvm.exec) (hZ : Z.Warmed39 s.vm) (eT : T.heap = h) (A : AI Z h a .int xs) {j x : Int32} (h1 : ¬ j < 0) (h2 : j.toNatClampNeg < xs.length) {g : JFrame} (hg : g.method = m) {rest : List Value} (hs : g.stack = .int x :: .int j :: .ref a :: rest) (hd : decode c.code g.pc = .ok (.iastore, 1)) :
    ∃ T' h', Stand p l e R s m args below meth c T' (locs ++ [⟨a, j.toNatClampNeg⟩]) cells slots ∧ T'.heap = h' ∧ Wr h h' a j.toNatClampNeg (.int x) ∧ AI Z h' a .int (xs.set j.toNatClampNeg x) ∧ ∀ target, Steps p.tables e below (T'.setTop { g with pc := g.pc + 1, stack := rest }) target → Steps p.tables e below (T.setTop g) target := by
  obtain ⟨cl, A, e1, e2, e3⟩ := A
  obtain ⟨T', h', X', e', W', st⟩ := stI X hx hZ eT A (own_in h1 (by rw [e1]; simpa using h2)) hg hs hd
  refine ⟨T', h', X', e', W', ?_, st⟩
  unfold AI
  rw [List.map_set]
  exact AV.set A e1 e2 e3 rfl W'
theorem stAB (X : Stand p l e R s m args below meth c T locs cells slots) (hx : p.tables.exec = Jvm.exec) (hZ : Z.Warmed39 s.vm) (eT : T.heap = h) (A : AI Z h a .byte xs) {j x : Int32} (h1 : ¬ j < 0) (h2 : j.toNatClampNeg < xs.length) {g : JFrame} (hg : g.method = m) {rest : List Value} (hs : g.stack = .int x :: .int j :: .ref a :: rest) (hd : decode c.code g.pc = .ok (.bastore, 1)) :
    ∃ T' h', Stand p l e R s m args below meth c T' (locs ++ [⟨a, j.toNatClampNeg⟩]) cells slots ∧ T'.heap = h' ∧ Wr h h' a j.toNatClampNeg (.int (x.toInt8.toInt32)) ∧ AI Z h' a .byte (xs.set j.toNatClampNeg (x.toInt8.toInt32)) ∧ ∀ target, Steps p.tables e below (T'.setTop { g with pc := g.pc + 1, stack := rest }) target → Steps p.tables e below (T.setTop g) target := by
  obtain ⟨cl, A, e1, e2, e3⟩ := A
  obtain ⟨T', h', X', e', W', st⟩ := stB X hx hZ eT A (own_in h1 (by rw [e1]; simpa using h2)) hg hs hd
  refine ⟨T', h', X', e', W', ?_, st⟩
  unfold AI
  rw [List.map_set]
  exact AV.set A e1 e2 e3 (fits_nar_byte x) W'
theorem own_b2 (y : Int32) : (y.toInt8.toInt32).toInt8.toInt32 = y.toInt8.toInt32 := by simp
theorem stABn (X : Stand p l e R s m args below meth c T locs cells slots) (hx : p.tables.exec = Jvm.exec) (hZ : Z.Warmed39 s.vm) (eT : T.heap = h) (A : AI Z h a .byte xs) {j y : Int32} (h1 : ¬ j < 0) (h2 : j.toNatClampNeg < xs.length) {g : JFrame} (hg : g.method = m) {rest : List Value} (hs : g.stack = .int (y.toInt8.toInt32) :: .int j :: .ref a :: rest) (hd : decode c.code g.pc = .ok (.bastore, 1)) :
    ∃ T' h', Stand p l e R s m args below meth c T' (locs ++ [⟨a, j.toNatClampNeg⟩]) cells slots ∧ T'.heap = h' ∧ Wr h h' a j.toNatClampNeg (.int (y.toInt8.toInt32)) ∧ AI Z h' a .byte (xs.set j.toNatClampNeg (y.toInt8.toInt32)) ∧ ∀ target, Steps p.tables e below (T'.setTop { g with pc := g.pc + 1, stack := rest }) target → Steps p.tables e below (T.setTop g) target := by
  have k := stAB X hx hZ eT A h1 h2 hg hs hd
  rw [own_b2] at k
  exact k
theorem stAJ (X : Stand p l e R s m args below meth c T locs cells slots) (hx : p.tables.exec = Jvm.exec) (hZ : Z.Warmed39 s.vm) (eT : T.heap = h) (A : AJ Z h a ys) {j : Int32} {x : Int64} (h1 : ¬ j < 0) (h2 : j.toNatClampNeg < ys.length) {g : JFrame} (hg : g.method = m) {rest : List Value} (hs : g.stack = .long x :: .int j :: .ref a :: rest) (hd : decode c.code g.pc = .ok (.lastore, 1)) :
    ∃ T' h', Stand p l e R s m args below meth c T' (locs ++ [⟨a, j.toNatClampNeg⟩]) cells slots ∧ T'.heap = h' ∧ Wr h h' a j.toNatClampNeg (.long x) ∧ AJ Z h' a (ys.set j.toNatClampNeg x) ∧ ∀ target, Steps p.tables e below (T'.setTop { g with pc := g.pc + 1, stack := rest }) target → Steps p.tables e below (T.setTop g) target := by
  obtain ⟨cl, A, e1, e2, e3⟩ := A
  obtain ⟨T', h', X', e', W', st⟩ := stJ X hx hZ eT A (own_in h1 (by rw [e1]; simpa using h2)) hg hs hd
  refine ⟨T', h', X', e', W', ?_, st⟩
  unfold AJ
  rw [List.map_set]
  exact AV.set A e1 e2 e3 rfl W'
end OwnArr
section OwnClone
variable {p : Program} {l : Launch} {e : Env} {R : Room} {s : State} {m : MethodId} {args : Array Value} {below : List Frame} {meth : Method} {c : Code} {T T' : State} {locs : List Loc} {cells slots : Nat} {Z : State} {a0 : Array Value} {h h' : Heap} {a b : Addr} {ty : FieldType} {xs : List Int32}
theorem cloneAI (X : Stand p l e R s m args below meth c T locs cells slots) (hx : p.tables.exec = Jvm.exec) (hZ : Z.Warmed39 s.vm) {own ad : String} {index : Nat} (hown : s.vm.findClass own = some m.cls)
    (w1 : (Cond.methodLink own index ⟨ad, "clone", "()Ljava/lang/Object;"⟩).before a0 Z = true) (w2 : (Cond.sameMethod ad "java/lang/Object" "clone" "()Ljava/lang/Object;").before a0 Z = true) (w3 : (Cond.native ⟨"java/lang/Object", "clone", "()Ljava/lang/Object;"⟩).before a0 Z = true)
    (w4 : (Cond.instanceMethod ⟨"java/lang/Object", "clone", "()Ljava/lang/Object;"⟩).before a0 Z = true) (w5 : (Cond.selects ad ⟨ad, "clone", "()Ljava/lang/Object;"⟩ ⟨"java/lang/Object", "clone", "()Ljava/lang/Object;"⟩).before a0 Z = true) (w6 : (Cond.castable ad "java/lang/Cloneable").before a0 Z = true)
    (eT : T.heap = h) (A : AI Z h a ty xs) (E : Exa Z h a ad) {g : JFrame} (hg : g.method = m) (hsize : g.locals.size = c.maxLocals) {rest : List Value} (hst : g.stack = .ref a :: rest) (hd : decode c.code g.pc = .ok (.invokevirtual index, 3))
    (hf : 1 ≤ R.frames) {W cap : Nat} (hW : 2 * g.monitorRoom + (rest.map fun v => v.category).sum ≤ W) (hl : W + 14 ≤ R.locals) (hcap : xs.length ≤ cap) (hc : cells + 1 ≤ R.cells) (hsl : slots + cap ≤ R.slots) :
    ∃ T' h', Stand p l e R s m args below meth c T' locs (cells + 1) (slots + cap) ∧ T'.heap = h' ∧ Ext h h' ∧ Exa Z h' h.size ad ∧ AI Z h' h.size ty xs ∧
      ∀ target, Steps p.tables e below (T'.setTop { g with pc := g.pc + 3, stack := .ref h.size :: rest }) target → Steps p.tables e below (T.setTop g) target := by
  obtain ⟨cl, A, e1, e2, e3⟩ := A
  have FC : FitC Z cl := fitC_of A fun i hi v hv => by
    rw [e1] at hv
    exact e3 v (by simpa using Array.mem_of_getElem? hv)
  obtain ⟨T', h', X', e', ex, A', E', st⟩ := cloneA X hx hZ hown w1 w2 w3 w4 w5 w6 eT A E FC hg hsize hst hd hf hW hl (by rw [e1]; simpa using hcap) hc hsl
  exact ⟨T', h', X', e', ex, E', ⟨_, A', e1, e2, e3⟩, st⟩
end OwnClone


theorem d_pcheck_0 : decode jdk_41_method_13_code 0 = .ok (.iload_n 2, 1) := by decide +kernel
theorem d_pcheck_1 : decode jdk_41_method_13_code 1 = .ok (.iload_n 0, 1) := by decide +kernel
theorem d_pcheck_2 : decode jdk_41_method_13_code 2 = .ok (.ior, 1) := by decide +kernel
theorem d_pcheck_3 : decode jdk_41_method_13_code 3 = .ok (.iload_n 1, 1) := by decide +kernel
theorem d_pcheck_4 : decode jdk_41_method_13_code 4 = .ok (.ior, 1) := by decide +kernel
theorem d_pcheck_5 : decode jdk_41_method_13_code 5 = .ok (.ifCond .lt 10, 3) := by decide +kernel
theorem d_pcheck_8 : decode jdk_41_method_13_code 8 = .ok (.iload_n 1, 1) := by decide +kernel
theorem d_pcheck_9 : decode jdk_41_method_13_code 9 = .ok (.iload_n 2, 1) := by decide +kernel
theorem d_pcheck_10 : decode jdk_41_method_13_code 10 = .ok (.iload_n 0, 1) := by decide +kernel
theorem d_pcheck_11 : decode jdk_41_method_13_code 11 = .ok (.isub, 1) := by decide +kernel
theorem d_pcheck_12 : decode jdk_41_method_13_code 12 = .ok (.if_icmp .le 11, 3) := by decide +kernel
theorem d_pcheck_23 : decode jdk_41_method_13_code 23 = .ok (.iload_n 0, 1) := by decide +kernel
theorem d_pcheck_24 : decode jdk_41_method_13_code 24 = .ok (.ireturn, 1) := by decide +kernel
theorem ef_pcheck (m : MethodId) (v0 : Int32) (v1 : Int32) (v2 : Int32) : entryFrame m #[(.int v0), (.int v1), (.int v2), .null] 4 = mkF m 0 #[.val (.int v0), .val (.int v1), .val (.int v2), .val .null] [] := by first | (simp [entryFrame, mkF, argsToLocals, Value.category]; done) | rfl
def Q_pcheck (Z : State) (v0 : Int32) (v1 : Int32) (v2 : Int32) (h0 : Heap) (n0 : Nat) (v : Option Value) (h : Heap) (L : List Loc) : Prop := v = some (.int v0) ∧ Fr n0 L ∧ h = h0
set_option maxRecDepth 65536 in
set_option maxHeartbeats 40000000 in
theorem rm_pcheck (l : Launch) (Z : State) (a0 : Array Value) (hw : ∀ d ∈ tables_1, d.before a0 Z = true) (ws : List Jvm.Cond) (v0 : Int32) (v1 : Int32) (v2 : Int32) (h0 : Heap) (n0 : Nat) (Z0 : n0 ≤ h0.size) (h1 : ¬ (((v2 ||| v0) ||| v1) < (0 : Int32))) (h2 : ¬ ((v2 - v0) < v1)) :
    MetFree l (⟨"jdk/internal/util/Preconditions", "checkFromIndexSize", "(IIILjava/util/function/BiFunction;)I"⟩ : MethodName) (head1 (Jvm.Cond.code (⟨"jdk/internal/util/Preconditions", "checkFromIndexSize", "(IIILjava/util/function/BiFunction;)I"⟩ : MethodName) jdk_41_method_13_code 4 (some .int) :: ws) ({ frames := 0, cells := 0, slots := 0, locals := 0 } : Room)) (fun a U => a = #[(.int v0), (.int v1), (.int v2), .null] ∧ Z.Warmed39 U.vm ∧ U.heap = h0) (fun _ _ _ _ _ => True) (fun _ U o U' => ∃ v L, o = .returned v ∧ Q_pcheck Z v0 v1 v2 h0 n0 v U'.heap L ∧ FrameEnd U o U' L ({ frames := 0, cells := 0, slots := 0, locals := 0 } : Room).cells ({ frames := 0, cells := 0, slots := 0, locals := 0 } : Room).slots) := by
  refine MetFree.of_bodySF (plainFor_of_name (by first | (simp [plainName, overriddenIn]; done) | decide +kernel)) hisR ?_
  intro p e s m args below meth c s₁ Bd hml0 hP hK
  obtain ⟨rfl, hZ, hh⟩ := hP
  have hx := Bd.exec
  have hby := Bd.bytes
  have hml : c.maxLocals = 4 := hml0
  have hown : s.vm.findClass "jdk/internal/util/Preconditions" = some m.cls := findClass_of_methodNamed Bd.named
  have hnm := (name_of_methodNamed Bd.named Bd.method).1
  have hlk : meth.locks = false := Bd.notSynchronized
  have X0 : Stand p l e ({ frames := 0, cells := 0, slots := 0, locals := 0 } : Room) s m #[(.int v0), (.int v1), (.int v2), .null] below meth c s₁ [] 0 0 := Stand.of_body Bd
  have e0 : s₁.heap = h0 := by rw [← hh, Bd.state]; rfl
  have N0 := Fr.nil n0
  refine Go.enter (Q := Q_pcheck Z v0 v1 v2 h0 n0) (C := ({ frames := 0, cells := 0, slots := 0, locals := 0 } : Room).cells) (N := ({ frames := 0, cells := 0, slots := 0, locals := 0 } : Room).slots) (ef_pcheck m v0 v1 v2) ?_
  show Go p e below s _ _ _ s₁ (mkF m 0 #[.val (.int v0), .val (.int v1), .val (.int v2), .val .null] [])
  refine G_iloadN X0 hx (pc' := 1) rfl (hb hby d_pcheck_0) rfl ?_
  refine G_iloadN X0 hx (pc' := 2) rfl (hb hby d_pcheck_1) rfl ?_
  refine G_ior X0 hx (pc' := 3) rfl (hb hby d_pcheck_2)  ?_
  refine G_iloadN X0 hx (pc' := 4) rfl (hb hby d_pcheck_3) rfl ?_
  refine G_ior X0 hx (pc' := 5) rfl (hb hby d_pcheck_4)  ?_
  refine G_ifNo X0 hx (pc' := 8) rfl (hb hby d_pcheck_5) ((if0 _ _).trans (flt (h1 : ¬ (((v2 ||| v0) ||| v1) < (0 : Int32)))).1) ?_
  refine G_iloadN X0 hx (pc' := 9) rfl (hb hby d_pcheck_8) rfl ?_
  refine G_iloadN X0 hx (pc' := 10) rfl (hb hby d_pcheck_9) rfl ?_
  refine G_iloadN X0 hx (pc' := 11) rfl (hb hby d_pcheck_10) rfl ?_
  refine G_isub X0 hx (pc' := 12) rfl (hb hby d_pcheck_11)  ?_
  refine G_icmpYes X0 hx (pc' := 23) (hb hby d_pcheck_12) (flt (h2 : ¬ ((v2 - v0) < v1))).2.2.2 (by decide) (by decide) ?_
  refine G_iloadN X0 hx (pc' := 24) rfl (hb hby d_pcheck_23) rfl ?_
  refine Go.fin X0 hlk (v := some (.int v0)) (fun h => by rw [Bd.returns] at h; cases h) (by decide) (by decide) ?_ (fun fs hr => retOut X0 hx Bd.returns rfl (Or.inl ⟨rfl, Or.inl rfl, _, rfl⟩) (hb hby d_pcheck_24) hr)
  show Q_pcheck Z v0 v1 v2 h0 n0 _ s₁.heap _
  rw [e0]
  exact ⟨rfl, N0, rfl⟩
theorem d_ocheck_0 : decode jdk_31_method_19_code 0 = .ok (.iload_n 0, 1) := by decide +kernel
theorem d_ocheck_1 : decode jdk_31_method_19_code 1 = .ok (.iload_n 1, 1) := by decide +kernel
theorem d_ocheck_2 : decode jdk_31_method_19_code 2 = .ok (.iload_n 2, 1) := by decide +kernel
theorem d_ocheck_3 : decode jdk_31_method_19_code 3 = .ok (.aconst_null, 1) := by decide +kernel
theorem d_ocheck_4 : decode jdk_31_method_19_code 4 = .ok (.invokestatic 115, 3) := by decide +kernel
theorem pd_0 : parseMethodDescriptor "(IIILjava/util/function/BiFunction;)I" = some ⟨[.int, .int, .int, (.object "java/util/function/BiFunction")], some .int⟩ := by decide +kernel
theorem d_ocheck_7 : decode jdk_31_method_19_code 7 = .ok (.ireturn, 1) := by decide +kernel
theorem ef_ocheck (m : MethodId) (v0 : Int32) (v1 : Int32) (v2 : Int32) : entryFrame m #[(.int v0), (.int v1), (.int v2)] 3 = mkF m 0 #[.val (.int v0), .val (.int v1), .val (.int v2)] [] := by first | (simp [entryFrame, mkF, argsToLocals, Value.category]; done) | rfl
def Q_ocheck (Z : State) (v0 : Int32) (v1 : Int32) (v2 : Int32) (h0 : Heap) (n0 : Nat) (v : Option Value) (h : Heap) (L : List Loc) : Prop := v = some (.int v0) ∧ Fr n0 L ∧ h = h0
set_option maxRecDepth 65536 in
set_option maxHeartbeats 40000000 in
theorem rm_ocheck (l : Launch) (Z : State) (a0 : Array Value) (hw : ∀ d ∈ tables_1, d.before a0 Z = true) (ws : List Jvm.Cond) (v0 : Int32) (v1 : Int32) (v2 : Int32) (h0 : Heap) (n0 : Nat) (Z0 : n0 ≤ h0.size) (h1 : ¬ (((v2 ||| v0) ||| v1) < (0 : Int32))) (h2 : ¬ ((v2 - v0) < v1)) :
    MetFree l (⟨"java/util/Objects", "checkFromIndexSize", "(III)I"⟩ : MethodName) (head1 (Jvm.Cond.code (⟨"java/util/Objects", "checkFromIndexSize", "(III)I"⟩ : MethodName) jdk_31_method_19_code 3 (some .int) :: ws) ({ frames := 1, cells := 0, slots := 0, locals := 15 } : Room)) (fun a U => a = #[(.int v0), (.int v1), (.int v2)] ∧ Z.Warmed39 U.vm ∧ U.heap = h0) (fun _ _ _ _ _ => True) (fun _ U o U' => ∃ v L, o = .returned v ∧ Q_ocheck Z v0 v1 v2 h0 n0 v U'.heap L ∧ FrameEnd U o U' L ({ frames := 1, cells := 0, slots := 0, locals := 15 } : Room).cells ({ frames := 1, cells := 0, slots := 0, locals := 15 } : Room).slots) := by
  refine MetFree.of_bodySF (plainFor_of_name (by first | (simp [plainName, overriddenIn]; done) | decide +kernel)) hisR ?_
  intro p e s m args below meth c s₁ Bd hml0 hP hK
  obtain ⟨rfl, hZ, hh⟩ := hP
  have hx := Bd.exec
  have hby := Bd.bytes
  have hml : c.maxLocals = 3 := hml0
  have hown : s.vm.findClass "java/util/Objects" = some m.cls := findClass_of_methodNamed Bd.named
  have hnm := (name_of_methodNamed Bd.named Bd.method).1
  have hlk : meth.locks = false := Bd.notSynchronized
  have X0 : Stand p l e ({ frames := 1, cells := 0, slots := 0, locals := 15 } : Room) s m #[(.int v0), (.int v1), (.int v2)] below meth c s₁ [] 0 0 := Stand.of_body Bd
  have e0 : s₁.heap = h0 := by rw [← hh, Bd.state]; rfl
  have N0 := Fr.nil n0
  refine Go.enter (Q := Q_ocheck Z v0 v1 v2 h0 n0) (C := ({ frames := 1, cells := 0, slots := 0, locals := 15 } : Room).cells) (N := ({ frames := 1, cells := 0, slots := 0, locals := 15 } : Room).slots) (ef_ocheck m v0 v1 v2) ?_
  show Go p e below s _ _ _ s₁ (mkF m 0 #[.val (.int v0), .val (.int v1), .val (.int v2)] [])
  refine G_iloadN X0 hx (pc' := 1) rfl (hb hby d_ocheck_0) rfl ?_
  refine G_iloadN X0 hx (pc' := 2) rfl (hb hby d_ocheck_1) rfl ?_
  refine G_iloadN X0 hx (pc' := 3) rfl (hb hby d_ocheck_2) rfl ?_
  refine G_aconstNull X0 hx (pc' := 4) rfl (hb hby d_ocheck_3)  ?_
  obtain ⟨_, _, ⟨T1, L1, k1, n1⟩, -, X1, ⟨Lc1, hQ1, l1, y1, z1⟩, st1⟩ := Jvm.LawKit.callS X0 hx (y := (⟨"jdk/internal/util/Preconditions", "checkFromIndexSize", "(IIILjava/util/function/BiFunction;)I"⟩ : MethodName)) hown (mvT hZ (hw _ (List.mem_of_getElem? (i := 15) rfl))) (mvT hZ (hw _ (List.mem_of_getElem? (i := 16) rfl))) (mvT hZ (hw _ (List.mem_of_getElem? (i := 17) rfl))) (mvT hZ (hw _ (List.mem_of_getElem? (i := 18) rfl))) (by decide) (backOf (W := 0) (rm_pcheck l Z a0 hw [] v0 v1 v2 h0 n0 Z0 h1 h2) hZ (hw _ (List.mem_of_getElem? (i := 18) rfl)) (hw _ (List.mem_of_getElem? (i := 17) rfl)) (by decide) (by decide)) (g := (mkF m 4 #[.val (.int v0), .val (.int v1), .val (.int v2)] [.null, (.int v2), (.int v1), (.int v0)])) rfl (by rw [hml]; rfl) (argsL := [(.int v0), (.int v1), (.int v2), .null]) (rest := []) (lenOf pd_0 rfl) rfl (by show 2 * 0 + _ ≤ _; exact Nat.le_of_eq rfl) (hb hby d_ocheck_4) (fun _ _ => ⟨rfl, e0, (by decide : 0 + 0 ≤ _), (by decide : 0 + 0 ≤ _)⟩)
  dsimp only [Pt.U, Pt.locs, Pt.cells, Pt.slots] at X1 l1 y1 z1 st1 hQ1
  subst l1 y1 z1
  obtain ⟨rfl, N1q, e1⟩ := hQ1
  have N1 := Fr.app N0 N1q
  refine Go.st st1 ?_
  show Go p e below s _ _ _ T1 (mkF m 7 #[.val (.int v0), .val (.int v1), .val (.int v2)] [(.int v0)])
  refine Go.fin X1 hlk (v := some (.int v0)) (fun h => by rw [Bd.returns] at h; cases h) (by decide) (by decide) ?_ (fun fs hr => retOut X1 hx Bd.returns rfl (Or.inl ⟨rfl, Or.inl rfl, _, rfl⟩) (hb hby d_ocheck_7) hr)
  show Q_ocheck Z v0 v1 v2 h0 n0 _ T1.heap _
  rw [e1]
  exact ⟨rfl, N1, rfl⟩
theorem d_rinit_0 : decode prog_59_method_1_code 0 = .ok (.aload_n 0, 1) := by decide +kernel
theorem d_rinit_1 : decode prog_59_method_1_code 1 = .ok (.invokespecial 3, 3) := by decide +kernel
theorem d_rinit_4 : decode prog_59_method_1_code 4 = .ok (.iload_n 2, 1) := by decide +kernel
theorem d_rinit_5 : decode prog_59_method_1_code 5 = .ok (.iload_n 3, 1) := by decide +kernel
theorem d_rinit_6 : decode prog_59_method_1_code 6 = .ok (.aload_n 1, 1) := by decide +kernel
theorem d_rinit_7 : decode prog_59_method_1_code 7 = .ok (.arraylength, 1) := by decide +kernel
theorem d_rinit_8 : decode prog_59_method_1_code 8 = .ok (.invokestatic 9, 3) := by decide +kernel
theorem pd_1 : parseMethodDescriptor "(III)I" = some ⟨[.int, .int, .int], some .int⟩ := by decide +kernel
theorem d_rinit_11 : decode prog_59_method_1_code 11 = .ok (.pop, 1) := by decide +kernel
theorem d_rinit_12 : decode prog_59_method_1_code 12 = .ok (.aload_n 0, 1) := by decide +kernel
theorem d_rinit_13 : decode prog_59_method_1_code 13 = .ok (.aload_n 1, 1) := by decide +kernel
theorem d_rinit_14 : decode prog_59_method_1_code 14 = .ok (.putfield 15, 3) := by decide +kernel
theorem d_rinit_17 : decode prog_59_method_1_code 17 = .ok (.aload_n 0, 1) := by decide +kernel
theorem d_rinit_18 : decode prog_59_method_1_code 18 = .ok (.iload_n 2, 1) := by decide +kernel
theorem d_rinit_19 : decode prog_59_method_1_code 19 = .ok (.putfield 21, 3) := by decide +kernel
theorem d_rinit_22 : decode prog_59_method_1_code 22 = .ok (.aload_n 0, 1) := by decide +kernel
theorem d_rinit_23 : decode prog_59_method_1_code 23 = .ok (.iload_n 2, 1) := by decide +kernel
theorem d_rinit_24 : decode prog_59_method_1_code 24 = .ok (.iload_n 3, 1) := by decide +kernel
theorem d_rinit_25 : decode prog_59_method_1_code 25 = .ok (.iadd, 1) := by decide +kernel
theorem d_rinit_26 : decode prog_59_method_1_code 26 = .ok (.putfield 25, 3) := by decide +kernel
theorem d_rinit_29 : decode prog_59_method_1_code 29 = .ok (.return_, 1) := by decide +kernel
theorem ef_rinit (m : MethodId) (v0 : Addr) (v1 : Addr) (v2 : Int32) (v3 : Int32) : entryFrame m #[(.ref v0), (.ref v1), (.int v2), (.int v3)] 4 = mkF m 0 #[.val (.ref v0), .val (.ref v1), .val (.int v2), .val (.int v3)] [] := by first | (simp [entryFrame, mkF, argsToLocals, Value.category]; done) | rfl
def Q_rinit (Z : State) (v0 : Addr) (v1 : Addr) (v2 : Int32) (v3 : Int32) (xs : List Int32) (h0 : Heap) (n0 : Nat) (v : Option Value) (h : Heap) (L : List Loc) : Prop := v = none ∧ Fr n0 L ∧ Keep h0 h [v0] ∧ Exa Z h v0 "managerie/snmp/Ber$Reader" ∧ Fld Z h v0 "managerie/snmp/Ber$Reader" "data" "[B" (.ref v1) ∧ Fld Z h v0 "managerie/snmp/Ber$Reader" "position" "I" (.int v2) ∧ Fld Z h v0 "managerie/snmp/Ber$Reader" "end" "I" (.int (v2 + v3))
set_option maxRecDepth 65536 in
set_option maxHeartbeats 40000000 in
theorem rm_rinit (l : Launch) (Z : State) (a0 : Array Value) (hw : ∀ d ∈ tables_1, d.before a0 Z = true) (ws : List Jvm.Cond) (v0 : Addr) (v1 : Addr) (v2 : Int32) (v3 : Int32) (xs : List Int32) (h0 : Heap) (n0 : Nat) (Z0 : n0 ≤ h0.size) (f0_E_v0 : Exa Z h0 v0 "managerie/snmp/Ber$Reader") (f1_F_v0 : Fld Z h0 v0 "managerie/snmp/Ber$Reader" "data" "[B" .null) (f2_F_v0 : Fld Z h0 v0 "managerie/snmp/Ber$Reader" "position" "I" (.int (0 : Int32))) (f3_F_v0 : Fld Z h0 v0 "managerie/snmp/Ber$Reader" "end" "I" (.int (0 : Int32))) (f4_A_v1 : AI Z h0 v1 .byte xs) (g_v0 : n0 ≤ v0) (ne_v1_v0 : v1 ≠ v0) (h1 : ¬ ((((Int32.ofNat (xs).length) ||| v2) ||| v3) < (0 : Int32))) (h2 : ¬ (((Int32.ofNat (xs).length) - v2) < v3)) :
    MetFree l (⟨"managerie/snmp/Ber$Reader", "<init>", "([BII)V"⟩ : MethodName) (head1 (Jvm.Cond.code (⟨"managerie/snmp/Ber$Reader", "<init>", "([BII)V"⟩ : MethodName) prog_59_method_1_code 4 none :: ws) ({ frames := 2, cells := 0, slots := 0, locals := 29 } : Room)) (fun a U => a = #[(.ref v0), (.ref v1), (.int v2), (.int v3)] ∧ Z.Warmed39 U.vm ∧ U.heap = h0) (fun _ _ _ _ _ => True) (fun _ U o U' => ∃ v L, o = .returned v ∧ Q_rinit Z v0 v1 v2 v3 xs h0 n0 v U'.heap L ∧ FrameEnd U o U' L ({ frames := 2, cells := 0, slots := 0, locals := 29 } : Room).cells ({ frames := 2, cells := 0, slots := 0, locals := 29 } : Room).slots) := by
  refine MetFree.of_bodySF (plainFor_of_name (by first | (simp [plainName, overriddenIn]; done) | decide +kernel)) hisR ?_
  intro p e s m args below meth c s₁ Bd hml0 hP hK
  obtain ⟨rfl, hZ, hh⟩ := hP
  have hx := Bd.exec
  have hby := Bd.bytes
  have hml : c.maxLocals = 4 := hml0
  have hown : s.vm.findClass "managerie/snmp/Ber$Reader" = some m.cls := findClass_of_methodNamed Bd.named
  have hnm := (name_of_methodNamed Bd.named Bd.method).1
  have hlk : meth.locks = false := Bd.notSynchronized
  have X0 : Stand p l e ({ frames := 2, cells := 0, slots := 0, locals := 29 } : Room) s m #[(.ref v0), (.ref v1), (.int v2), (.int v3)] below meth c s₁ [] 0 0 := Stand.of_body Bd
  have e0 : s₁.heap = h0 := by rw [← hh, Bd.state]; rfl
  have N0 := Fr.nil n0
  refine Go.enter (Q := Q_rinit Z v0 v1 v2 v3 xs h0 n0) (C := ({ frames := 2, cells := 0, slots := 0, locals := 29 } : Room).cells) (N := ({ frames := 2, cells := 0, slots := 0, locals := 29 } : Room).slots) (ef_rinit m v0 v1 v2 v3) ?_
  show Go p e below s _ _ _ s₁ (mkF m 0 #[.val (.ref v0), .val (.ref v1), .val (.int v2), .val (.int v3)] [])
  refine G_aloadN X0 hx (pc' := 1) rfl (hb hby d_rinit_0) rfl rfl ?_
  obtain ⟨T2, X2, e2, st2⟩ := initO X0 hx hZ hown (hw _ (List.mem_of_getElem? (i := 8) rfl)) (hw _ (List.mem_of_getElem? (i := 9) rfl)) (hw _ (List.mem_of_getElem? (i := 10) rfl)) e0 (g := (mkF m 1 #[.val (.ref v0), .val (.ref v1), .val (.int v2), .val (.int v3)] [(.ref v0)])) rfl (by rw [hml]; rfl) rfl (hb hby d_rinit_1) (by decide) (W := 0) (by show 2 * 0 + _ ≤ _; exact Nat.le_of_eq rfl) (by decide)
  refine Go.st st2 ?_
  show Go p e below s _ _ _ T2 (mkF m 4 #[.val (.ref v0), .val (.ref v1), .val (.int v2), .val (.int v3)] [])
  refine G_iloadN X2 hx (pc' := 5) rfl (hb hby d_rinit_4) rfl ?_
  refine G_iloadN X2 hx (pc' := 6) rfl (hb hby d_rinit_5) rfl ?_
  refine G_aloadN X2 hx (pc' := 7) rfl (hb hby d_rinit_6) rfl rfl ?_
  refine Go.st (lenAI X2 hx hZ e2 f4_A_v1 (g := (mkF m 7 #[.val (.ref v0), .val (.ref v1), .val (.int v2), .val (.int v3)] [(.ref v1), (.int v3), (.int v2)])) rfl rfl (hb hby d_rinit_7)) ?_
  show Go p e below s _ _ _ T2 (mkF m 8 #[.val (.ref v0), .val (.ref v1), .val (.int v2), .val (.int v3)] [(.int (Int32.ofNat (xs).length)), (.int v3), (.int v2)])
  obtain ⟨_, _, ⟨T3, L3, k3, n3⟩, -, X3, ⟨Lc3, hQ3, l3, y3, z3⟩, st3⟩ := Jvm.LawKit.callS X2 hx (y := (⟨"java/util/Objects", "checkFromIndexSize", "(III)I"⟩ : MethodName)) hown (mvT hZ (hw _ (List.mem_of_getElem? (i := 11) rfl))) (mvT hZ (hw _ (List.mem_of_getElem? (i := 12) rfl))) (mvT hZ (hw _ (List.mem_of_getElem? (i := 13) rfl))) (mvT hZ (hw _ (List.mem_of_getElem? (i := 14) rfl))) (by decide) (backOf (W := 0) (rm_ocheck l Z a0 hw [] v2 v3 (Int32.ofNat (xs).length) h0 n0 Z0 h1 h2) hZ (hw _ (List.mem_of_getElem? (i := 14) rfl)) (hw _ (List.mem_of_getElem? (i := 13) rfl)) (by decide) (by decide)) (g := (mkF m 8 #[.val (.ref v0), .val (.ref v1), .val (.int v2), .val (.int v3)] [(.int (Int32.ofNat (xs).length)), (.int v3), (.int v2)])) rfl (by rw [hml]; rfl) (argsL := [(.int v2), (.int v3), (.int (Int32.ofNat (xs).length))]) (rest := []) (lenOf pd_1 rfl) rfl (by show 2 * 0 + _ ≤ _; exact Nat.le_of_eq rfl) (hb hby d_rinit_8) (fun _ _ => ⟨rfl, e2, (by decide : 0 + 0 ≤ _), (by decide : 0 + 0 ≤ _)⟩)
  dsimp only [Pt.U, Pt.locs, Pt.cells, Pt.slots] at X3 l3 y3 z3 st3 hQ3
  subst l3 y3 z3
  obtain ⟨rfl, N3q, e3⟩ := hQ3
  have N3 := Fr.app N0 N3q
  refine Go.st st3 ?_
  show Go p e below s _ _ _ T3 (mkF m 11 #[.val (.ref v0), .val (.ref v1), .val (.int v2), .val (.int v3)] [(.int v2)])
  refine G_pop X3 hx (pc' := 12) rfl (hb hby d_rinit_11) rfl ?_
  refine G_aloadN X3 hx (pc' := 13) rfl (hb hby d_rinit_12) rfl rfl ?_
  refine G_aloadN X3 hx (pc' := 14) rfl (hb hby d_rinit_13) rfl rfl ?_
  obtain ⟨T4, h4, X4, e4, W4, st4⟩ := putF X3 hx hZ hown (host := "") (Or.inl (hw _ (List.mem_of_getElem? (i := 19) rfl))) Via.refl e3 f1_F_v0 f0_E_v0 (Or.inr ⟨(hw _ (List.mem_of_getElem? (i := 20) rfl)), rfl, hnm⟩) (hw _ (List.mem_of_getElem? (i := 3) rfl)) (ty := (.array .byte)) (by decide) rfl rfl (g := (mkF m 14 #[.val (.ref v0), .val (.ref v1), .val (.int v2), .val (.int v3)] [(.ref v1), (.ref v0)])) rfl rfl (hb hby d_rinit_14)
  refine Go.st st4 ?_
  have F_v0_w4 := f1_F_v0.same W4
  have E_v0_4 := f0_E_v0.wr W4
  have F_v0_position_4 := f2_F_v0.other W4 (Or.inr (slot_ne (Or.inl (hw _ (List.mem_of_getElem? (i := 22) rfl))) (Or.inr (hw _ (List.mem_of_getElem? (i := 20) rfl))) (by decide) (t := .int) (t' := (.array .byte)) (by decide) (by decide)))
  have F_v0_end_4 := f3_F_v0.other W4 (Or.inr (slot_ne (Or.inr (hw _ (List.mem_of_getElem? (i := 24) rfl))) (Or.inr (hw _ (List.mem_of_getElem? (i := 20) rfl))) (by decide) (t := .int) (t' := (.array .byte)) (by decide) (by decide)))
  have A_v1_4 := f4_A_v1.other W4 ne_v1_v0
  have K_4 : Keep h0 h4 [v0] := (Keep.refl h0 [v0]).wr W4 (Or.inl (List.mem_of_getElem? (i := 0) rfl))
  have Z_4 : n0 ≤ h4.size := Nat.le_trans Z0 K_4.1
  have N4 := Fr.snoc X4 N3 g_v0
  show Go p e below s _ _ _ T4 (mkF m 17 #[.val (.ref v0), .val (.ref v1), .val (.int v2), .val (.int v3)] [])
  refine G_aloadN X4 hx (pc' := 18) rfl (hb hby d_rinit_17) rfl rfl ?_
  refine G_iloadN X4 hx (pc' := 19) rfl (hb hby d_rinit_18) rfl ?_
  obtain ⟨T5, h5, X5, e5, W5, st5⟩ := putF X4 hx hZ hown (host := "") (Or.inl (hw _ (List.mem_of_getElem? (i := 21) rfl))) Via.refl e4 F_v0_position_4 E_v0_4 (Or.inl (hw _ (List.mem_of_getElem? (i := 22) rfl))) (hw _ (List.mem_of_getElem? (i := 3) rfl)) (ty := .int) (by decide) rfl rfl (g := (mkF m 19 #[.val (.ref v0), .val (.ref v1), .val (.int v2), .val (.int v3)] [(.int v2), (.ref v0)])) rfl rfl (hb hby d_rinit_19)
  refine Go.st st5 ?_
  have F_v0_w5 := F_v0_position_4.same W5
  have E_v0_5 := E_v0_4.wr W5
  have F_v0_end_5 := F_v0_end_4.other W5 (Or.inr (slot_ne (Or.inr (hw _ (List.mem_of_getElem? (i := 24) rfl))) (Or.inl (hw _ (List.mem_of_getElem? (i := 22) rfl))) (by decide) (t := .int) (t' := .int) (by decide) (by decide)))
  have A_v1_5 := A_v1_4.other W5 ne_v1_v0
  have F_v0_data_5 := F_v0_w4.other W5 (Or.inr (slot_ne (Or.inr (hw _ (List.mem_of_getElem? (i := 20) rfl))) (Or.inl (hw _ (List.mem_of_getElem? (i := 22) rfl))) (by decide) (t := (.array .byte)) (t' := .int) (by decide) (by decide)))
  have K_5 : Keep h0 h5 [v0] := K_4.wr W5 (Or.inl (List.mem_of_getElem? (i := 0) rfl))
  have Z_5 : n0 ≤ h5.size := Nat.le_trans Z0 K_5.1
  have N5 := Fr.snoc X5 N4 g_v0
  show Go p e below s _ _ _ T5 (mkF m 22 #[.val (.ref v0), .val (.ref v1), .val (.int v2), .val (.int v3)] [])
  refine G_aloadN X5 hx (pc' := 23) rfl (hb hby d_rinit_22) rfl rfl ?_
  refine G_iloadN X5 hx (pc' := 24) rfl (hb hby d_rinit_23) rfl ?_
  refine G_iloadN X5 hx (pc' := 25) rfl (hb hby d_rinit_24) rfl ?_
  refine G_iadd X5 hx (pc' := 26) rfl (hb hby d_rinit_25)  ?_
  obtain ⟨T6, h6, X6, e6, W6, st6⟩ := putF X5 hx hZ hown (host := "") (Or.inl (hw _ (List.mem_of_getElem? (i := 23) rfl))) Via.refl e5 F_v0_end_5 E_v0_5 (Or.inr ⟨(hw _ (List.mem_of_getElem? (i := 24) rfl)), rfl, hnm⟩) (hw _ (List.mem_of_getElem? (i := 3) rfl)) (ty := .int) (by decide) rfl rfl (g := (mkF m 26 #[.val (.ref v0), .val (.ref v1), .val (.int v2), .val (.int v3)] [(.int (v2 + v3)), (.ref v0)])) rfl rfl (hb hby d_rinit_26)
  refine Go.st st6 ?_
  have F_v0_w6 := F_v0_end_5.same W6
  have E_v0_6 := E_v0_5.wr W6
  have A_v1_6 := A_v1_5.other W6 ne_v1_v0
  have F_v0_data_6 := F_v0_data_5.other W6 (Or.inr (slot_ne (Or.inr (hw _ (List.mem_of_getElem? (i := 20) rfl))) (Or.inr (hw _ (List.mem_of_getElem? (i := 24) rfl))) (by decide) (t := (.array .byte)) (t' := .int) (by decide) (by decide)))
  have F_v0_position_6 := F_v0_w5.other W6 (Or.inr (slot_ne (Or.inl (hw _ (List.mem_of_getElem? (i := 22) rfl))) (Or.inr (hw _ (List.mem_of_getElem? (i := 24) rfl))) (by decide) (t := .int) (t' := .int) (by decide) (by decide)))
  have K_6 : Keep h0 h6 [v0] := K_5.wr W6 (Or.inl (List.mem_of_getElem? (i := 0) rfl))
  have Z_6 : n0 ≤ h6.size := Nat.le_trans Z0 K_6.1
  have N6 := Fr.snoc X6 N5 g_v0
  show Go p e below s _ _ _ T6 (mkF m 29 #[.val (.ref v0), .val (.ref v1), .val (.int v2), .val (.int v3)] [])
  refine Go.fin X6 hlk (v := none) (fun _ => rfl) (by decide) (by decide) ?_ (fun fs hr => X6.returnOut hx Bd.returns (hb hby d_rinit_29) hr)
  show Q_rinit Z v0 v1 v2 v3 xs h0 n0 _ T6.heap _
  rw [e6]
  exact ⟨rfl, N6, K_6, E_v0_6, F_v0_data_6, F_v0_position_6, F_v0_w6⟩
theorem d_hasMore_0 : decode prog_59_method_2_code 0 = .ok (.aload_n 0, 1) := by decide +kernel
theorem d_hasMore_1 : decode prog_59_method_2_code 1 = .ok (.getfield 21, 3) := by decide +kernel
theorem d_hasMore_4 : decode prog_59_method_2_code 4 = .ok (.aload_n 0, 1) := by decide +kernel
theorem d_hasMore_5 : decode prog_59_method_2_code 5 = .ok (.getfield 25, 3) := by decide +kernel
theorem d_hasMore_8 : decode prog_59_method_2_code 8 = .ok (.if_icmp .ge 7, 3) := by decide +kernel
theorem d_hasMore_11 : decode prog_59_method_2_code 11 = .ok (.iconst 1, 1) := by decide +kernel
theorem d_hasMore_12 : decode prog_59_method_2_code 12 = .ok (.goto 4, 3) := by decide +kernel
theorem d_hasMore_16 : decode prog_59_method_2_code 16 = .ok (.ireturn, 1) := by decide +kernel
theorem d_hasMore_15 : decode prog_59_method_2_code 15 = .ok (.iconst 0, 1) := by decide +kernel
def f_hasMore (pos : Int32) (e_ : Int32) : Int32 := (if pos < e_ then (1 : Int32) else (0 : Int32))
theorem ef_hasMore (m : MethodId) (v0 : Addr) : entryFrame m #[(.ref v0)] 1 = mkF m 0 #[.val (.ref v0)] [] := by first | (simp [entryFrame, mkF, argsToLocals, Value.category]; done) | rfl
def Q_hasMore (Z : State) (v0 : Addr) (pos : Int32) (e_ : Int32) (h0 : Heap) (n0 : Nat) (v : Option Value) (h : Heap) (L : List Loc) : Prop := v = some (.int (f_hasMore pos e_)) ∧ Fr n0 L ∧ h = h0
set_option maxRecDepth 65536 in
set_option maxHeartbeats 40000000 in
theorem rm_hasMore (l : Launch) (Z : State) (a0 : Array Value) (hw : ∀ d ∈ tables_1, d.before a0 Z = true) (ws : List Jvm.Cond) (v0 : Addr) (pos : Int32) (e_ : Int32) (h0 : Heap) (n0 : Nat) (Z0 : n0 ≤ h0.size) (f0_E_v0 : Exa Z h0 v0 "managerie/snmp/Ber$Reader") (f1_F_v0 : Fld Z h0 v0 "managerie/snmp/Ber$Reader" "position" "I" (.int pos)) (f2_F_v0 : Fld Z h0 v0 "managerie/snmp/Ber$Reader" "end" "I" (.int e_)) :
    MetFree l (⟨"managerie/snmp/Ber$Reader", "hasMore", "()Z"⟩ : MethodName) (head1 (Jvm.Cond.code (⟨"managerie/snmp/Ber$Reader", "hasMore", "()Z"⟩ : MethodName) prog_59_method_2_code 1 (some .boolean) :: ws) ({ frames := 0, cells := 0, slots := 0, locals := 0 } : Room)) (fun a U => a = #[(.ref v0)] ∧ Z.Warmed39 U.vm ∧ U.heap = h0) (fun _ _ _ _ _ => True) (fun _ U o U' => ∃ v L, o = .returned v ∧ Q_hasMore Z v0 pos e_ h0 n0 v U'.heap L ∧ FrameEnd U o U' L ({ frames := 0, cells := 0, slots := 0, locals := 0 } : Room).cells ({ frames := 0, cells := 0, slots := 0, locals := 0 } : Room).slots) := by
  refine MetFree.of_bodySF (plainFor_of_name (by first | (simp [plainName, overriddenIn]; done) | decide +kernel)) hisR ?_
  intro p e s m args below meth c s₁ Bd hml0 hP hK
  obtain ⟨rfl, hZ, hh⟩ := hP
  have hx := Bd.exec
  have hby := Bd.bytes
  have hml : c.maxLocals = 1 := hml0
  have hown : s.vm.findClass "managerie/snmp/Ber$Reader" = some m.cls := findClass_of_methodNamed Bd.named
  have hnm := (name_of_methodNamed Bd.named Bd.method).1
  have hlk : meth.locks = false := Bd.notSynchronized
  have X0 : Stand p l e ({ frames := 0, cells := 0, slots := 0, locals := 0 } : Room) s m #[(.ref v0)] below meth c s₁ [] 0 0 := Stand.of_body Bd
  have e0 : s₁.heap = h0 := by rw [← hh, Bd.state]; rfl
  have N0 := Fr.nil n0
  refine Go.enter (Q := Q_hasMore Z v0 pos e_ h0 n0) (C := ({ frames := 0, cells := 0, slots := 0, locals := 0 } : Room).cells) (N := ({ frames := 0, cells := 0, slots := 0, locals := 0 } : Room).slots) (ef_hasMore m v0) ?_
  show Go p e below s _ _ _ s₁ (mkF m 0 #[.val (.ref v0)] [])
  refine G_aloadN X0 hx (pc' := 1) rfl (hb hby d_hasMore_0) rfl rfl ?_
  obtain ⟨T7, X7, e7, st7⟩ := getF X0 hx hZ hown (host := "") (Or.inl (hw _ (List.mem_of_getElem? (i := 21) rfl))) Via.refl e0 f1_F_v0 (g := (mkF m 1 #[.val (.ref v0)] [(.ref v0)])) rfl rfl (hb hby d_hasMore_1)
  refine Go.st st7 ?_
  show Go p e below s _ _ _ T7 (mkF m 4 #[.val (.ref v0)] [(.int pos)])
  refine G_aloadN X7 hx (pc' := 5) rfl (hb hby d_hasMore_4) rfl rfl ?_
  obtain ⟨T8, X8, e8, st8⟩ := getF X7 hx hZ hown (host := "") (Or.inl (hw _ (List.mem_of_getElem? (i := 23) rfl))) Via.refl e7 f2_F_v0 (g := (mkF m 5 #[.val (.ref v0)] [(.ref v0), (.int pos)])) rfl rfl (hb hby d_hasMore_5)
  refine Go.st st8 ?_
  show Go p e below s _ _ _ T8 (mkF m 8 #[.val (.ref v0)] [(.int e_), (.int pos)])
  by_cases hc8_1 : pos < e_
  · refine G_icmpNo X8 hx (pc' := 11) rfl (hb hby d_hasMore_8) (tlt hc8_1).2.1 ?_
    refine G_iconst X8 hx (pc' := 12) rfl (hb hby d_hasMore_11) (z := (1 : Int32)) rfl ?_
    refine G_goto X8 hx (pc' := 16) (hb hby d_hasMore_12)  (by decide) (by decide) ?_
    refine Go.fin X8 hlk (v := some (.int (1 : Int32))) (fun h => by rw [Bd.returns] at h; cases h) (by decide) (by decide) ?_ (fun fs hr => retN X8 hx (t := .boolean) Bd.returns (by simp) (hb hby d_hasMore_16) hr)
    show Q_hasMore Z v0 pos e_ h0 n0 _ T8.heap _
    rw [e8]
    exact ⟨congrArg (fun z => some (Value.int z)) (by rw [f_hasMore]; rw [if_pos hc8_1]), N0, rfl⟩
  · refine G_icmpYes X8 hx (pc' := 15) (hb hby d_hasMore_8) (flt hc8_1).2.1 (by decide) (by decide) ?_
    refine G_iconst X8 hx (pc' := 16) rfl (hb hby d_hasMore_15) (z := (0 : Int32)) rfl ?_
    refine Go.fin X8 hlk (v := some (.int (0 : Int32))) (fun h => by rw [Bd.returns] at h; cases h) (by decide) (by decide) ?_ (fun fs hr => retN X8 hx (t := .boolean) Bd.returns (by simp) (hb hby d_hasMore_16) hr)
    show Q_hasMore Z v0 pos e_ h0 n0 _ T8.heap _
    rw [e8]
    exact ⟨congrArg (fun z => some (Value.int z)) (by rw [f_hasMore]; rw [if_neg hc8_1]), N0, rfl⟩
theorem d_position_0 : decode prog_59_method_3_code 0 = .ok (.aload_n 0, 1) := by decide +kernel
theorem d_position_1 : decode prog_59_method_3_code 1 = .ok (.getfield 21, 3) := by decide +kernel
theorem d_position_4 : decode prog_59_method_3_code 4 = .ok (.ireturn, 1) := by decide +kernel
theorem ef_position (m : MethodId) (v0 : Addr) : entryFrame m #[(.ref v0)] 1 = mkF m 0 #[.val (.ref v0)] [] := by first | (simp [entryFrame, mkF, argsToLocals, Value.category]; done) | rfl
def Q_position (Z : State) (v0 : Addr) (pos : Int32) (h0 : Heap) (n0 : Nat) (v : Option Value) (h : Heap) (L : List Loc) : Prop := v = some (.int pos) ∧ Fr n0 L ∧ h = h0
set_option maxRecDepth 65536 in
set_option maxHeartbeats 40000000 in
theorem rm_position (l : Launch) (Z : State) (a0 : Array Value) (hw : ∀ d ∈ tables_1, d.before a0 Z = true) (ws : List Jvm.Cond) (v0 : Addr) (pos : Int32) (h0 : Heap) (n0 : Nat) (Z0 : n0 ≤ h0.size) (f0_F_v0 : Fld Z h0 v0 "managerie/snmp/Ber$Reader" "position" "I" (.int pos)) :
    MetFree l (⟨"managerie/snmp/Ber$Reader", "position", "()I"⟩ : MethodName) (head1 (Jvm.Cond.code (⟨"managerie/snmp/Ber$Reader", "position", "()I"⟩ : MethodName) prog_59_method_3_code 1 (some .int) :: ws) ({ frames := 0, cells := 0, slots := 0, locals := 0 } : Room)) (fun a U => a = #[(.ref v0)] ∧ Z.Warmed39 U.vm ∧ U.heap = h0) (fun _ _ _ _ _ => True) (fun _ U o U' => ∃ v L, o = .returned v ∧ Q_position Z v0 pos h0 n0 v U'.heap L ∧ FrameEnd U o U' L ({ frames := 0, cells := 0, slots := 0, locals := 0 } : Room).cells ({ frames := 0, cells := 0, slots := 0, locals := 0 } : Room).slots) := by
  refine MetFree.of_bodySF (plainFor_of_name (by first | (simp [plainName, overriddenIn]; done) | decide +kernel)) hisR ?_
  intro p e s m args below meth c s₁ Bd hml0 hP hK
  obtain ⟨rfl, hZ, hh⟩ := hP
  have hx := Bd.exec
  have hby := Bd.bytes
  have hml : c.maxLocals = 1 := hml0
  have hown : s.vm.findClass "managerie/snmp/Ber$Reader" = some m.cls := findClass_of_methodNamed Bd.named
  have hnm := (name_of_methodNamed Bd.named Bd.method).1
  have hlk : meth.locks = false := Bd.notSynchronized
  have X0 : Stand p l e ({ frames := 0, cells := 0, slots := 0, locals := 0 } : Room) s m #[(.ref v0)] below meth c s₁ [] 0 0 := Stand.of_body Bd
  have e0 : s₁.heap = h0 := by rw [← hh, Bd.state]; rfl
  have N0 := Fr.nil n0
  refine Go.enter (Q := Q_position Z v0 pos h0 n0) (C := ({ frames := 0, cells := 0, slots := 0, locals := 0 } : Room).cells) (N := ({ frames := 0, cells := 0, slots := 0, locals := 0 } : Room).slots) (ef_position m v0) ?_
  show Go p e below s _ _ _ s₁ (mkF m 0 #[.val (.ref v0)] [])
  refine G_aloadN X0 hx (pc' := 1) rfl (hb hby d_position_0) rfl rfl ?_
  obtain ⟨T9, X9, e9, st9⟩ := getF X0 hx hZ hown (host := "") (Or.inl (hw _ (List.mem_of_getElem? (i := 21) rfl))) Via.refl e0 f0_F_v0 (g := (mkF m 1 #[.val (.ref v0)] [(.ref v0)])) rfl rfl (hb hby d_position_1)
  refine Go.st st9 ?_
  show Go p e below s _ _ _ T9 (mkF m 4 #[.val (.ref v0)] [(.int pos)])
  refine Go.fin X9 hlk (v := some (.int pos)) (fun h => by rw [Bd.returns] at h; cases h) (by decide) (by decide) ?_ (fun fs hr => retOut X9 hx Bd.returns rfl (Or.inl ⟨rfl, Or.inl rfl, _, rfl⟩) (hb hby d_position_4) hr)
  show Q_position Z v0 pos h0 n0 _ T9.heap _
  rw [e9]
  exact ⟨rfl, N0, rfl⟩
theorem d_peekTag_0 : decode prog_59_method_4_code 0 = .ok (.aload_n 0, 1) := by decide +kernel
theorem d_peekTag_1 : decode prog_59_method_4_code 1 = .ok (.invokevirtual 28, 3) := by decide +kernel
theorem pd_2 : parseMethodDescriptor "()Z" = some ⟨[], some .boolean⟩ := by decide +kernel
theorem d_peekTag_4 : decode prog_59_method_4_code 4 = .ok (.ifCond .ne 13, 3) := by decide +kernel
theorem d_peekTag_17 : decode prog_59_method_4_code 17 = .ok (.aload_n 0, 1) := by decide +kernel
theorem d_peekTag_18 : decode prog_59_method_4_code 18 = .ok (.getfield 15, 3) := by decide +kernel
theorem d_peekTag_21 : decode prog_59_method_4_code 21 = .ok (.aload_n 0, 1) := by decide +kernel
theorem d_peekTag_22 : decode prog_59_method_4_code 22 = .ok (.getfield 21, 3) := by decide +kernel
theorem d_peekTag_25 : decode prog_59_method_4_code 25 = .ok (.baload, 1) := by decide +kernel
theorem d_peekTag_26 : decode prog_59_method_4_code 26 = .ok (.sipush 255, 3) := by decide +kernel
theorem d_peekTag_29 : decode prog_59_method_4_code 29 = .ok (.iand, 1) := by decide +kernel
theorem d_peekTag_30 : decode prog_59_method_4_code 30 = .ok (.ireturn, 1) := by decide +kernel
theorem ef_peekTag (m : MethodId) (v0 : Addr) : entryFrame m #[(.ref v0)] 1 = mkF m 0 #[.val (.ref v0)] [] := by first | (simp [entryFrame, mkF, argsToLocals, Value.category]; done) | rfl
def Q_peekTag (Z : State) (v0 : Addr) (pos : Int32) (e_ : Int32) (dd : Addr) (xs : List Int32) (h0 : Heap) (n0 : Nat) (v : Option Value) (h : Heap) (L : List Loc) : Prop := v = some (.int ((xs.getD pos.toNatClampNeg 0) &&& (255 : Int32))) ∧ Fr n0 L ∧ h = h0
set_option maxRecDepth 65536 in
set_option maxHeartbeats 40000000 in
theorem rm_peekTag (l : Launch) (Z : State) (a0 : Array Value) (hw : ∀ d ∈ tables_1, d.before a0 Z = true) (ws : List Jvm.Cond) (v0 : Addr) (pos : Int32) (e_ : Int32) (dd : Addr) (xs : List Int32) (h0 : Heap) (n0 : Nat) (Z0 : n0 ≤ h0.size) (f0_E_v0 : Exa Z h0 v0 "managerie/snmp/Ber$Reader") (f1_F_v0 : Fld Z h0 v0 "managerie/snmp/Ber$Reader" "position" "I" (.int pos)) (f2_F_v0 : Fld Z h0 v0 "managerie/snmp/Ber$Reader" "end" "I" (.int e_)) (f3_F_v0 : Fld Z h0 v0 "managerie/snmp/Ber$Reader" "data" "[B" (.ref dd)) (f4_A_dd : AI Z h0 dd .byte xs) (hm : ¬ ((f_hasMore pos e_) = (0 : Int32))) (i1 : ¬ (pos < 0)) (i2 : pos.toNatClampNeg < xs.length) :
    MetFree l (⟨"managerie/snmp/Ber$Reader", "peekTag", "()I"⟩ : MethodName) (head1 (Jvm.Cond.code (⟨"managerie/snmp/Ber$Reader", "peekTag", "()I"⟩ : MethodName) prog_59_method_4_code 1 (some .int) :: ws) ({ frames := 1, cells := 0, slots := 0, locals := 12 } : Room)) (fun a U => a = #[(.ref v0)] ∧ Z.Warmed39 U.vm ∧ U.heap = h0) (fun _ _ _ _ _ => True) (fun _ U o U' => ∃ v L, o = .returned v ∧ Q_peekTag Z v0 pos e_ dd xs h0 n0 v U'.heap L ∧ FrameEnd U o U' L ({ frames := 1, cells := 0, slots := 0, locals := 12 } : Room).cells ({ frames := 1, cells := 0, slots := 0, locals := 12 } : Room).slots) := by
  refine MetFree.of_bodySF (plainFor_of_name (by first | (simp [plainName, overriddenIn]; done) | decide +kernel)) hisR ?_
  intro p e s m args below meth c s₁ Bd hml0 hP hK
  obtain ⟨rfl, hZ, hh⟩ := hP
  have hx := Bd.exec
  have hby := Bd.bytes
  have hml : c.maxLocals = 1 := hml0
  have hown : s.vm.findClass "managerie/snmp/Ber$Reader" = some m.cls := findClass_of_methodNamed Bd.named
  have hnm := (name_of_methodNamed Bd.named Bd.method).1
  have hlk : meth.locks = false := Bd.notSynchronized
  have X0 : Stand p l e ({ frames := 1, cells := 0, slots := 0, locals := 12 } : Room) s m #[(.ref v0)] below meth c s₁ [] 0 0 := Stand.of_body Bd
  have e0 : s₁.heap = h0 := by rw [← hh, Bd.state]; rfl
  have N0 := Fr.nil n0
  refine Go.enter (Q := Q_peekTag Z v0 pos e_ dd xs h0 n0) (C := ({ frames := 1, cells := 0, slots := 0, locals := 12 } : Room).cells) (N := ({ frames := 1, cells := 0, slots := 0, locals := 12 } : Room).slots) (ef_peekTag m v0) ?_
  show Go p e below s _ _ _ s₁ (mkF m 0 #[.val (.ref v0)] [])
  refine G_aloadN X0 hx (pc' := 1) rfl (hb hby d_peekTag_0) rfl rfl ?_
  obtain ⟨cq10, kq10, q10a, q10b, q10c⟩ := isOf hZ e0 f0_E_v0
  obtain ⟨_, _, ⟨T10, L10, k10, n10⟩, -, X10, ⟨Lc10, hQ10, l10, y10, z10⟩, st10⟩ := X0.virtualBack hx (y := (⟨"managerie/snmp/Ber$Reader", "hasMore", "()Z"⟩ : MethodName)) (z := (⟨"managerie/snmp/Ber$Reader", "hasMore", "()Z"⟩ : MethodName)) hown (mvT hZ (hw _ (List.mem_of_getElem? (i := 30) rfl))) (mvT hZ (hw _ (List.mem_of_getElem? (i := 31) rfl))) (notFace_of_selects (args := #[]) (mvT hZ (hw _ (List.mem_of_getElem? (i := 33) rfl)))) (mvT hZ (hw _ (List.mem_of_getElem? (i := 33) rfl))) (mvT hZ (hw _ (List.mem_of_getElem? (i := 32) rfl))) (by decide) (backOf (W := 0) (rm_hasMore l Z a0 hw [] v0 pos e_ h0 n0 Z0 f0_E_v0 f1_F_v0 f2_F_v0) hZ (hw _ (List.mem_of_getElem? (i := 34) rfl)) (hw _ (List.mem_of_getElem? (i := 4) rfl)) (by decide) (by decide)) q10a q10c (g := (mkF m 1 #[.val (.ref v0)] [(.ref v0)])) rfl (by rw [hml]; rfl) (Steps.refl _) (argsL := []) (rest := []) (lenOf pd_2 rfl) rfl (by show 2 * 0 + _ ≤ _; exact Nat.le_of_eq rfl) (hb hby d_peekTag_1) (fun _ _ => ⟨rfl, e0, (by decide : 0 + 0 ≤ _), (by decide : 0 + 0 ≤ _)⟩)
  dsimp only [Pt.U, Pt.locs, Pt.cells, Pt.slots] at X10 l10 y10 z10 st10 hQ10
  subst l10 y10 z10
  obtain ⟨rfl, N10q, e10⟩ := hQ10
  have N10 := Fr.app N0 N10q
  refine Go.st (fun _ k => st10.trans k) ?_
  show Go p e below s _ _ _ T10 (mkF m 4 #[.val (.ref v0)] [(.int (f_hasMore pos e_))])
  refine G_ifYes X10 hx (pc' := 17) (hb hby d_peekTag_4) ((if0 _ _).trans (feq (hm : ¬ ((f_hasMore pos e_) = (0 : Int32)))).2) (by decide) (by decide) ?_
  refine G_aloadN X10 hx (pc' := 18) rfl (hb hby d_peekTag_17) rfl rfl ?_
  obtain ⟨T11, X11, e11, st11⟩ := getF X10 hx hZ hown (host := "") (Or.inl (hw _ (List.mem_of_getElem? (i := 19) rfl))) Via.refl e10 f3_F_v0 (g := (mkF m 18 #[.val (.ref v0)] [(.ref v0)])) rfl rfl (hb hby d_peekTag_18)
  refine Go.st st11 ?_
  show Go p e below s _ _ _ T11 (mkF m 21 #[.val (.ref v0)] [(.ref dd)])
  refine G_aloadN X11 hx (pc' := 22) rfl (hb hby d_peekTag_21) rfl rfl ?_
  obtain ⟨T12, X12, e12, st12⟩ := getF X11 hx hZ hown (host := "") (Or.inl (hw _ (List.mem_of_getElem? (i := 21) rfl))) Via.refl e11 f1_F_v0 (g := (mkF m 22 #[.val (.ref v0)] [(.ref v0), (.ref dd)])) rfl rfl (hb hby d_peekTag_22)
  refine Go.st st12 ?_
  show Go p e below s _ _ _ T12 (mkF m 25 #[.val (.ref v0)] [(.int pos), (.ref dd)])
  refine Go.st (ldAB X12 hx hZ e12 f4_A_dd (j := pos) i1 i2 (g := (mkF m 25 #[.val (.ref v0)] [(.int pos), (.ref dd)])) rfl rfl (hb hby d_peekTag_25)) ?_
  show Go p e below s _ _ _ T12 (mkF m 26 #[.val (.ref v0)] [(.int (xs.getD pos.toNatClampNeg 0))])
  refine G_sipush X12 hx (pc' := 29) rfl (hb hby d_peekTag_26) (z := (255 : Int32)) rfl ?_
  refine G_iand X12 hx (pc' := 30) rfl (hb hby d_peekTag_29)  ?_
  refine Go.fin X12 hlk (v := some (.int ((xs.getD pos.toNatClampNeg 0) &&& (255 : Int32)))) (fun h => by rw [Bd.returns] at h; cases h) (by decide) (by decide) ?_ (fun fs hr => retOut X12 hx Bd.returns rfl (Or.inl ⟨rfl, Or.inl rfl, _, rfl⟩) (hb hby d_peekTag_30) hr)
  show Q_peekTag Z v0 pos e_ dd xs h0 n0 _ T12.heap _
  rw [e12]
  exact ⟨rfl, N10, rfl⟩
theorem own_off (x : Int32) : 0 ≤ ((x &&& (2147483647 : Int32)) % (4 : Int32)).toInt ∧ ((x &&& (2147483647 : Int32)) % (4 : Int32)).toInt < 4 := by
  have h1 := c_mask x 2147483647 31 (by decide) (by decide)
  have h2 := (c_irem (x &&& (2147483647 : Int32)) 4 4 (by decide)).1
  have h3 : 0 ≤ (x &&& (2147483647 : Int32)).toInt := by rw [h1]; omega
  have h4 := h2 h3
  omega
theorem own_sub4 {off : Int32} (h0 : 0 ≤ off.toInt) (h1 : off.toInt < 4) : ((4 : Int32) - off).toInt = 4 - off.toInt := by
  have a := c_isub 4 off
  have l : (4 : Int32).toInt = 4 := by decide
  have r := rng32 ((4 : Int32) - off)
  rw [l] at a
  omega
theorem own_nz {off : Int32} (h0 : 0 ≤ off.toInt) (h1 : off.toInt < 4) : (4 : Int32) - off ≠ 0 := by
  intro q
  have a := own_sub4 h0 h1
  rw [q] at a
  have l : (0 : Int32).toInt = 0 := by decide
  omega
theorem own_len1 (x : Int32) {off : Int32} (h0 : 0 ≤ off.toInt) (h1 : off.toInt < 4) : 1 ≤ ((1 : Int32) + ((x &&& (2147483647 : Int32)) % ((4 : Int32) - off))).toInt ∧ off.toInt + ((1 : Int32) + ((x &&& (2147483647 : Int32)) % ((4 : Int32) - off))).toInt ≤ 4 := by
  have a := own_sub4 h0 h1
  have h2 := c_mask x 2147483647 31 (by decide) (by decide)
  have h3 : 0 ≤ (x &&& (2147483647 : Int32)).toInt := by rw [h2]; omega
  have h4 := (c_iremV (x &&& (2147483647 : Int32)) ((4 : Int32) - off)).1 h3 (by omega)
  have h5 := c_iadd 1 ((x &&& (2147483647 : Int32)) % ((4 : Int32) - off))
  have l : (1 : Int32).toInt = 1 := by decide
  have r := rng32 ((1 : Int32) + ((x &&& (2147483647 : Int32)) % ((4 : Int32) - off)))
  rw [l] at h5
  obtain ⟨b1, b2, -⟩ := h4
  constructor <;> omega
theorem own_nn32 {x : Int32} (h : 0 ≤ x.toInt) : ¬ x < 0 := by
  rw [Int32.lt_iff_toInt_lt]
  have l : (0 : Int32).toInt = 0 := by decide
  omega
theorem own_or_nn {x y : Int32} (hx : ¬ x < 0) (hy : ¬ y < 0) : ¬ (x ||| y) < 0 := by
  rw [Jvm.Free.XT.neg32] at *
  rw [Int32.toBitVec_or, BitVec.msb_or]
  simp_all
theorem own_chk1 {off len a b c d : Int32} (h0 : 0 ≤ off.toInt) (h1 : 1 ≤ len.toInt) : ¬ (((Int32.ofNat ([a, b, c, d] : List Int32).length) ||| off) ||| len) < (0 : Int32) :=
  own_or_nn (own_or_nn (by show ¬ (4 : Int32) < 0; decide) (own_nn32 h0)) (own_nn32 (by omega))
theorem own_chk2 {off len a b c d : Int32} (h0 : 0 ≤ off.toInt) (h1 : 1 ≤ len.toInt) (h2 : off.toInt + len.toInt ≤ 4) : ¬ (((Int32.ofNat ([a, b, c, d] : List Int32).length) - off) < len) := by
  show ¬ ((4 : Int32) - off < len)
  rw [Int32.lt_iff_toInt_lt, own_sub4 h0 (by omega)]
  omega
theorem own_hm {off len : Int32} (h0 : 0 ≤ off.toInt) (h1 : 1 ≤ len.toInt) (h2 : off.toInt + len.toInt ≤ 4) : ¬ (f_hasMore off (off + len) = (0 : Int32)) := by
  unfold f_hasMore
  have a := c_iadd off len
  have r := rng32 (off + len)
  have q : off < off + len := by rw [Int32.lt_iff_toInt_lt]; omega
  rw [if_pos q]
  decide
theorem own_i1 {off : Int32} (h0 : 0 ≤ off.toInt) : ¬ off < 0 := own_nn32 h0
theorem own_i2 {off a b c d : Int32} (h0 : 0 ≤ off.toInt) (h1 : off.toInt < 4) : off.toNatClampNeg < ([a, b, c, d] : List Int32).length := by
  show off.toInt.toNat < 4
  omega
theorem own_byte (a : Int32) : (a.toInt8.toInt32 &&& (255 : Int32)) = (a &&& (255 : Int32)) := by
  apply Int32.toInt_inj.mp
  rw [c_mask _ 255 8 (by decide) (by decide), c_mask _ 255 8 (by decide) (by decide)]
  have h := c_i2b a
  omega
theorem own_p0 {off a b c d : Int32} (h : off = 0) : ((([(a.toInt8.toInt32), (b.toInt8.toInt32), (c.toInt8.toInt32), (d.toInt8.toInt32)] : List Int32).getD off.toNatClampNeg 0) &&& (255 : Int32)) = (a &&& (255 : Int32)) := by
  subst h; exact own_byte a
theorem own_p1 {off a b c d : Int32} (h : off = 1) : ((([(a.toInt8.toInt32), (b.toInt8.toInt32), (c.toInt8.toInt32), (d.toInt8.toInt32)] : List Int32).getD off.toNatClampNeg 0) &&& (255 : Int32)) = (b &&& (255 : Int32)) := by
  subst h; exact own_byte b
theorem own_p2 {off a b c d : Int32} (h : off = 2) : ((([(a.toInt8.toInt32), (b.toInt8.toInt32), (c.toInt8.toInt32), (d.toInt8.toInt32)] : List Int32).getD off.toNatClampNeg 0) &&& (255 : Int32)) = (c &&& (255 : Int32)) := by
  subst h; exact own_byte c
theorem own_p3 {off a b c d : Int32} (h0 : 0 ≤ off.toInt) (h1 : off.toInt < 4) (n0 : ¬ off = 0) (n1 : ¬ off = 1) (n2 : ¬ off = 2) : ((([(a.toInt8.toInt32), (b.toInt8.toInt32), (c.toInt8.toInt32), (d.toInt8.toInt32)] : List Int32).getD off.toNatClampNeg 0) &&& (255 : Int32)) = (d &&& (255 : Int32)) := by
  have l0 : (0 : Int32).toInt = 0 := by decide
  have l1 : (1 : Int32).toInt = 1 := by decide
  have l2 : (2 : Int32).toInt = 2 := by decide
  have l3 : (3 : Int32).toInt = 3 := by decide
  rw [← Int32.toInt_inj] at n0 n1 n2
  have e : off = 3 := Int32.toInt_inj.mp (by omega)
  subst e; exact own_byte d

theorem pd_3 : parseMethodDescriptor "([BII)V" = some ⟨[(.array .byte), .int, .int], none⟩ := by decide +kernel
theorem pd_4 : parseMethodDescriptor "()I" = some ⟨[], some .int⟩ := by decide +kernel
def f_law (v0 : Int32) (v1 : Int32) (v2 : Int32) (v3 : Int32) (v4 : Int32) (v5 : Int32) : Int32 := (if ((v4 &&& (2147483647 : Int32)) % (4 : Int32)) = (0 : Int32) then (1 : Int32) else (if ((v4 &&& (2147483647 : Int32)) % (4 : Int32)) = (1 : Int32) then (1 : Int32) else (if ((v4 &&& (2147483647 : Int32)) % (4 : Int32)) = (2 : Int32) then (1 : Int32) else (1 : Int32))))
theorem ef_law (m : MethodId) (v0 : Int32) (v1 : Int32) (v2 : Int32) (v3 : Int32) (v4 : Int32) (v5 : Int32) : entryFrame m #[(.int v0), (.int v1), (.int v2), (.int v3), (.int v4), (.int v5)] maxLocals = mkF m 0 #[.val (.int v0), .val (.int v1), .val (.int v2), .val (.int v3), .val (.int v4), .val (.int v5), .unset, .unset, .unset, .unset, .unset, .unset, .unset] [] := by first | (simp [entryFrame, mkF, argsToLocals, Value.category, maxLocals]; done) | rfl
def Q_law (Z : State) (v0 : Int32) (v1 : Int32) (v2 : Int32) (v3 : Int32) (v4 : Int32) (v5 : Int32) (h0 : Heap) (n0 : Nat) (v : Option Value) (h : Heap) (L : List Loc) : Prop := v = some (.int (f_law v0 v1 v2 v3 v4 v5)) ∧ Fr n0 L
set_option maxRecDepth 65536 in
set_option maxHeartbeats 40000000 in
theorem rm_law (l : Launch) (Z : State) (a0 : Array Value) (hw : ∀ d ∈ tables_1, d.before a0 Z = true) (ws : List Jvm.Cond) (v0 : Int32) (v1 : Int32) (v2 : Int32) (v3 : Int32) (v4 : Int32) (v5 : Int32) (h0 : Heap) (n0 : Nat) (Z0 : n0 ≤ h0.size) :
    MetFree l x (head1 (Jvm.Cond.code x code maxLocals ret :: ws) room_1) (fun a U => a = #[(.int v0), (.int v1), (.int v2), (.int v3), (.int v4), (.int v5)] ∧ Z.Warmed39 U.vm ∧ U.heap = h0) (fun _ _ _ _ _ => True) (fun _ U o U' => ∃ v L, o = .returned v ∧ Q_law Z v0 v1 v2 v3 v4 v5 h0 n0 v U'.heap L ∧ FrameEnd U o U' L room_1.cells room_1.slots) := by
  refine MetFree.of_bodySF (plainFor_of_name (by first | (simp [plainName, overriddenIn]; done) | decide +kernel)) hisR ?_
  intro p e s m args below meth c s₁ Bd hml0 hP hK
  obtain ⟨rfl, hZ, hh⟩ := hP
  have hx := Bd.exec
  have hby := Bd.bytes
  have hml : c.maxLocals = 13 := hml0
  have hown : s.vm.findClass "managerie/snmp/ReaderPeekTagPinLaw" = some m.cls := findClass_of_methodNamed Bd.named
  have hnm := (name_of_methodNamed Bd.named Bd.method).1
  have hlk : meth.locks = false := Bd.notSynchronized
  have X0 : Stand p l e room_1 s m #[(.int v0), (.int v1), (.int v2), (.int v3), (.int v4), (.int v5)] below meth c s₁ [] 0 0 := Stand.of_body Bd
  have e0 : s₁.heap = h0 := by rw [← hh, Bd.state]; rfl
  have N0 := Fr.nil n0
  refine Go.enter (Q := Q_law Z v0 v1 v2 v3 v4 v5 h0 n0) (C := room_1.cells) (N := room_1.slots) (ef_law m v0 v1 v2 v3 v4 v5) ?_
  show Go p e below s _ _ _ s₁ (mkF m 0 #[.val (.int v0), .val (.int v1), .val (.int v2), .val (.int v3), .val (.int v4), .val (.int v5), .unset, .unset, .unset, .unset, .unset, .unset, .unset] [])
  refine G_iconst X0 hx (pc' := 1) rfl (hb hby at_0) (z := (4 : Int32)) rfl ?_
  obtain ⟨T13, h13, X13, e13, E13, B13, A13, st13⟩ := newAI X0 hx hZ (hw _ (List.mem_of_getElem? (i := 0) rfl)) e0 (g := (mkF m 1 #[.val (.int v0), .val (.int v1), .val (.int v2), .val (.int v3), .val (.int v4), .val (.int v5), .unset, .unset, .unset, .unset, .unset, .unset, .unset] [(.int (4 : Int32))])) rfl (hb hby at_1) rfl (by decide) (ty := .byte) rfl ⟨rfl, rfl⟩ (cap := 4) (by decide) (by decide) (by decide) (by decide) (ad := "[B") (by decide)
  obtain ⟨b13, q13⟩ : ∃ z, z = h0.size := ⟨_, rfl⟩
  rw [← q13] at A13 B13 st13
  refine Go.st st13 ?_
  have g_b13 : n0 ≤ b13 := Nat.le_trans Z0 (Nat.le_of_eq q13.symm)
  have sz_b13 : h0.size ≤ b13 := Nat.le_trans (Nat.le_refl _) (Nat.le_of_eq q13.symm)
  have A_b13 : AI Z h13 b13 .byte [(0 : Int32), (0 : Int32), (0 : Int32), (0 : Int32)] := A13
  have K_13 : Keep h0 h13 [] := (Keep.refl h0 []).ext E13
  have Z_13 : n0 ≤ h13.size := Nat.le_trans Z0 K_13.1
  show Go p e below s _ _ _ T13 (mkF m 3 #[.val (.int v0), .val (.int v1), .val (.int v2), .val (.int v3), .val (.int v4), .val (.int v5), .unset, .unset, .unset, .unset, .unset, .unset, .unset] [(.ref b13)])
  refine G_dup X13 hx (pc' := 4) rfl (hb hby at_3) rfl ?_
  refine G_iconst X13 hx (pc' := 5) rfl (hb hby at_4) (z := (0 : Int32)) rfl ?_
  refine G_iloadN X13 hx (pc' := 6) rfl (hb hby at_5) rfl ?_
  refine G_i2b X13 hx (pc' := 7) rfl (hb hby at_6)  ?_
  obtain ⟨T14, h14, X14, e14, W14, A14, st14⟩ := stABn X13 hx hZ e13 A_b13 (j := (0 : Int32)) (by decide) (show Int32.toNatClampNeg 0 < 4 from by decide) (g := (mkF m 7 #[.val (.int v0), .val (.int v1), .val (.int v2), .val (.int v3), .val (.int v4), .val (.int v5), .unset, .unset, .unset, .unset, .unset, .unset, .unset] [(.int (v0.toInt8.toInt32)), (.int (0 : Int32)), (.ref b13), (.ref b13)])) rfl rfl (hb hby at_7)
  refine Go.st st14 ?_
  have E_b13_14 := B13.wr W14
  have A_b13_14 : AI Z h14 b13 .byte [(v0.toInt8.toInt32), (0 : Int32), (0 : Int32), (0 : Int32)] := A14
  have K_14 : Keep h0 h14 [] := K_13.wr W14 (Or.inr sz_b13)
  have Z_14 : n0 ≤ h14.size := Nat.le_trans Z0 K_14.1
  have N14 := Fr.snoc X14 N0 g_b13
  show Go p e below s _ _ _ T14 (mkF m 8 #[.val (.int v0), .val (.int v1), .val (.int v2), .val (.int v3), .val (.int v4), .val (.int v5), .unset, .unset, .unset, .unset, .unset, .unset, .unset] [(.ref b13)])
  refine G_dup X14 hx (pc' := 9) rfl (hb hby at_8) rfl ?_
  refine G_iconst X14 hx (pc' := 10) rfl (hb hby at_9) (z := (1 : Int32)) rfl ?_
  refine G_iloadN X14 hx (pc' := 11) rfl (hb hby at_10) rfl ?_
  refine G_i2b X14 hx (pc' := 12) rfl (hb hby at_11)  ?_
  obtain ⟨T15, h15, X15, e15, W15, A15, st15⟩ := stABn X14 hx hZ e14 A_b13_14 (j := (1 : Int32)) (by decide) (show Int32.toNatClampNeg 1 < 4 from by decide) (g := (mkF m 12 #[.val (.int v0), .val (.int v1), .val (.int v2), .val (.int v3), .val (.int v4), .val (.int v5), .unset, .unset, .unset, .unset, .unset, .unset, .unset] [(.int (v1.toInt8.toInt32)), (.int (1 : Int32)), (.ref b13), (.ref b13)])) rfl rfl (hb hby at_12)
  refine Go.st st15 ?_
  have E_b13_15 := E_b13_14.wr W15
  have A_b13_15 : AI Z h15 b13 .byte [(v0.toInt8.toInt32), (v1.toInt8.toInt32), (0 : Int32), (0 : Int32)] := A15
  have K_15 : Keep h0 h15 [] := K_14.wr W15 (Or.inr sz_b13)
  have Z_15 : n0 ≤ h15.size := Nat.le_trans Z0 K_15.1
  have N15 := Fr.snoc X15 N14 g_b13
  show Go p e below s _ _ _ T15 (mkF m 13 #[.val (.int v0), .val (.int v1), .val (.int v2), .val (.int v3), .val (.int v4), .val (.int v5), .unset, .unset, .unset, .unset, .unset, .unset, .unset] [(.ref b13)])
  refine G_dup X15 hx (pc' := 14) rfl (hb hby at_13) rfl ?_
  refine G_iconst X15 hx (pc' := 15) rfl (hb hby at_14) (z := (2 : Int32)) rfl ?_
  refine G_iloadN X15 hx (pc' := 16) rfl (hb hby at_15) rfl ?_
  refine G_i2b X15 hx (pc' := 17) rfl (hb hby at_16)  ?_
  obtain ⟨T16, h16, X16, e16, W16, A16, st16⟩ := stABn X15 hx hZ e15 A_b13_15 (j := (2 : Int32)) (by decide) (show Int32.toNatClampNeg 2 < 4 from by decide) (g := (mkF m 17 #[.val (.int v0), .val (.int v1), .val (.int v2), .val (.int v3), .val (.int v4), .val (.int v5), .unset, .unset, .unset, .unset, .unset, .unset, .unset] [(.int (v2.toInt8.toInt32)), (.int (2 : Int32)), (.ref b13), (.ref b13)])) rfl rfl (hb hby at_17)
  refine Go.st st16 ?_
  have E_b13_16 := E_b13_15.wr W16
  have A_b13_16 : AI Z h16 b13 .byte [(v0.toInt8.toInt32), (v1.toInt8.toInt32), (v2.toInt8.toInt32), (0 : Int32)] := A16
  have K_16 : Keep h0 h16 [] := K_15.wr W16 (Or.inr sz_b13)
  have Z_16 : n0 ≤ h16.size := Nat.le_trans Z0 K_16.1
  have N16 := Fr.snoc X16 N15 g_b13
  show Go p e below s _ _ _ T16 (mkF m 18 #[.val (.int v0), .val (.int v1), .val (.int v2), .val (.int v3), .val (.int v4), .val (.int v5), .unset, .unset, .unset, .unset, .unset, .unset, .unset] [(.ref b13)])
  refine G_dup X16 hx (pc' := 19) rfl (hb hby at_18) rfl ?_
  refine G_iconst X16 hx (pc' := 20) rfl (hb hby at_19) (z := (3 : Int32)) rfl ?_
  refine G_iloadN X16 hx (pc' := 21) rfl (hb hby at_20) rfl ?_
  refine G_i2b X16 hx (pc' := 22) rfl (hb hby at_21)  ?_
  obtain ⟨T17, h17, X17, e17, W17, A17, st17⟩ := stABn X16 hx hZ e16 A_b13_16 (j := (3 : Int32)) (by decide) (show Int32.toNatClampNeg 3 < 4 from by decide) (g := (mkF m 22 #[.val (.int v0), .val (.int v1), .val (.int v2), .val (.int v3), .val (.int v4), .val (.int v5), .unset, .unset, .unset, .unset, .unset, .unset, .unset] [(.int (v3.toInt8.toInt32)), (.int (3 : Int32)), (.ref b13), (.ref b13)])) rfl rfl (hb hby at_22)
  refine Go.st st17 ?_
  have E_b13_17 := E_b13_16.wr W17
  have A_b13_17 : AI Z h17 b13 .byte [(v0.toInt8.toInt32), (v1.toInt8.toInt32), (v2.toInt8.toInt32), (v3.toInt8.toInt32)] := A17
  have K_17 : Keep h0 h17 [] := K_16.wr W17 (Or.inr sz_b13)
  have Z_17 : n0 ≤ h17.size := Nat.le_trans Z0 K_17.1
  have N17 := Fr.snoc X17 N16 g_b13
  show Go p e below s _ _ _ T17 (mkF m 23 #[.val (.int v0), .val (.int v1), .val (.int v2), .val (.int v3), .val (.int v4), .val (.int v5), .unset, .unset, .unset, .unset, .unset, .unset, .unset] [(.ref b13)])
  refine G_astore X17 hx (pc' := 25) rfl (hb hby at_23) rfl (L' := #[.val (.int v0), .val (.int v1), .val (.int v2), .val (.int v3), .val (.int v4), .val (.int v5), .val (.ref b13), .unset, .unset, .unset, .unset, .unset, .unset]) rfl ?_
  refine G_iload X17 hx (pc' := 27) rfl (hb hby at_25) rfl ?_
  refine G_ldc X17 hx (pc' := 29) rfl hown (mvT hZ (hw _ (List.mem_of_getElem? (i := 1) rfl))) (hb hby at_27) ?_
  refine G_iand X17 hx (pc' := 30) rfl (hb hby at_29)  ?_
  refine G_iconst X17 hx (pc' := 31) rfl (hb hby at_30) (z := (4 : Int32)) rfl ?_
  refine G_irem X17 hx (pc' := 32) rfl (hb hby at_31) (by decide) ?_
  refine G_istore X17 hx (pc' := 34) rfl (hb hby at_32) (L' := #[.val (.int v0), .val (.int v1), .val (.int v2), .val (.int v3), .val (.int v4), .val (.int v5), .val (.ref b13), .val (.int ((v4 &&& (2147483647 : Int32)) % (4 : Int32))), .unset, .unset, .unset, .unset, .unset]) rfl ?_
  obtain ⟨off, h_off, hoA, hoB⟩ : ∃ off : Int32, ((v4 &&& (2147483647 : Int32)) % (4 : Int32)) = off ∧ 0 ≤ off.toInt ∧ off.toInt < 4 := ⟨_, rfl, (own_off _).1, (own_off _).2⟩
  rw [h_off]
  refine G_iconst X17 hx (pc' := 35) rfl (hb hby at_34) (z := (1 : Int32)) rfl ?_
  refine G_iload X17 hx (pc' := 37) rfl (hb hby at_35) rfl ?_
  refine G_ldc X17 hx (pc' := 39) rfl hown (mvT hZ (hw _ (List.mem_of_getElem? (i := 1) rfl))) (hb hby at_37) ?_
  refine G_iand X17 hx (pc' := 40) rfl (hb hby at_39)  ?_
  refine G_iconst X17 hx (pc' := 41) rfl (hb hby at_40) (z := (4 : Int32)) rfl ?_
  refine G_iload X17 hx (pc' := 43) rfl (hb hby at_41) rfl ?_
  refine G_isub X17 hx (pc' := 44) rfl (hb hby at_43)  ?_
  refine G_irem X17 hx (pc' := 45) rfl (hb hby at_44) (own_nz hoA hoB) ?_
  refine G_iadd X17 hx (pc' := 46) rfl (hb hby at_45)  ?_
  refine G_istore X17 hx (pc' := 48) rfl (hb hby at_46) (L' := #[.val (.int v0), .val (.int v1), .val (.int v2), .val (.int v3), .val (.int v4), .val (.int v5), .val (.ref b13), .val (.int off), .val (.int ((1 : Int32) + ((v5 &&& (2147483647 : Int32)) % ((4 : Int32) - off)))), .unset, .unset, .unset, .unset]) rfl ?_
  obtain ⟨len, h_len, hlA, hlB⟩ : ∃ len : Int32, ((1 : Int32) + ((v5 &&& (2147483647 : Int32)) % ((4 : Int32) - off))) = len ∧ 1 ≤ len.toInt ∧ off.toInt + len.toInt ≤ 4 := ⟨_, rfl, (own_len1 _ hoA hoB).1, (own_len1 _ hoA hoB).2⟩
  rw [h_len]
  obtain ⟨T18, h18, X18, e18, E18, A18, D18, -, st18⟩ := newO X17 hx hZ hown (hw _ (List.mem_of_getElem? (i := 2) rfl)) (hw _ (List.mem_of_getElem? (i := 3) rfl)) (hw _ (List.mem_of_getElem? (i := 4) rfl)) e17 (g := (mkF m 48 #[.val (.int v0), .val (.int v1), .val (.int v2), .val (.int v3), .val (.int v4), .val (.int v5), .val (.ref b13), .val (.int off), .val (.int len), .unset, .unset, .unset, .unset] [])) rfl (hb hby at_48) (by decide) (by decide)
  obtain ⟨b18, q18⟩ : ∃ z, z = h17.size := ⟨_, rfl⟩
  rw [← q18] at A18 D18 st18
  refine Go.st st18 ?_
  have ne_b13_b18 : b13 ≠ b18 := Nat.ne_of_lt (Nat.lt_of_lt_of_le E_b13_17.lt (Nat.le_of_eq q18.symm))
  have g_b18 : n0 ≤ b18 := Nat.le_trans Z_17 (Nat.le_of_eq q18.symm)
  have sz_b18 : h0.size ≤ b18 := Nat.le_trans K_17.1 (Nat.le_of_eq q18.symm)
  have E_b13_18 := E_b13_17.ext E18
  have A_b13_18 := A_b13_17.ext E18
  have F_b18_data : Fld Z h18 b18 "managerie/snmp/Ber$Reader" "data" "[B" .null := D18 (Or.inr (hw _ (List.mem_of_getElem? (i := 20) rfl))) (ty := (.array .byte)) (by decide)
  have F_b18_position : Fld Z h18 b18 "managerie/snmp/Ber$Reader" "position" "I" (.int (0 : Int32)) := D18 (Or.inl (hw _ (List.mem_of_getElem? (i := 22) rfl))) (ty := .int) (by decide)
  have F_b18_end : Fld Z h18 b18 "managerie/snmp/Ber$Reader" "end" "I" (.int (0 : Int32)) := D18 (Or.inr (hw _ (List.mem_of_getElem? (i := 24) rfl))) (ty := .int) (by decide)
  have K_18 : Keep h0 h18 [] := K_17.ext E18
  have Z_18 : n0 ≤ h18.size := Nat.le_trans Z0 K_18.1
  show Go p e below s _ _ _ T18 (mkF m 51 #[.val (.int v0), .val (.int v1), .val (.int v2), .val (.int v3), .val (.int v4), .val (.int v5), .val (.ref b13), .val (.int off), .val (.int len), .unset, .unset, .unset, .unset] [(.ref b18)])
  refine G_dup X18 hx (pc' := 52) rfl (hb hby at_51) rfl ?_
  refine G_aload X18 hx (pc' := 54) rfl (hb hby at_52) rfl rfl ?_
  refine G_iload X18 hx (pc' := 56) rfl (hb hby at_54) rfl ?_
  refine G_iload X18 hx (pc' := 58) rfl (hb hby at_56) rfl ?_
  obtain ⟨_, _, ⟨T19, L19, k19, n19⟩, -, X19, ⟨Lc19, hQ19, l19, y19, z19⟩, st19⟩ := X18.specialBack hx (y := (⟨"managerie/snmp/Ber$Reader", "<init>", "([BII)V"⟩ : MethodName)) rfl hown (mvT hZ (hw _ (List.mem_of_getElem? (i := 5) rfl))) (mvT hZ (hw _ (List.mem_of_getElem? (i := 6) rfl))) (mvT hZ (hw _ (List.mem_of_getElem? (i := 7) rfl))) (by decide) (backOf (W := 1) (rm_rinit l Z a0 hw [] b18 b13 off len [(v0.toInt8.toInt32), (v1.toInt8.toInt32), (v2.toInt8.toInt32), (v3.toInt8.toInt32)] h18 n0 Z_18 A18 F_b18_data F_b18_position F_b18_end A_b13_18 g_b18 ne_b13_b18 (own_chk1 hoA hlA) (own_chk2 hoA hlA hlB)) hZ (hw _ (List.mem_of_getElem? (i := 7) rfl)) (hw _ (List.mem_of_getElem? (i := 4) rfl)) (by decide) (by decide)) (g := (mkF m 58 #[.val (.int v0), .val (.int v1), .val (.int v2), .val (.int v3), .val (.int v4), .val (.int v5), .val (.ref b13), .val (.int off), .val (.int len), .unset, .unset, .unset, .unset] [(.int len), (.int off), (.ref b13), (.ref b18), (.ref b18)])) rfl (by rw [hml]; rfl) (Steps.refl _) (a := b18) (argsL := [(.ref b13), (.int off), (.int len)]) (rest := [(.ref b18)]) (lenOf pd_3 rfl) rfl (by show 2 * 0 + _ ≤ _; exact Nat.le_of_eq rfl) (hb hby at_58) (fun _ _ => ⟨rfl, e18, (by decide : 2 + 0 ≤ _), (by decide : 7 + 0 ≤ _)⟩)
  dsimp only [Pt.U, Pt.locs, Pt.cells, Pt.slots] at X19 l19 y19 z19 st19 hQ19
  subst l19 y19 z19
  obtain ⟨rfl, N19q, K19, p19_0, p19_1, p19_2, p19_3⟩ := hQ19
  have N19 := Fr.app N17 N19q
  refine Go.st (fun _ k => st19.trans k) ?_
  have E_b13_19 := E_b13_18.keep K19
  have A_b13_19 := A_b13_18.keep K19 (ninS ne_b13_b18 nin0)
  have K_19 : Keep h0 T19.heap [] := K_18.trans K19 (allS (Or.inr sz_b18) all0)
  have Z_19 : n0 ≤ T19.heap.size := Nat.le_trans Z0 K_19.1
  show Go p e below s _ _ _ T19 (mkF m 61 #[.val (.int v0), .val (.int v1), .val (.int v2), .val (.int v3), .val (.int v4), .val (.int v5), .val (.ref b13), .val (.int off), .val (.int len), .unset, .unset, .unset, .unset] [(.ref b18)])
  refine G_astore X19 hx (pc' := 63) rfl (hb hby at_61) rfl (L' := #[.val (.int v0), .val (.int v1), .val (.int v2), .val (.int v3), .val (.int v4), .val (.int v5), .val (.ref b13), .val (.int off), .val (.int len), .val (.ref b18), .unset, .unset, .unset]) rfl ?_
  refine G_iload X19 hx (pc' := 65) rfl (hb hby at_63) rfl ?_
  by_cases hc65_1 : off = (0 : Int32)
  · refine G_ifNo X19 hx (pc' := 68) rfl (hb hby at_65) ((if0 _ _).trans (teq hc65_1).2) ?_
    refine G_iloadN X19 hx (pc' := 69) rfl (hb hby at_68) rfl ?_
    refine G_sipush X19 hx (pc' := 72) rfl (hb hby at_69) (z := (255 : Int32)) rfl ?_
    refine G_iand X19 hx (pc' := 73) rfl (hb hby at_72)  ?_
    refine G_istore X19 hx (pc' := 75) rfl (hb hby at_73) (L' := #[.val (.int v0), .val (.int v1), .val (.int v2), .val (.int v3), .val (.int v4), .val (.int v5), .val (.ref b13), .val (.int off), .val (.int len), .val (.ref b18), .val (.int (v0 &&& (255 : Int32))), .unset, .unset]) rfl ?_
    refine G_goto X19 hx (pc' := 117) (hb hby at_75)  (by decide) (by decide) ?_
    refine G_aload X19 hx (pc' := 119) rfl (hb hby at_117) rfl rfl ?_
    obtain ⟨cq20, kq20, q20a, q20b, q20c⟩ := isOf hZ rfl p19_0
    obtain ⟨_, _, ⟨T20, L20, k20, n20⟩, -, X20, ⟨Lc20, hQ20, l20, y20, z20⟩, st20⟩ := X19.virtualBack hx (y := (⟨"managerie/snmp/Ber$Reader", "peekTag", "()I"⟩ : MethodName)) (z := (⟨"managerie/snmp/Ber$Reader", "peekTag", "()I"⟩ : MethodName)) hown (mvT hZ (hw _ (List.mem_of_getElem? (i := 25) rfl))) (mvT hZ (hw _ (List.mem_of_getElem? (i := 26) rfl))) (notFace_of_selects (args := #[]) (mvT hZ (hw _ (List.mem_of_getElem? (i := 28) rfl)))) (mvT hZ (hw _ (List.mem_of_getElem? (i := 28) rfl))) (mvT hZ (hw _ (List.mem_of_getElem? (i := 27) rfl))) (by decide) (backOf (W := 0) (rm_peekTag l Z a0 hw [] b18 off (off + len) b13 [(v0.toInt8.toInt32), (v1.toInt8.toInt32), (v2.toInt8.toInt32), (v3.toInt8.toInt32)] T19.heap n0 Z_19 p19_0 p19_2 p19_3 p19_1 A_b13_19 (own_hm hoA hlA hlB) (own_i1 hoA) (own_i2 hoA hoB)) hZ (hw _ (List.mem_of_getElem? (i := 29) rfl)) (hw _ (List.mem_of_getElem? (i := 4) rfl)) (by decide) (by decide)) q20a q20c (g := (mkF m 119 #[.val (.int v0), .val (.int v1), .val (.int v2), .val (.int v3), .val (.int v4), .val (.int v5), .val (.ref b13), .val (.int off), .val (.int len), .val (.ref b18), .val (.int (v0 &&& (255 : Int32))), .unset, .unset] [(.ref b18)])) rfl (by rw [hml]; rfl) (Steps.refl _) (argsL := []) (rest := []) (lenOf pd_4 rfl) rfl (by show 2 * 0 + _ ≤ _; exact Nat.le_of_eq rfl) (hb hby at_119) (fun _ _ => ⟨rfl, rfl, (by decide : 2 + 0 ≤ _), (by decide : 7 + 0 ≤ _)⟩)
    dsimp only [Pt.U, Pt.locs, Pt.cells, Pt.slots] at X20 l20 y20 z20 st20 hQ20
    subst l20 y20 z20
    obtain ⟨rfl, N20q, e20⟩ := hQ20
    have N20 := Fr.app N19 N20q
    refine Go.st (fun _ k => st20.trans k) ?_
    show Go p e below s _ _ _ T20 (mkF m 122 #[.val (.int v0), .val (.int v1), .val (.int v2), .val (.int v3), .val (.int v4), .val (.int v5), .val (.ref b13), .val (.int off), .val (.int len), .val (.ref b18), .val (.int (v0 &&& (255 : Int32))), .unset, .unset] [(.int (([(v0.toInt8.toInt32), (v1.toInt8.toInt32), (v2.toInt8.toInt32), (v3.toInt8.toInt32)].getD off.toNatClampNeg 0) &&& (255 : Int32)))])
    refine G_istore X20 hx (pc' := 124) rfl (hb hby at_122) (L' := #[.val (.int v0), .val (.int v1), .val (.int v2), .val (.int v3), .val (.int v4), .val (.int v5), .val (.ref b13), .val (.int off), .val (.int len), .val (.ref b18), .val (.int (v0 &&& (255 : Int32))), .val (.int (([(v0.toInt8.toInt32), (v1.toInt8.toInt32), (v2.toInt8.toInt32), (v3.toInt8.toInt32)].getD off.toNatClampNeg 0) &&& (255 : Int32))), .unset]) rfl ?_
    refine G_aload X20 hx (pc' := 126) rfl (hb hby at_124) rfl rfl ?_
    obtain ⟨cq21, kq21, q21a, q21b, q21c⟩ := isOf hZ e20 p19_0
    obtain ⟨_, _, ⟨T21, L21, k21, n21⟩, -, X21, ⟨Lc21, hQ21, l21, y21, z21⟩, st21⟩ := X20.virtualBack hx (y := (⟨"managerie/snmp/Ber$Reader", "peekTag", "()I"⟩ : MethodName)) (z := (⟨"managerie/snmp/Ber$Reader", "peekTag", "()I"⟩ : MethodName)) hown (mvT hZ (hw _ (List.mem_of_getElem? (i := 25) rfl))) (mvT hZ (hw _ (List.mem_of_getElem? (i := 26) rfl))) (notFace_of_selects (args := #[]) (mvT hZ (hw _ (List.mem_of_getElem? (i := 28) rfl)))) (mvT hZ (hw _ (List.mem_of_getElem? (i := 28) rfl))) (mvT hZ (hw _ (List.mem_of_getElem? (i := 27) rfl))) (by decide) (backOf (W := 0) (rm_peekTag l Z a0 hw [] b18 off (off + len) b13 [(v0.toInt8.toInt32), (v1.toInt8.toInt32), (v2.toInt8.toInt32), (v3.toInt8.toInt32)] T19.heap n0 Z_19 p19_0 p19_2 p19_3 p19_1 A_b13_19 (own_hm hoA hlA hlB) (own_i1 hoA) (own_i2 hoA hoB)) hZ (hw _ (List.mem_of_getElem? (i := 29) rfl)) (hw _ (List.mem_of_getElem? (i := 4) rfl)) (by decide) (by decide)) q21a q21c (g := (mkF m 126 #[.val (.int v0), .val (.int v1), .val (.int v2), .val (.int v3), .val (.int v4), .val (.int v5), .val (.ref b13), .val (.int off), .val (.int len), .val (.ref b18), .val (.int (v0 &&& (255 : Int32))), .val (.int (([(v0.toInt8.toInt32), (v1.toInt8.toInt32), (v2.toInt8.toInt32), (v3.toInt8.toInt32)].getD off.toNatClampNeg 0) &&& (255 : Int32))), .unset] [(.ref b18)])) rfl (by rw [hml]; rfl) (Steps.refl _) (argsL := []) (rest := []) (lenOf pd_4 rfl) rfl (by show 2 * 0 + _ ≤ _; exact Nat.le_of_eq rfl) (hb hby at_126) (fun _ _ => ⟨rfl, e20, (by decide : 2 + 0 ≤ _), (by decide : 7 + 0 ≤ _)⟩)
    dsimp only [Pt.U, Pt.locs, Pt.cells, Pt.slots] at X21 l21 y21 z21 st21 hQ21
    subst l21 y21 z21
    obtain ⟨rfl, N21q, e21⟩ := hQ21
    have N21 := Fr.app N20 N21q
    refine Go.st (fun _ k => st21.trans k) ?_
    show Go p e below s _ _ _ T21 (mkF m 129 #[.val (.int v0), .val (.int v1), .val (.int v2), .val (.int v3), .val (.int v4), .val (.int v5), .val (.ref b13), .val (.int off), .val (.int len), .val (.ref b18), .val (.int (v0 &&& (255 : Int32))), .val (.int (([(v0.toInt8.toInt32), (v1.toInt8.toInt32), (v2.toInt8.toInt32), (v3.toInt8.toInt32)].getD off.toNatClampNeg 0) &&& (255 : Int32))), .unset] [(.int (([(v0.toInt8.toInt32), (v1.toInt8.toInt32), (v2.toInt8.toInt32), (v3.toInt8.toInt32)].getD off.toNatClampNeg 0) &&& (255 : Int32)))])
    refine G_istore X21 hx (pc' := 131) rfl (hb hby at_129) (L' := #[.val (.int v0), .val (.int v1), .val (.int v2), .val (.int v3), .val (.int v4), .val (.int v5), .val (.ref b13), .val (.int off), .val (.int len), .val (.ref b18), .val (.int (v0 &&& (255 : Int32))), .val (.int (([(v0.toInt8.toInt32), (v1.toInt8.toInt32), (v2.toInt8.toInt32), (v3.toInt8.toInt32)].getD off.toNatClampNeg 0) &&& (255 : Int32))), .val (.int (([(v0.toInt8.toInt32), (v1.toInt8.toInt32), (v2.toInt8.toInt32), (v3.toInt8.toInt32)].getD off.toNatClampNeg 0) &&& (255 : Int32)))]) rfl ?_
    refine G_iload X21 hx (pc' := 133) rfl (hb hby at_131) rfl ?_
    refine G_iload X21 hx (pc' := 135) rfl (hb hby at_133) rfl ?_
    refine G_icmpNo X21 hx (pc' := 138) rfl (hb hby at_135) (teq ((by first | exact own_p0 (by assumption) | exact own_p1 (by assumption) | exact own_p2 (by assumption) | exact own_p3 hoA hoB (by assumption) (by assumption) (by assumption)) : (([(v0.toInt8.toInt32), (v1.toInt8.toInt32), (v2.toInt8.toInt32), (v3.toInt8.toInt32)].getD off.toNatClampNeg 0) &&& (255 : Int32)) = (v0 &&& (255 : Int32)))).2 ?_
    refine G_iload X21 hx (pc' := 140) rfl (hb hby at_138) rfl ?_
    refine G_iload X21 hx (pc' := 142) rfl (hb hby at_140) rfl ?_
    refine G_icmpNo X21 hx (pc' := 145) rfl (hb hby at_142) (teq ((by first | exact own_p0 (by assumption) | exact own_p1 (by assumption) | exact own_p2 (by assumption) | exact own_p3 hoA hoB (by assumption) (by assumption) (by assumption)) : (([(v0.toInt8.toInt32), (v1.toInt8.toInt32), (v2.toInt8.toInt32), (v3.toInt8.toInt32)].getD off.toNatClampNeg 0) &&& (255 : Int32)) = (v0 &&& (255 : Int32)))).2 ?_
    refine G_aload X21 hx (pc' := 147) rfl (hb hby at_145) rfl rfl ?_
    obtain ⟨cq22, kq22, q22a, q22b, q22c⟩ := isOf hZ e21 p19_0
    obtain ⟨_, _, ⟨T22, L22, k22, n22⟩, -, X22, ⟨Lc22, hQ22, l22, y22, z22⟩, st22⟩ := X21.virtualBack hx (y := (⟨"managerie/snmp/Ber$Reader", "position", "()I"⟩ : MethodName)) (z := (⟨"managerie/snmp/Ber$Reader", "position", "()I"⟩ : MethodName)) hown (mvT hZ (hw _ (List.mem_of_getElem? (i := 35) rfl))) (mvT hZ (hw _ (List.mem_of_getElem? (i := 36) rfl))) (notFace_of_selects (args := #[]) (mvT hZ (hw _ (List.mem_of_getElem? (i := 38) rfl)))) (mvT hZ (hw _ (List.mem_of_getElem? (i := 38) rfl))) (mvT hZ (hw _ (List.mem_of_getElem? (i := 37) rfl))) (by decide) (backOf (W := 0) (rm_position l Z a0 hw [] b18 off T19.heap n0 Z_19 p19_2) hZ (hw _ (List.mem_of_getElem? (i := 39) rfl)) (hw _ (List.mem_of_getElem? (i := 4) rfl)) (by decide) (by decide)) q22a q22c (g := (mkF m 147 #[.val (.int v0), .val (.int v1), .val (.int v2), .val (.int v3), .val (.int v4), .val (.int v5), .val (.ref b13), .val (.int off), .val (.int len), .val (.ref b18), .val (.int (v0 &&& (255 : Int32))), .val (.int (([(v0.toInt8.toInt32), (v1.toInt8.toInt32), (v2.toInt8.toInt32), (v3.toInt8.toInt32)].getD off.toNatClampNeg 0) &&& (255 : Int32))), .val (.int (([(v0.toInt8.toInt32), (v1.toInt8.toInt32), (v2.toInt8.toInt32), (v3.toInt8.toInt32)].getD off.toNatClampNeg 0) &&& (255 : Int32)))] [(.ref b18)])) rfl (by rw [hml]; rfl) (Steps.refl _) (argsL := []) (rest := []) (lenOf pd_4 rfl) rfl (by show 2 * 0 + _ ≤ _; exact Nat.le_of_eq rfl) (hb hby at_147) (fun _ _ => ⟨rfl, e21, (by decide : 2 + 0 ≤ _), (by decide : 7 + 0 ≤ _)⟩)
    dsimp only [Pt.U, Pt.locs, Pt.cells, Pt.slots] at X22 l22 y22 z22 st22 hQ22
    subst l22 y22 z22
    obtain ⟨rfl, N22q, e22⟩ := hQ22
    have N22 := Fr.app N21 N22q
    refine Go.st (fun _ k => st22.trans k) ?_
    show Go p e below s _ _ _ T22 (mkF m 150 #[.val (.int v0), .val (.int v1), .val (.int v2), .val (.int v3), .val (.int v4), .val (.int v5), .val (.ref b13), .val (.int off), .val (.int len), .val (.ref b18), .val (.int (v0 &&& (255 : Int32))), .val (.int (([(v0.toInt8.toInt32), (v1.toInt8.toInt32), (v2.toInt8.toInt32), (v3.toInt8.toInt32)].getD off.toNatClampNeg 0) &&& (255 : Int32))), .val (.int (([(v0.toInt8.toInt32), (v1.toInt8.toInt32), (v2.toInt8.toInt32), (v3.toInt8.toInt32)].getD off.toNatClampNeg 0) &&& (255 : Int32)))] [(.int off)])
    refine G_iload X22 hx (pc' := 152) rfl (hb hby at_150) rfl ?_
    refine G_icmpNo X22 hx (pc' := 155) rfl (hb hby at_152) (teq (rfl : off = off)).2 ?_
    refine G_aload X22 hx (pc' := 157) rfl (hb hby at_155) rfl rfl ?_
    obtain ⟨cq23, kq23, q23a, q23b, q23c⟩ := isOf hZ e22 p19_0
    obtain ⟨_, _, ⟨T23, L23, k23, n23⟩, -, X23, ⟨Lc23, hQ23, l23, y23, z23⟩, st23⟩ := X22.virtualBack hx (y := (⟨"managerie/snmp/Ber$Reader", "hasMore", "()Z"⟩ : MethodName)) (z := (⟨"managerie/snmp/Ber$Reader", "hasMore", "()Z"⟩ : MethodName)) hown (mvT hZ (hw _ (List.mem_of_getElem? (i := 40) rfl))) (mvT hZ (hw _ (List.mem_of_getElem? (i := 31) rfl))) (notFace_of_selects (args := #[]) (mvT hZ (hw _ (List.mem_of_getElem? (i := 33) rfl)))) (mvT hZ (hw _ (List.mem_of_getElem? (i := 33) rfl))) (mvT hZ (hw _ (List.mem_of_getElem? (i := 32) rfl))) (by decide) (backOf (W := 0) (rm_hasMore l Z a0 hw [] b18 off (off + len) T19.heap n0 Z_19 p19_0 p19_2 p19_3) hZ (hw _ (List.mem_of_getElem? (i := 34) rfl)) (hw _ (List.mem_of_getElem? (i := 4) rfl)) (by decide) (by decide)) q23a q23c (g := (mkF m 157 #[.val (.int v0), .val (.int v1), .val (.int v2), .val (.int v3), .val (.int v4), .val (.int v5), .val (.ref b13), .val (.int off), .val (.int len), .val (.ref b18), .val (.int (v0 &&& (255 : Int32))), .val (.int (([(v0.toInt8.toInt32), (v1.toInt8.toInt32), (v2.toInt8.toInt32), (v3.toInt8.toInt32)].getD off.toNatClampNeg 0) &&& (255 : Int32))), .val (.int (([(v0.toInt8.toInt32), (v1.toInt8.toInt32), (v2.toInt8.toInt32), (v3.toInt8.toInt32)].getD off.toNatClampNeg 0) &&& (255 : Int32)))] [(.ref b18)])) rfl (by rw [hml]; rfl) (Steps.refl _) (argsL := []) (rest := []) (lenOf pd_2 rfl) rfl (by show 2 * 0 + _ ≤ _; exact Nat.le_of_eq rfl) (hb hby at_157) (fun _ _ => ⟨rfl, e22, (by decide : 2 + 0 ≤ _), (by decide : 7 + 0 ≤ _)⟩)
    dsimp only [Pt.U, Pt.locs, Pt.cells, Pt.slots] at X23 l23 y23 z23 st23 hQ23
    subst l23 y23 z23
    obtain ⟨rfl, N23q, e23⟩ := hQ23
    have N23 := Fr.app N22 N23q
    refine Go.st (fun _ k => st23.trans k) ?_
    show Go p e below s _ _ _ T23 (mkF m 160 #[.val (.int v0), .val (.int v1), .val (.int v2), .val (.int v3), .val (.int v4), .val (.int v5), .val (.ref b13), .val (.int off), .val (.int len), .val (.ref b18), .val (.int (v0 &&& (255 : Int32))), .val (.int (([(v0.toInt8.toInt32), (v1.toInt8.toInt32), (v2.toInt8.toInt32), (v3.toInt8.toInt32)].getD off.toNatClampNeg 0) &&& (255 : Int32))), .val (.int (([(v0.toInt8.toInt32), (v1.toInt8.toInt32), (v2.toInt8.toInt32), (v3.toInt8.toInt32)].getD off.toNatClampNeg 0) &&& (255 : Int32)))] [(.int (f_hasMore off (off + len)))])
    refine G_ifNo X23 hx (pc' := 163) rfl (hb hby at_160) ((if0 _ _).trans (feq ((own_hm hoA hlA hlB) : ¬ ((f_hasMore off (off + len)) = (0 : Int32)))).1) ?_
    refine G_iconst X23 hx (pc' := 164) rfl (hb hby at_163) (z := (1 : Int32)) rfl ?_
    refine G_goto X23 hx (pc' := 168) (hb hby at_164)  (by decide) (by decide) ?_
    refine Go.fin X23 hlk (v := some (.int (1 : Int32))) (fun h => by rw [Bd.returns] at h; cases h) (by decide) (by decide) ?_ (fun fs hr => retN X23 hx (t := .boolean) Bd.returns (by simp) (hb hby at_168) hr)
    show Q_law Z v0 v1 v2 v3 v4 v5 h0 n0 _ T23.heap _
    rw [e23]
    exact ⟨congrArg (fun z => some (Value.int z)) (by rw [f_law]; (try rw [h_off]); (try rw [h_len]); rw [if_pos hc65_1]), N23⟩
  · refine G_ifYes X19 hx (pc' := 78) (hb hby at_65) ((if0 _ _).trans (feq hc65_1).2) (by decide) (by decide) ?_
    refine G_iload X19 hx (pc' := 80) rfl (hb hby at_78) rfl ?_
    refine G_iconst X19 hx (pc' := 81) rfl (hb hby at_80) (z := (1 : Int32)) rfl ?_
    by_cases hc81_2 : off = (1 : Int32)
    · refine G_icmpNo X19 hx (pc' := 84) rfl (hb hby at_81) (teq hc81_2).2 ?_
      refine G_iloadN X19 hx (pc' := 85) rfl (hb hby at_84) rfl ?_
      refine G_sipush X19 hx (pc' := 88) rfl (hb hby at_85) (z := (255 : Int32)) rfl ?_
      refine G_iand X19 hx (pc' := 89) rfl (hb hby at_88)  ?_
      refine G_istore X19 hx (pc' := 91) rfl (hb hby at_89) (L' := #[.val (.int v0), .val (.int v1), .val (.int v2), .val (.int v3), .val (.int v4), .val (.int v5), .val (.ref b13), .val (.int off), .val (.int len), .val (.ref b18), .val (.int (v1 &&& (255 : Int32))), .unset, .unset]) rfl ?_
      refine G_goto X19 hx (pc' := 117) (hb hby at_91)  (by decide) (by decide) ?_
      refine G_aload X19 hx (pc' := 119) rfl (hb hby at_117) rfl rfl ?_
      obtain ⟨cq24, kq24, q24a, q24b, q24c⟩ := isOf hZ rfl p19_0
      obtain ⟨_, _, ⟨T24, L24, k24, n24⟩, -, X24, ⟨Lc24, hQ24, l24, y24, z24⟩, st24⟩ := X19.virtualBack hx (y := (⟨"managerie/snmp/Ber$Reader", "peekTag", "()I"⟩ : MethodName)) (z := (⟨"managerie/snmp/Ber$Reader", "peekTag", "()I"⟩ : MethodName)) hown (mvT hZ (hw _ (List.mem_of_getElem? (i := 25) rfl))) (mvT hZ (hw _ (List.mem_of_getElem? (i := 26) rfl))) (notFace_of_selects (args := #[]) (mvT hZ (hw _ (List.mem_of_getElem? (i := 28) rfl)))) (mvT hZ (hw _ (List.mem_of_getElem? (i := 28) rfl))) (mvT hZ (hw _ (List.mem_of_getElem? (i := 27) rfl))) (by decide) (backOf (W := 0) (rm_peekTag l Z a0 hw [] b18 off (off + len) b13 [(v0.toInt8.toInt32), (v1.toInt8.toInt32), (v2.toInt8.toInt32), (v3.toInt8.toInt32)] T19.heap n0 Z_19 p19_0 p19_2 p19_3 p19_1 A_b13_19 (own_hm hoA hlA hlB) (own_i1 hoA) (own_i2 hoA hoB)) hZ (hw _ (List.mem_of_getElem? (i := 29) rfl)) (hw _ (List.mem_of_getElem? (i := 4) rfl)) (by decide) (by decide)) q24a q24c (g := (mkF m 119 #[.val (.int v0), .val (.int v1), .val (.int v2), .val (.int v3), .val (.int v4), .val (.int v5), .val (.ref b13), .val (.int off), .val (.int len), .val (.ref b18), .val (.int (v1 &&& (255 : Int32))), .unset, .unset] [(.ref b18)])) rfl (by rw [hml]; rfl) (Steps.refl _) (argsL := []) (rest := []) (lenOf pd_4 rfl) rfl (by show 2 * 0 + _ ≤ _; exact Nat.le_of_eq rfl) (hb hby at_119) (fun _ _ => ⟨rfl, rfl, (by decide : 2 + 0 ≤ _), (by decide : 7 + 0 ≤ _)⟩)
      dsimp only [Pt.U, Pt.locs, Pt.cells, Pt.slots] at X24 l24 y24 z24 st24 hQ24
      subst l24 y24 z24
      obtain ⟨rfl, N24q, e24⟩ := hQ24
      have N24 := Fr.app N19 N24q
      refine Go.st (fun _ k => st24.trans k) ?_
      show Go p e below s _ _ _ T24 (mkF m 122 #[.val (.int v0), .val (.int v1), .val (.int v2), .val (.int v3), .val (.int v4), .val (.int v5), .val (.ref b13), .val (.int off), .val (.int len), .val (.ref b18), .val (.int (v1 &&& (255 : Int32))), .unset, .unset] [(.int (([(v0.toInt8.toInt32), (v1.toInt8.toInt32), (v2.toInt8.toInt32), (v3.toInt8.toInt32)].getD off.toNatClampNeg 0) &&& (255 : Int32)))])
      refine G_istore X24 hx (pc' := 124) rfl (hb hby at_122) (L' := #[.val (.int v0), .val (.int v1), .val (.int v2), .val (.int v3), .val (.int v4), .val (.int v5), .val (.ref b13), .val (.int off), .val (.int len), .val (.ref b18), .val (.int (v1 &&& (255 : Int32))), .val (.int (([(v0.toInt8.toInt32), (v1.toInt8.toInt32), (v2.toInt8.toInt32), (v3.toInt8.toInt32)].getD off.toNatClampNeg 0) &&& (255 : Int32))), .unset]) rfl ?_
      refine G_aload X24 hx (pc' := 126) rfl (hb hby at_124) rfl rfl ?_
      obtain ⟨cq25, kq25, q25a, q25b, q25c⟩ := isOf hZ e24 p19_0
      obtain ⟨_, _, ⟨T25, L25, k25, n25⟩, -, X25, ⟨Lc25, hQ25, l25, y25, z25⟩, st25⟩ := X24.virtualBack hx (y := (⟨"managerie/snmp/Ber$Reader", "peekTag", "()I"⟩ : MethodName)) (z := (⟨"managerie/snmp/Ber$Reader", "peekTag", "()I"⟩ : MethodName)) hown (mvT hZ (hw _ (List.mem_of_getElem? (i := 25) rfl))) (mvT hZ (hw _ (List.mem_of_getElem? (i := 26) rfl))) (notFace_of_selects (args := #[]) (mvT hZ (hw _ (List.mem_of_getElem? (i := 28) rfl)))) (mvT hZ (hw _ (List.mem_of_getElem? (i := 28) rfl))) (mvT hZ (hw _ (List.mem_of_getElem? (i := 27) rfl))) (by decide) (backOf (W := 0) (rm_peekTag l Z a0 hw [] b18 off (off + len) b13 [(v0.toInt8.toInt32), (v1.toInt8.toInt32), (v2.toInt8.toInt32), (v3.toInt8.toInt32)] T19.heap n0 Z_19 p19_0 p19_2 p19_3 p19_1 A_b13_19 (own_hm hoA hlA hlB) (own_i1 hoA) (own_i2 hoA hoB)) hZ (hw _ (List.mem_of_getElem? (i := 29) rfl)) (hw _ (List.mem_of_getElem? (i := 4) rfl)) (by decide) (by decide)) q25a q25c (g := (mkF m 126 #[.val (.int v0), .val (.int v1), .val (.int v2), .val (.int v3), .val (.int v4), .val (.int v5), .val (.ref b13), .val (.int off), .val (.int len), .val (.ref b18), .val (.int (v1 &&& (255 : Int32))), .val (.int (([(v0.toInt8.toInt32), (v1.toInt8.toInt32), (v2.toInt8.toInt32), (v3.toInt8.toInt32)].getD off.toNatClampNeg 0) &&& (255 : Int32))), .unset] [(.ref b18)])) rfl (by rw [hml]; rfl) (Steps.refl _) (argsL := []) (rest := []) (lenOf pd_4 rfl) rfl (by show 2 * 0 + _ ≤ _; exact Nat.le_of_eq rfl) (hb hby at_126) (fun _ _ => ⟨rfl, e24, (by decide : 2 + 0 ≤ _), (by decide : 7 + 0 ≤ _)⟩)
      dsimp only [Pt.U, Pt.locs, Pt.cells, Pt.slots] at X25 l25 y25 z25 st25 hQ25
      subst l25 y25 z25
      obtain ⟨rfl, N25q, e25⟩ := hQ25
      have N25 := Fr.app N24 N25q
      refine Go.st (fun _ k => st25.trans k) ?_
      show Go p e below s _ _ _ T25 (mkF m 129 #[.val (.int v0), .val (.int v1), .val (.int v2), .val (.int v3), .val (.int v4), .val (.int v5), .val (.ref b13), .val (.int off), .val (.int len), .val (.ref b18), .val (.int (v1 &&& (255 : Int32))), .val (.int (([(v0.toInt8.toInt32), (v1.toInt8.toInt32), (v2.toInt8.toInt32), (v3.toInt8.toInt32)].getD off.toNatClampNeg 0) &&& (255 : Int32))), .unset] [(.int (([(v0.toInt8.toInt32), (v1.toInt8.toInt32), (v2.toInt8.toInt32), (v3.toInt8.toInt32)].getD off.toNatClampNeg 0) &&& (255 : Int32)))])
      refine G_istore X25 hx (pc' := 131) rfl (hb hby at_129) (L' := #[.val (.int v0), .val (.int v1), .val (.int v2), .val (.int v3), .val (.int v4), .val (.int v5), .val (.ref b13), .val (.int off), .val (.int len), .val (.ref b18), .val (.int (v1 &&& (255 : Int32))), .val (.int (([(v0.toInt8.toInt32), (v1.toInt8.toInt32), (v2.toInt8.toInt32), (v3.toInt8.toInt32)].getD off.toNatClampNeg 0) &&& (255 : Int32))), .val (.int (([(v0.toInt8.toInt32), (v1.toInt8.toInt32), (v2.toInt8.toInt32), (v3.toInt8.toInt32)].getD off.toNatClampNeg 0) &&& (255 : Int32)))]) rfl ?_
      refine G_iload X25 hx (pc' := 133) rfl (hb hby at_131) rfl ?_
      refine G_iload X25 hx (pc' := 135) rfl (hb hby at_133) rfl ?_
      refine G_icmpNo X25 hx (pc' := 138) rfl (hb hby at_135) (teq ((by first | exact own_p0 (by assumption) | exact own_p1 (by assumption) | exact own_p2 (by assumption) | exact own_p3 hoA hoB (by assumption) (by assumption) (by assumption)) : (([(v0.toInt8.toInt32), (v1.toInt8.toInt32), (v2.toInt8.toInt32), (v3.toInt8.toInt32)].getD off.toNatClampNeg 0) &&& (255 : Int32)) = (v1 &&& (255 : Int32)))).2 ?_
      refine G_iload X25 hx (pc' := 140) rfl (hb hby at_138) rfl ?_
      refine G_iload X25 hx (pc' := 142) rfl (hb hby at_140) rfl ?_
      refine G_icmpNo X25 hx (pc' := 145) rfl (hb hby at_142) (teq ((by first | exact own_p0 (by assumption) | exact own_p1 (by assumption) | exact own_p2 (by assumption) | exact own_p3 hoA hoB (by assumption) (by assumption) (by assumption)) : (([(v0.toInt8.toInt32), (v1.toInt8.toInt32), (v2.toInt8.toInt32), (v3.toInt8.toInt32)].getD off.toNatClampNeg 0) &&& (255 : Int32)) = (v1 &&& (255 : Int32)))).2 ?_
      refine G_aload X25 hx (pc' := 147) rfl (hb hby at_145) rfl rfl ?_
      obtain ⟨cq26, kq26, q26a, q26b, q26c⟩ := isOf hZ e25 p19_0
      obtain ⟨_, _, ⟨T26, L26, k26, n26⟩, -, X26, ⟨Lc26, hQ26, l26, y26, z26⟩, st26⟩ := X25.virtualBack hx (y := (⟨"managerie/snmp/Ber$Reader", "position", "()I"⟩ : MethodName)) (z := (⟨"managerie/snmp/Ber$Reader", "position", "()I"⟩ : MethodName)) hown (mvT hZ (hw _ (List.mem_of_getElem? (i := 35) rfl))) (mvT hZ (hw _ (List.mem_of_getElem? (i := 36) rfl))) (notFace_of_selects (args := #[]) (mvT hZ (hw _ (List.mem_of_getElem? (i := 38) rfl)))) (mvT hZ (hw _ (List.mem_of_getElem? (i := 38) rfl))) (mvT hZ (hw _ (List.mem_of_getElem? (i := 37) rfl))) (by decide) (backOf (W := 0) (rm_position l Z a0 hw [] b18 off T19.heap n0 Z_19 p19_2) hZ (hw _ (List.mem_of_getElem? (i := 39) rfl)) (hw _ (List.mem_of_getElem? (i := 4) rfl)) (by decide) (by decide)) q26a q26c (g := (mkF m 147 #[.val (.int v0), .val (.int v1), .val (.int v2), .val (.int v3), .val (.int v4), .val (.int v5), .val (.ref b13), .val (.int off), .val (.int len), .val (.ref b18), .val (.int (v1 &&& (255 : Int32))), .val (.int (([(v0.toInt8.toInt32), (v1.toInt8.toInt32), (v2.toInt8.toInt32), (v3.toInt8.toInt32)].getD off.toNatClampNeg 0) &&& (255 : Int32))), .val (.int (([(v0.toInt8.toInt32), (v1.toInt8.toInt32), (v2.toInt8.toInt32), (v3.toInt8.toInt32)].getD off.toNatClampNeg 0) &&& (255 : Int32)))] [(.ref b18)])) rfl (by rw [hml]; rfl) (Steps.refl _) (argsL := []) (rest := []) (lenOf pd_4 rfl) rfl (by show 2 * 0 + _ ≤ _; exact Nat.le_of_eq rfl) (hb hby at_147) (fun _ _ => ⟨rfl, e25, (by decide : 2 + 0 ≤ _), (by decide : 7 + 0 ≤ _)⟩)
      dsimp only [Pt.U, Pt.locs, Pt.cells, Pt.slots] at X26 l26 y26 z26 st26 hQ26
      subst l26 y26 z26
      obtain ⟨rfl, N26q, e26⟩ := hQ26
      have N26 := Fr.app N25 N26q
      refine Go.st (fun _ k => st26.trans k) ?_
      show Go p e below s _ _ _ T26 (mkF m 150 #[.val (.int v0), .val (.int v1), .val (.int v2), .val (.int v3), .val (.int v4), .val (.int v5), .val (.ref b13), .val (.int off), .val (.int len), .val (.ref b18), .val (.int (v1 &&& (255 : Int32))), .val (.int (([(v0.toInt8.toInt32), (v1.toInt8.toInt32), (v2.toInt8.toInt32), (v3.toInt8.toInt32)].getD off.toNatClampNeg 0) &&& (255 : Int32))), .val (.int (([(v0.toInt8.toInt32), (v1.toInt8.toInt32), (v2.toInt8.toInt32), (v3.toInt8.toInt32)].getD off.toNatClampNeg 0) &&& (255 : Int32)))] [(.int off)])
      refine G_iload X26 hx (pc' := 152) rfl (hb hby at_150) rfl ?_
      refine G_icmpNo X26 hx (pc' := 155) rfl (hb hby at_152) (teq (rfl : off = off)).2 ?_
      refine G_aload X26 hx (pc' := 157) rfl (hb hby at_155) rfl rfl ?_
      obtain ⟨cq27, kq27, q27a, q27b, q27c⟩ := isOf hZ e26 p19_0
      obtain ⟨_, _, ⟨T27, L27, k27, n27⟩, -, X27, ⟨Lc27, hQ27, l27, y27, z27⟩, st27⟩ := X26.virtualBack hx (y := (⟨"managerie/snmp/Ber$Reader", "hasMore", "()Z"⟩ : MethodName)) (z := (⟨"managerie/snmp/Ber$Reader", "hasMore", "()Z"⟩ : MethodName)) hown (mvT hZ (hw _ (List.mem_of_getElem? (i := 40) rfl))) (mvT hZ (hw _ (List.mem_of_getElem? (i := 31) rfl))) (notFace_of_selects (args := #[]) (mvT hZ (hw _ (List.mem_of_getElem? (i := 33) rfl)))) (mvT hZ (hw _ (List.mem_of_getElem? (i := 33) rfl))) (mvT hZ (hw _ (List.mem_of_getElem? (i := 32) rfl))) (by decide) (backOf (W := 0) (rm_hasMore l Z a0 hw [] b18 off (off + len) T19.heap n0 Z_19 p19_0 p19_2 p19_3) hZ (hw _ (List.mem_of_getElem? (i := 34) rfl)) (hw _ (List.mem_of_getElem? (i := 4) rfl)) (by decide) (by decide)) q27a q27c (g := (mkF m 157 #[.val (.int v0), .val (.int v1), .val (.int v2), .val (.int v3), .val (.int v4), .val (.int v5), .val (.ref b13), .val (.int off), .val (.int len), .val (.ref b18), .val (.int (v1 &&& (255 : Int32))), .val (.int (([(v0.toInt8.toInt32), (v1.toInt8.toInt32), (v2.toInt8.toInt32), (v3.toInt8.toInt32)].getD off.toNatClampNeg 0) &&& (255 : Int32))), .val (.int (([(v0.toInt8.toInt32), (v1.toInt8.toInt32), (v2.toInt8.toInt32), (v3.toInt8.toInt32)].getD off.toNatClampNeg 0) &&& (255 : Int32)))] [(.ref b18)])) rfl (by rw [hml]; rfl) (Steps.refl _) (argsL := []) (rest := []) (lenOf pd_2 rfl) rfl (by show 2 * 0 + _ ≤ _; exact Nat.le_of_eq rfl) (hb hby at_157) (fun _ _ => ⟨rfl, e26, (by decide : 2 + 0 ≤ _), (by decide : 7 + 0 ≤ _)⟩)
      dsimp only [Pt.U, Pt.locs, Pt.cells, Pt.slots] at X27 l27 y27 z27 st27 hQ27
      subst l27 y27 z27
      obtain ⟨rfl, N27q, e27⟩ := hQ27
      have N27 := Fr.app N26 N27q
      refine Go.st (fun _ k => st27.trans k) ?_
      show Go p e below s _ _ _ T27 (mkF m 160 #[.val (.int v0), .val (.int v1), .val (.int v2), .val (.int v3), .val (.int v4), .val (.int v5), .val (.ref b13), .val (.int off), .val (.int len), .val (.ref b18), .val (.int (v1 &&& (255 : Int32))), .val (.int (([(v0.toInt8.toInt32), (v1.toInt8.toInt32), (v2.toInt8.toInt32), (v3.toInt8.toInt32)].getD off.toNatClampNeg 0) &&& (255 : Int32))), .val (.int (([(v0.toInt8.toInt32), (v1.toInt8.toInt32), (v2.toInt8.toInt32), (v3.toInt8.toInt32)].getD off.toNatClampNeg 0) &&& (255 : Int32)))] [(.int (f_hasMore off (off + len)))])
      refine G_ifNo X27 hx (pc' := 163) rfl (hb hby at_160) ((if0 _ _).trans (feq ((own_hm hoA hlA hlB) : ¬ ((f_hasMore off (off + len)) = (0 : Int32)))).1) ?_
      refine G_iconst X27 hx (pc' := 164) rfl (hb hby at_163) (z := (1 : Int32)) rfl ?_
      refine G_goto X27 hx (pc' := 168) (hb hby at_164)  (by decide) (by decide) ?_
      refine Go.fin X27 hlk (v := some (.int (1 : Int32))) (fun h => by rw [Bd.returns] at h; cases h) (by decide) (by decide) ?_ (fun fs hr => retN X27 hx (t := .boolean) Bd.returns (by simp) (hb hby at_168) hr)
      show Q_law Z v0 v1 v2 v3 v4 v5 h0 n0 _ T27.heap _
      rw [e27]
      exact ⟨congrArg (fun z => some (Value.int z)) (by rw [f_law]; (try rw [h_off]); (try rw [h_len]); rw [if_neg hc65_1, if_pos hc81_2]), N27⟩
    · refine G_icmpYes X19 hx (pc' := 94) (hb hby at_81) (feq hc81_2).2 (by decide) (by decide) ?_
      refine G_iload X19 hx (pc' := 96) rfl (hb hby at_94) rfl ?_
      refine G_iconst X19 hx (pc' := 97) rfl (hb hby at_96) (z := (2 : Int32)) rfl ?_
      by_cases hc97_3 : off = (2 : Int32)
      · refine G_icmpNo X19 hx (pc' := 100) rfl (hb hby at_97) (teq hc97_3).2 ?_
        refine G_iloadN X19 hx (pc' := 101) rfl (hb hby at_100) rfl ?_
        refine G_sipush X19 hx (pc' := 104) rfl (hb hby at_101) (z := (255 : Int32)) rfl ?_
        refine G_iand X19 hx (pc' := 105) rfl (hb hby at_104)  ?_
        refine G_istore X19 hx (pc' := 107) rfl (hb hby at_105) (L' := #[.val (.int v0), .val (.int v1), .val (.int v2), .val (.int v3), .val (.int v4), .val (.int v5), .val (.ref b13), .val (.int off), .val (.int len), .val (.ref b18), .val (.int (v2 &&& (255 : Int32))), .unset, .unset]) rfl ?_
        refine G_goto X19 hx (pc' := 117) (hb hby at_107)  (by decide) (by decide) ?_
        refine G_aload X19 hx (pc' := 119) rfl (hb hby at_117) rfl rfl ?_
        obtain ⟨cq28, kq28, q28a, q28b, q28c⟩ := isOf hZ rfl p19_0
        obtain ⟨_, _, ⟨T28, L28, k28, n28⟩, -, X28, ⟨Lc28, hQ28, l28, y28, z28⟩, st28⟩ := X19.virtualBack hx (y := (⟨"managerie/snmp/Ber$Reader", "peekTag", "()I"⟩ : MethodName)) (z := (⟨"managerie/snmp/Ber$Reader", "peekTag", "()I"⟩ : MethodName)) hown (mvT hZ (hw _ (List.mem_of_getElem? (i := 25) rfl))) (mvT hZ (hw _ (List.mem_of_getElem? (i := 26) rfl))) (notFace_of_selects (args := #[]) (mvT hZ (hw _ (List.mem_of_getElem? (i := 28) rfl)))) (mvT hZ (hw _ (List.mem_of_getElem? (i := 28) rfl))) (mvT hZ (hw _ (List.mem_of_getElem? (i := 27) rfl))) (by decide) (backOf (W := 0) (rm_peekTag l Z a0 hw [] b18 off (off + len) b13 [(v0.toInt8.toInt32), (v1.toInt8.toInt32), (v2.toInt8.toInt32), (v3.toInt8.toInt32)] T19.heap n0 Z_19 p19_0 p19_2 p19_3 p19_1 A_b13_19 (own_hm hoA hlA hlB) (own_i1 hoA) (own_i2 hoA hoB)) hZ (hw _ (List.mem_of_getElem? (i := 29) rfl)) (hw _ (List.mem_of_getElem? (i := 4) rfl)) (by decide) (by decide)) q28a q28c (g := (mkF m 119 #[.val (.int v0), .val (.int v1), .val (.int v2), .val (.int v3), .val (.int v4), .val (.int v5), .val (.ref b13), .val (.int off), .val (.int len), .val (.ref b18), .val (.int (v2 &&& (255 : Int32))), .unset, .unset] [(.ref b18)])) rfl (by rw [hml]; rfl) (Steps.refl _) (argsL := []) (rest := []) (lenOf pd_4 rfl) rfl (by show 2 * 0 + _ ≤ _; exact Nat.le_of_eq rfl) (hb hby at_119) (fun _ _ => ⟨rfl, rfl, (by decide : 2 + 0 ≤ _), (by decide : 7 + 0 ≤ _)⟩)
        dsimp only [Pt.U, Pt.locs, Pt.cells, Pt.slots] at X28 l28 y28 z28 st28 hQ28
        subst l28 y28 z28
        obtain ⟨rfl, N28q, e28⟩ := hQ28
        have N28 := Fr.app N19 N28q
        refine Go.st (fun _ k => st28.trans k) ?_
        show Go p e below s _ _ _ T28 (mkF m 122 #[.val (.int v0), .val (.int v1), .val (.int v2), .val (.int v3), .val (.int v4), .val (.int v5), .val (.ref b13), .val (.int off), .val (.int len), .val (.ref b18), .val (.int (v2 &&& (255 : Int32))), .unset, .unset] [(.int (([(v0.toInt8.toInt32), (v1.toInt8.toInt32), (v2.toInt8.toInt32), (v3.toInt8.toInt32)].getD off.toNatClampNeg 0) &&& (255 : Int32)))])
        refine G_istore X28 hx (pc' := 124) rfl (hb hby at_122) (L' := #[.val (.int v0), .val (.int v1), .val (.int v2), .val (.int v3), .val (.int v4), .val (.int v5), .val (.ref b13), .val (.int off), .val (.int len), .val (.ref b18), .val (.int (v2 &&& (255 : Int32))), .val (.int (([(v0.toInt8.toInt32), (v1.toInt8.toInt32), (v2.toInt8.toInt32), (v3.toInt8.toInt32)].getD off.toNatClampNeg 0) &&& (255 : Int32))), .unset]) rfl ?_
        refine G_aload X28 hx (pc' := 126) rfl (hb hby at_124) rfl rfl ?_
        obtain ⟨cq29, kq29, q29a, q29b, q29c⟩ := isOf hZ e28 p19_0
        obtain ⟨_, _, ⟨T29, L29, k29, n29⟩, -, X29, ⟨Lc29, hQ29, l29, y29, z29⟩, st29⟩ := X28.virtualBack hx (y := (⟨"managerie/snmp/Ber$Reader", "peekTag", "()I"⟩ : MethodName)) (z := (⟨"managerie/snmp/Ber$Reader", "peekTag", "()I"⟩ : MethodName)) hown (mvT hZ (hw _ (List.mem_of_getElem? (i := 25) rfl))) (mvT hZ (hw _ (List.mem_of_getElem? (i := 26) rfl))) (notFace_of_selects (args := #[]) (mvT hZ (hw _ (List.mem_of_getElem? (i := 28) rfl)))) (mvT hZ (hw _ (List.mem_of_getElem? (i := 28) rfl))) (mvT hZ (hw _ (List.mem_of_getElem? (i := 27) rfl))) (by decide) (backOf (W := 0) (rm_peekTag l Z a0 hw [] b18 off (off + len) b13 [(v0.toInt8.toInt32), (v1.toInt8.toInt32), (v2.toInt8.toInt32), (v3.toInt8.toInt32)] T19.heap n0 Z_19 p19_0 p19_2 p19_3 p19_1 A_b13_19 (own_hm hoA hlA hlB) (own_i1 hoA) (own_i2 hoA hoB)) hZ (hw _ (List.mem_of_getElem? (i := 29) rfl)) (hw _ (List.mem_of_getElem? (i := 4) rfl)) (by decide) (by decide)) q29a q29c (g := (mkF m 126 #[.val (.int v0), .val (.int v1), .val (.int v2), .val (.int v3), .val (.int v4), .val (.int v5), .val (.ref b13), .val (.int off), .val (.int len), .val (.ref b18), .val (.int (v2 &&& (255 : Int32))), .val (.int (([(v0.toInt8.toInt32), (v1.toInt8.toInt32), (v2.toInt8.toInt32), (v3.toInt8.toInt32)].getD off.toNatClampNeg 0) &&& (255 : Int32))), .unset] [(.ref b18)])) rfl (by rw [hml]; rfl) (Steps.refl _) (argsL := []) (rest := []) (lenOf pd_4 rfl) rfl (by show 2 * 0 + _ ≤ _; exact Nat.le_of_eq rfl) (hb hby at_126) (fun _ _ => ⟨rfl, e28, (by decide : 2 + 0 ≤ _), (by decide : 7 + 0 ≤ _)⟩)
        dsimp only [Pt.U, Pt.locs, Pt.cells, Pt.slots] at X29 l29 y29 z29 st29 hQ29
        subst l29 y29 z29
        obtain ⟨rfl, N29q, e29⟩ := hQ29
        have N29 := Fr.app N28 N29q
        refine Go.st (fun _ k => st29.trans k) ?_
        show Go p e below s _ _ _ T29 (mkF m 129 #[.val (.int v0), .val (.int v1), .val (.int v2), .val (.int v3), .val (.int v4), .val (.int v5), .val (.ref b13), .val (.int off), .val (.int len), .val (.ref b18), .val (.int (v2 &&& (255 : Int32))), .val (.int (([(v0.toInt8.toInt32), (v1.toInt8.toInt32), (v2.toInt8.toInt32), (v3.toInt8.toInt32)].getD off.toNatClampNeg 0) &&& (255 : Int32))), .unset] [(.int (([(v0.toInt8.toInt32), (v1.toInt8.toInt32), (v2.toInt8.toInt32), (v3.toInt8.toInt32)].getD off.toNatClampNeg 0) &&& (255 : Int32)))])
        refine G_istore X29 hx (pc' := 131) rfl (hb hby at_129) (L' := #[.val (.int v0), .val (.int v1), .val (.int v2), .val (.int v3), .val (.int v4), .val (.int v5), .val (.ref b13), .val (.int off), .val (.int len), .val (.ref b18), .val (.int (v2 &&& (255 : Int32))), .val (.int (([(v0.toInt8.toInt32), (v1.toInt8.toInt32), (v2.toInt8.toInt32), (v3.toInt8.toInt32)].getD off.toNatClampNeg 0) &&& (255 : Int32))), .val (.int (([(v0.toInt8.toInt32), (v1.toInt8.toInt32), (v2.toInt8.toInt32), (v3.toInt8.toInt32)].getD off.toNatClampNeg 0) &&& (255 : Int32)))]) rfl ?_
        refine G_iload X29 hx (pc' := 133) rfl (hb hby at_131) rfl ?_
        refine G_iload X29 hx (pc' := 135) rfl (hb hby at_133) rfl ?_
        refine G_icmpNo X29 hx (pc' := 138) rfl (hb hby at_135) (teq ((by first | exact own_p0 (by assumption) | exact own_p1 (by assumption) | exact own_p2 (by assumption) | exact own_p3 hoA hoB (by assumption) (by assumption) (by assumption)) : (([(v0.toInt8.toInt32), (v1.toInt8.toInt32), (v2.toInt8.toInt32), (v3.toInt8.toInt32)].getD off.toNatClampNeg 0) &&& (255 : Int32)) = (v2 &&& (255 : Int32)))).2 ?_
        refine G_iload X29 hx (pc' := 140) rfl (hb hby at_138) rfl ?_
        refine G_iload X29 hx (pc' := 142) rfl (hb hby at_140) rfl ?_
        refine G_icmpNo X29 hx (pc' := 145) rfl (hb hby at_142) (teq ((by first | exact own_p0 (by assumption) | exact own_p1 (by assumption) | exact own_p2 (by assumption) | exact own_p3 hoA hoB (by assumption) (by assumption) (by assumption)) : (([(v0.toInt8.toInt32), (v1.toInt8.toInt32), (v2.toInt8.toInt32), (v3.toInt8.toInt32)].getD off.toNatClampNeg 0) &&& (255 : Int32)) = (v2 &&& (255 : Int32)))).2 ?_
        refine G_aload X29 hx (pc' := 147) rfl (hb hby at_145) rfl rfl ?_
        obtain ⟨cq30, kq30, q30a, q30b, q30c⟩ := isOf hZ e29 p19_0
        obtain ⟨_, _, ⟨T30, L30, k30, n30⟩, -, X30, ⟨Lc30, hQ30, l30, y30, z30⟩, st30⟩ := X29.virtualBack hx (y := (⟨"managerie/snmp/Ber$Reader", "position", "()I"⟩ : MethodName)) (z := (⟨"managerie/snmp/Ber$Reader", "position", "()I"⟩ : MethodName)) hown (mvT hZ (hw _ (List.mem_of_getElem? (i := 35) rfl))) (mvT hZ (hw _ (List.mem_of_getElem? (i := 36) rfl))) (notFace_of_selects (args := #[]) (mvT hZ (hw _ (List.mem_of_getElem? (i := 38) rfl)))) (mvT hZ (hw _ (List.mem_of_getElem? (i := 38) rfl))) (mvT hZ (hw _ (List.mem_of_getElem? (i := 37) rfl))) (by decide) (backOf (W := 0) (rm_position l Z a0 hw [] b18 off T19.heap n0 Z_19 p19_2) hZ (hw _ (List.mem_of_getElem? (i := 39) rfl)) (hw _ (List.mem_of_getElem? (i := 4) rfl)) (by decide) (by decide)) q30a q30c (g := (mkF m 147 #[.val (.int v0), .val (.int v1), .val (.int v2), .val (.int v3), .val (.int v4), .val (.int v5), .val (.ref b13), .val (.int off), .val (.int len), .val (.ref b18), .val (.int (v2 &&& (255 : Int32))), .val (.int (([(v0.toInt8.toInt32), (v1.toInt8.toInt32), (v2.toInt8.toInt32), (v3.toInt8.toInt32)].getD off.toNatClampNeg 0) &&& (255 : Int32))), .val (.int (([(v0.toInt8.toInt32), (v1.toInt8.toInt32), (v2.toInt8.toInt32), (v3.toInt8.toInt32)].getD off.toNatClampNeg 0) &&& (255 : Int32)))] [(.ref b18)])) rfl (by rw [hml]; rfl) (Steps.refl _) (argsL := []) (rest := []) (lenOf pd_4 rfl) rfl (by show 2 * 0 + _ ≤ _; exact Nat.le_of_eq rfl) (hb hby at_147) (fun _ _ => ⟨rfl, e29, (by decide : 2 + 0 ≤ _), (by decide : 7 + 0 ≤ _)⟩)
        dsimp only [Pt.U, Pt.locs, Pt.cells, Pt.slots] at X30 l30 y30 z30 st30 hQ30
        subst l30 y30 z30
        obtain ⟨rfl, N30q, e30⟩ := hQ30
        have N30 := Fr.app N29 N30q
        refine Go.st (fun _ k => st30.trans k) ?_
        show Go p e below s _ _ _ T30 (mkF m 150 #[.val (.int v0), .val (.int v1), .val (.int v2), .val (.int v3), .val (.int v4), .val (.int v5), .val (.ref b13), .val (.int off), .val (.int len), .val (.ref b18), .val (.int (v2 &&& (255 : Int32))), .val (.int (([(v0.toInt8.toInt32), (v1.toInt8.toInt32), (v2.toInt8.toInt32), (v3.toInt8.toInt32)].getD off.toNatClampNeg 0) &&& (255 : Int32))), .val (.int (([(v0.toInt8.toInt32), (v1.toInt8.toInt32), (v2.toInt8.toInt32), (v3.toInt8.toInt32)].getD off.toNatClampNeg 0) &&& (255 : Int32)))] [(.int off)])
        refine G_iload X30 hx (pc' := 152) rfl (hb hby at_150) rfl ?_
        refine G_icmpNo X30 hx (pc' := 155) rfl (hb hby at_152) (teq (rfl : off = off)).2 ?_
        refine G_aload X30 hx (pc' := 157) rfl (hb hby at_155) rfl rfl ?_
        obtain ⟨cq31, kq31, q31a, q31b, q31c⟩ := isOf hZ e30 p19_0
        obtain ⟨_, _, ⟨T31, L31, k31, n31⟩, -, X31, ⟨Lc31, hQ31, l31, y31, z31⟩, st31⟩ := X30.virtualBack hx (y := (⟨"managerie/snmp/Ber$Reader", "hasMore", "()Z"⟩ : MethodName)) (z := (⟨"managerie/snmp/Ber$Reader", "hasMore", "()Z"⟩ : MethodName)) hown (mvT hZ (hw _ (List.mem_of_getElem? (i := 40) rfl))) (mvT hZ (hw _ (List.mem_of_getElem? (i := 31) rfl))) (notFace_of_selects (args := #[]) (mvT hZ (hw _ (List.mem_of_getElem? (i := 33) rfl)))) (mvT hZ (hw _ (List.mem_of_getElem? (i := 33) rfl))) (mvT hZ (hw _ (List.mem_of_getElem? (i := 32) rfl))) (by decide) (backOf (W := 0) (rm_hasMore l Z a0 hw [] b18 off (off + len) T19.heap n0 Z_19 p19_0 p19_2 p19_3) hZ (hw _ (List.mem_of_getElem? (i := 34) rfl)) (hw _ (List.mem_of_getElem? (i := 4) rfl)) (by decide) (by decide)) q31a q31c (g := (mkF m 157 #[.val (.int v0), .val (.int v1), .val (.int v2), .val (.int v3), .val (.int v4), .val (.int v5), .val (.ref b13), .val (.int off), .val (.int len), .val (.ref b18), .val (.int (v2 &&& (255 : Int32))), .val (.int (([(v0.toInt8.toInt32), (v1.toInt8.toInt32), (v2.toInt8.toInt32), (v3.toInt8.toInt32)].getD off.toNatClampNeg 0) &&& (255 : Int32))), .val (.int (([(v0.toInt8.toInt32), (v1.toInt8.toInt32), (v2.toInt8.toInt32), (v3.toInt8.toInt32)].getD off.toNatClampNeg 0) &&& (255 : Int32)))] [(.ref b18)])) rfl (by rw [hml]; rfl) (Steps.refl _) (argsL := []) (rest := []) (lenOf pd_2 rfl) rfl (by show 2 * 0 + _ ≤ _; exact Nat.le_of_eq rfl) (hb hby at_157) (fun _ _ => ⟨rfl, e30, (by decide : 2 + 0 ≤ _), (by decide : 7 + 0 ≤ _)⟩)
        dsimp only [Pt.U, Pt.locs, Pt.cells, Pt.slots] at X31 l31 y31 z31 st31 hQ31
        subst l31 y31 z31
        obtain ⟨rfl, N31q, e31⟩ := hQ31
        have N31 := Fr.app N30 N31q
        refine Go.st (fun _ k => st31.trans k) ?_
        show Go p e below s _ _ _ T31 (mkF m 160 #[.val (.int v0), .val (.int v1), .val (.int v2), .val (.int v3), .val (.int v4), .val (.int v5), .val (.ref b13), .val (.int off), .val (.int len), .val (.ref b18), .val (.int (v2 &&& (255 : Int32))), .val (.int (([(v0.toInt8.toInt32), (v1.toInt8.toInt32), (v2.toInt8.toInt32), (v3.toInt8.toInt32)].getD off.toNatClampNeg 0) &&& (255 : Int32))), .val (.int (([(v0.toInt8.toInt32), (v1.toInt8.toInt32), (v2.toInt8.toInt32), (v3.toInt8.toInt32)].getD off.toNatClampNeg 0) &&& (255 : Int32)))] [(.int (f_hasMore off (off + len)))])
        refine G_ifNo X31 hx (pc' := 163) rfl (hb hby at_160) ((if0 _ _).trans (feq ((own_hm hoA hlA hlB) : ¬ ((f_hasMore off (off + len)) = (0 : Int32)))).1) ?_
        refine G_iconst X31 hx (pc' := 164) rfl (hb hby at_163) (z := (1 : Int32)) rfl ?_
        refine G_goto X31 hx (pc' := 168) (hb hby at_164)  (by decide) (by decide) ?_
        refine Go.fin X31 hlk (v := some (.int (1 : Int32))) (fun h => by rw [Bd.returns] at h; cases h) (by decide) (by decide) ?_ (fun fs hr => retN X31 hx (t := .boolean) Bd.returns (by simp) (hb hby at_168) hr)
        show Q_law Z v0 v1 v2 v3 v4 v5 h0 n0 _ T31.heap _
        rw [e31]
        exact ⟨congrArg (fun z => some (Value.int z)) (by rw [f_law]; (try rw [h_off]); (try rw [h_len]); rw [if_neg hc65_1, if_neg hc81_2, if_pos hc97_3]), N31⟩
      · refine G_icmpYes X19 hx (pc' := 110) (hb hby at_97) (feq hc97_3).2 (by decide) (by decide) ?_
        refine G_iloadN X19 hx (pc' := 111) rfl (hb hby at_110) rfl ?_
        refine G_sipush X19 hx (pc' := 114) rfl (hb hby at_111) (z := (255 : Int32)) rfl ?_
        refine G_iand X19 hx (pc' := 115) rfl (hb hby at_114)  ?_
        refine G_istore X19 hx (pc' := 117) rfl (hb hby at_115) (L' := #[.val (.int v0), .val (.int v1), .val (.int v2), .val (.int v3), .val (.int v4), .val (.int v5), .val (.ref b13), .val (.int off), .val (.int len), .val (.ref b18), .val (.int (v3 &&& (255 : Int32))), .unset, .unset]) rfl ?_
        refine G_aload X19 hx (pc' := 119) rfl (hb hby at_117) rfl rfl ?_
        obtain ⟨cq32, kq32, q32a, q32b, q32c⟩ := isOf hZ rfl p19_0
        obtain ⟨_, _, ⟨T32, L32, k32, n32⟩, -, X32, ⟨Lc32, hQ32, l32, y32, z32⟩, st32⟩ := X19.virtualBack hx (y := (⟨"managerie/snmp/Ber$Reader", "peekTag", "()I"⟩ : MethodName)) (z := (⟨"managerie/snmp/Ber$Reader", "peekTag", "()I"⟩ : MethodName)) hown (mvT hZ (hw _ (List.mem_of_getElem? (i := 25) rfl))) (mvT hZ (hw _ (List.mem_of_getElem? (i := 26) rfl))) (notFace_of_selects (args := #[]) (mvT hZ (hw _ (List.mem_of_getElem? (i := 28) rfl)))) (mvT hZ (hw _ (List.mem_of_getElem? (i := 28) rfl))) (mvT hZ (hw _ (List.mem_of_getElem? (i := 27) rfl))) (by decide) (backOf (W := 0) (rm_peekTag l Z a0 hw [] b18 off (off + len) b13 [(v0.toInt8.toInt32), (v1.toInt8.toInt32), (v2.toInt8.toInt32), (v3.toInt8.toInt32)] T19.heap n0 Z_19 p19_0 p19_2 p19_3 p19_1 A_b13_19 (own_hm hoA hlA hlB) (own_i1 hoA) (own_i2 hoA hoB)) hZ (hw _ (List.mem_of_getElem? (i := 29) rfl)) (hw _ (List.mem_of_getElem? (i := 4) rfl)) (by decide) (by decide)) q32a q32c (g := (mkF m 119 #[.val (.int v0), .val (.int v1), .val (.int v2), .val (.int v3), .val (.int v4), .val (.int v5), .val (.ref b13), .val (.int off), .val (.int len), .val (.ref b18), .val (.int (v3 &&& (255 : Int32))), .unset, .unset] [(.ref b18)])) rfl (by rw [hml]; rfl) (Steps.refl _) (argsL := []) (rest := []) (lenOf pd_4 rfl) rfl (by show 2 * 0 + _ ≤ _; exact Nat.le_of_eq rfl) (hb hby at_119) (fun _ _ => ⟨rfl, rfl, (by decide : 2 + 0 ≤ _), (by decide : 7 + 0 ≤ _)⟩)
        dsimp only [Pt.U, Pt.locs, Pt.cells, Pt.slots] at X32 l32 y32 z32 st32 hQ32
        subst l32 y32 z32
        obtain ⟨rfl, N32q, e32⟩ := hQ32
        have N32 := Fr.app N19 N32q
        refine Go.st (fun _ k => st32.trans k) ?_
        show Go p e below s _ _ _ T32 (mkF m 122 #[.val (.int v0), .val (.int v1), .val (.int v2), .val (.int v3), .val (.int v4), .val (.int v5), .val (.ref b13), .val (.int off), .val (.int len), .val (.ref b18), .val (.int (v3 &&& (255 : Int32))), .unset, .unset] [(.int (([(v0.toInt8.toInt32), (v1.toInt8.toInt32), (v2.toInt8.toInt32), (v3.toInt8.toInt32)].getD off.toNatClampNeg 0) &&& (255 : Int32)))])
        refine G_istore X32 hx (pc' := 124) rfl (hb hby at_122) (L' := #[.val (.int v0), .val (.int v1), .val (.int v2), .val (.int v3), .val (.int v4), .val (.int v5), .val (.ref b13), .val (.int off), .val (.int len), .val (.ref b18), .val (.int (v3 &&& (255 : Int32))), .val (.int (([(v0.toInt8.toInt32), (v1.toInt8.toInt32), (v2.toInt8.toInt32), (v3.toInt8.toInt32)].getD off.toNatClampNeg 0) &&& (255 : Int32))), .unset]) rfl ?_
        refine G_aload X32 hx (pc' := 126) rfl (hb hby at_124) rfl rfl ?_
        obtain ⟨cq33, kq33, q33a, q33b, q33c⟩ := isOf hZ e32 p19_0
        obtain ⟨_, _, ⟨T33, L33, k33, n33⟩, -, X33, ⟨Lc33, hQ33, l33, y33, z33⟩, st33⟩ := X32.virtualBack hx (y := (⟨"managerie/snmp/Ber$Reader", "peekTag", "()I"⟩ : MethodName)) (z := (⟨"managerie/snmp/Ber$Reader", "peekTag", "()I"⟩ : MethodName)) hown (mvT hZ (hw _ (List.mem_of_getElem? (i := 25) rfl))) (mvT hZ (hw _ (List.mem_of_getElem? (i := 26) rfl))) (notFace_of_selects (args := #[]) (mvT hZ (hw _ (List.mem_of_getElem? (i := 28) rfl)))) (mvT hZ (hw _ (List.mem_of_getElem? (i := 28) rfl))) (mvT hZ (hw _ (List.mem_of_getElem? (i := 27) rfl))) (by decide) (backOf (W := 0) (rm_peekTag l Z a0 hw [] b18 off (off + len) b13 [(v0.toInt8.toInt32), (v1.toInt8.toInt32), (v2.toInt8.toInt32), (v3.toInt8.toInt32)] T19.heap n0 Z_19 p19_0 p19_2 p19_3 p19_1 A_b13_19 (own_hm hoA hlA hlB) (own_i1 hoA) (own_i2 hoA hoB)) hZ (hw _ (List.mem_of_getElem? (i := 29) rfl)) (hw _ (List.mem_of_getElem? (i := 4) rfl)) (by decide) (by decide)) q33a q33c (g := (mkF m 126 #[.val (.int v0), .val (.int v1), .val (.int v2), .val (.int v3), .val (.int v4), .val (.int v5), .val (.ref b13), .val (.int off), .val (.int len), .val (.ref b18), .val (.int (v3 &&& (255 : Int32))), .val (.int (([(v0.toInt8.toInt32), (v1.toInt8.toInt32), (v2.toInt8.toInt32), (v3.toInt8.toInt32)].getD off.toNatClampNeg 0) &&& (255 : Int32))), .unset] [(.ref b18)])) rfl (by rw [hml]; rfl) (Steps.refl _) (argsL := []) (rest := []) (lenOf pd_4 rfl) rfl (by show 2 * 0 + _ ≤ _; exact Nat.le_of_eq rfl) (hb hby at_126) (fun _ _ => ⟨rfl, e32, (by decide : 2 + 0 ≤ _), (by decide : 7 + 0 ≤ _)⟩)
        dsimp only [Pt.U, Pt.locs, Pt.cells, Pt.slots] at X33 l33 y33 z33 st33 hQ33
        subst l33 y33 z33
        obtain ⟨rfl, N33q, e33⟩ := hQ33
        have N33 := Fr.app N32 N33q
        refine Go.st (fun _ k => st33.trans k) ?_
        show Go p e below s _ _ _ T33 (mkF m 129 #[.val (.int v0), .val (.int v1), .val (.int v2), .val (.int v3), .val (.int v4), .val (.int v5), .val (.ref b13), .val (.int off), .val (.int len), .val (.ref b18), .val (.int (v3 &&& (255 : Int32))), .val (.int (([(v0.toInt8.toInt32), (v1.toInt8.toInt32), (v2.toInt8.toInt32), (v3.toInt8.toInt32)].getD off.toNatClampNeg 0) &&& (255 : Int32))), .unset] [(.int (([(v0.toInt8.toInt32), (v1.toInt8.toInt32), (v2.toInt8.toInt32), (v3.toInt8.toInt32)].getD off.toNatClampNeg 0) &&& (255 : Int32)))])
        refine G_istore X33 hx (pc' := 131) rfl (hb hby at_129) (L' := #[.val (.int v0), .val (.int v1), .val (.int v2), .val (.int v3), .val (.int v4), .val (.int v5), .val (.ref b13), .val (.int off), .val (.int len), .val (.ref b18), .val (.int (v3 &&& (255 : Int32))), .val (.int (([(v0.toInt8.toInt32), (v1.toInt8.toInt32), (v2.toInt8.toInt32), (v3.toInt8.toInt32)].getD off.toNatClampNeg 0) &&& (255 : Int32))), .val (.int (([(v0.toInt8.toInt32), (v1.toInt8.toInt32), (v2.toInt8.toInt32), (v3.toInt8.toInt32)].getD off.toNatClampNeg 0) &&& (255 : Int32)))]) rfl ?_
        refine G_iload X33 hx (pc' := 133) rfl (hb hby at_131) rfl ?_
        refine G_iload X33 hx (pc' := 135) rfl (hb hby at_133) rfl ?_
        refine G_icmpNo X33 hx (pc' := 138) rfl (hb hby at_135) (teq ((by first | exact own_p0 (by assumption) | exact own_p1 (by assumption) | exact own_p2 (by assumption) | exact own_p3 hoA hoB (by assumption) (by assumption) (by assumption)) : (([(v0.toInt8.toInt32), (v1.toInt8.toInt32), (v2.toInt8.toInt32), (v3.toInt8.toInt32)].getD off.toNatClampNeg 0) &&& (255 : Int32)) = (v3 &&& (255 : Int32)))).2 ?_
        refine G_iload X33 hx (pc' := 140) rfl (hb hby at_138) rfl ?_
        refine G_iload X33 hx (pc' := 142) rfl (hb hby at_140) rfl ?_
        refine G_icmpNo X33 hx (pc' := 145) rfl (hb hby at_142) (teq ((by first | exact own_p0 (by assumption) | exact own_p1 (by assumption) | exact own_p2 (by assumption) | exact own_p3 hoA hoB (by assumption) (by assumption) (by assumption)) : (([(v0.toInt8.toInt32), (v1.toInt8.toInt32), (v2.toInt8.toInt32), (v3.toInt8.toInt32)].getD off.toNatClampNeg 0) &&& (255 : Int32)) = (v3 &&& (255 : Int32)))).2 ?_
        refine G_aload X33 hx (pc' := 147) rfl (hb hby at_145) rfl rfl ?_
        obtain ⟨cq34, kq34, q34a, q34b, q34c⟩ := isOf hZ e33 p19_0
        obtain ⟨_, _, ⟨T34, L34, k34, n34⟩, -, X34, ⟨Lc34, hQ34, l34, y34, z34⟩, st34⟩ := X33.virtualBack hx (y := (⟨"managerie/snmp/Ber$Reader", "position", "()I"⟩ : MethodName)) (z := (⟨"managerie/snmp/Ber$Reader", "position", "()I"⟩ : MethodName)) hown (mvT hZ (hw _ (List.mem_of_getElem? (i := 35) rfl))) (mvT hZ (hw _ (List.mem_of_getElem? (i := 36) rfl))) (notFace_of_selects (args := #[]) (mvT hZ (hw _ (List.mem_of_getElem? (i := 38) rfl)))) (mvT hZ (hw _ (List.mem_of_getElem? (i := 38) rfl))) (mvT hZ (hw _ (List.mem_of_getElem? (i := 37) rfl))) (by decide) (backOf (W := 0) (rm_position l Z a0 hw [] b18 off T19.heap n0 Z_19 p19_2) hZ (hw _ (List.mem_of_getElem? (i := 39) rfl)) (hw _ (List.mem_of_getElem? (i := 4) rfl)) (by decide) (by decide)) q34a q34c (g := (mkF m 147 #[.val (.int v0), .val (.int v1), .val (.int v2), .val (.int v3), .val (.int v4), .val (.int v5), .val (.ref b13), .val (.int off), .val (.int len), .val (.ref b18), .val (.int (v3 &&& (255 : Int32))), .val (.int (([(v0.toInt8.toInt32), (v1.toInt8.toInt32), (v2.toInt8.toInt32), (v3.toInt8.toInt32)].getD off.toNatClampNeg 0) &&& (255 : Int32))), .val (.int (([(v0.toInt8.toInt32), (v1.toInt8.toInt32), (v2.toInt8.toInt32), (v3.toInt8.toInt32)].getD off.toNatClampNeg 0) &&& (255 : Int32)))] [(.ref b18)])) rfl (by rw [hml]; rfl) (Steps.refl _) (argsL := []) (rest := []) (lenOf pd_4 rfl) rfl (by show 2 * 0 + _ ≤ _; exact Nat.le_of_eq rfl) (hb hby at_147) (fun _ _ => ⟨rfl, e33, (by decide : 2 + 0 ≤ _), (by decide : 7 + 0 ≤ _)⟩)
        dsimp only [Pt.U, Pt.locs, Pt.cells, Pt.slots] at X34 l34 y34 z34 st34 hQ34
        subst l34 y34 z34
        obtain ⟨rfl, N34q, e34⟩ := hQ34
        have N34 := Fr.app N33 N34q
        refine Go.st (fun _ k => st34.trans k) ?_
        show Go p e below s _ _ _ T34 (mkF m 150 #[.val (.int v0), .val (.int v1), .val (.int v2), .val (.int v3), .val (.int v4), .val (.int v5), .val (.ref b13), .val (.int off), .val (.int len), .val (.ref b18), .val (.int (v3 &&& (255 : Int32))), .val (.int (([(v0.toInt8.toInt32), (v1.toInt8.toInt32), (v2.toInt8.toInt32), (v3.toInt8.toInt32)].getD off.toNatClampNeg 0) &&& (255 : Int32))), .val (.int (([(v0.toInt8.toInt32), (v1.toInt8.toInt32), (v2.toInt8.toInt32), (v3.toInt8.toInt32)].getD off.toNatClampNeg 0) &&& (255 : Int32)))] [(.int off)])
        refine G_iload X34 hx (pc' := 152) rfl (hb hby at_150) rfl ?_
        refine G_icmpNo X34 hx (pc' := 155) rfl (hb hby at_152) (teq (rfl : off = off)).2 ?_
        refine G_aload X34 hx (pc' := 157) rfl (hb hby at_155) rfl rfl ?_
        obtain ⟨cq35, kq35, q35a, q35b, q35c⟩ := isOf hZ e34 p19_0
        obtain ⟨_, _, ⟨T35, L35, k35, n35⟩, -, X35, ⟨Lc35, hQ35, l35, y35, z35⟩, st35⟩ := X34.virtualBack hx (y := (⟨"managerie/snmp/Ber$Reader", "hasMore", "()Z"⟩ : MethodName)) (z := (⟨"managerie/snmp/Ber$Reader", "hasMore", "()Z"⟩ : MethodName)) hown (mvT hZ (hw _ (List.mem_of_getElem? (i := 40) rfl))) (mvT hZ (hw _ (List.mem_of_getElem? (i := 31) rfl))) (notFace_of_selects (args := #[]) (mvT hZ (hw _ (List.mem_of_getElem? (i := 33) rfl)))) (mvT hZ (hw _ (List.mem_of_getElem? (i := 33) rfl))) (mvT hZ (hw _ (List.mem_of_getElem? (i := 32) rfl))) (by decide) (backOf (W := 0) (rm_hasMore l Z a0 hw [] b18 off (off + len) T19.heap n0 Z_19 p19_0 p19_2 p19_3) hZ (hw _ (List.mem_of_getElem? (i := 34) rfl)) (hw _ (List.mem_of_getElem? (i := 4) rfl)) (by decide) (by decide)) q35a q35c (g := (mkF m 157 #[.val (.int v0), .val (.int v1), .val (.int v2), .val (.int v3), .val (.int v4), .val (.int v5), .val (.ref b13), .val (.int off), .val (.int len), .val (.ref b18), .val (.int (v3 &&& (255 : Int32))), .val (.int (([(v0.toInt8.toInt32), (v1.toInt8.toInt32), (v2.toInt8.toInt32), (v3.toInt8.toInt32)].getD off.toNatClampNeg 0) &&& (255 : Int32))), .val (.int (([(v0.toInt8.toInt32), (v1.toInt8.toInt32), (v2.toInt8.toInt32), (v3.toInt8.toInt32)].getD off.toNatClampNeg 0) &&& (255 : Int32)))] [(.ref b18)])) rfl (by rw [hml]; rfl) (Steps.refl _) (argsL := []) (rest := []) (lenOf pd_2 rfl) rfl (by show 2 * 0 + _ ≤ _; exact Nat.le_of_eq rfl) (hb hby at_157) (fun _ _ => ⟨rfl, e34, (by decide : 2 + 0 ≤ _), (by decide : 7 + 0 ≤ _)⟩)
        dsimp only [Pt.U, Pt.locs, Pt.cells, Pt.slots] at X35 l35 y35 z35 st35 hQ35
        subst l35 y35 z35
        obtain ⟨rfl, N35q, e35⟩ := hQ35
        have N35 := Fr.app N34 N35q
        refine Go.st (fun _ k => st35.trans k) ?_
        show Go p e below s _ _ _ T35 (mkF m 160 #[.val (.int v0), .val (.int v1), .val (.int v2), .val (.int v3), .val (.int v4), .val (.int v5), .val (.ref b13), .val (.int off), .val (.int len), .val (.ref b18), .val (.int (v3 &&& (255 : Int32))), .val (.int (([(v0.toInt8.toInt32), (v1.toInt8.toInt32), (v2.toInt8.toInt32), (v3.toInt8.toInt32)].getD off.toNatClampNeg 0) &&& (255 : Int32))), .val (.int (([(v0.toInt8.toInt32), (v1.toInt8.toInt32), (v2.toInt8.toInt32), (v3.toInt8.toInt32)].getD off.toNatClampNeg 0) &&& (255 : Int32)))] [(.int (f_hasMore off (off + len)))])
        refine G_ifNo X35 hx (pc' := 163) rfl (hb hby at_160) ((if0 _ _).trans (feq ((own_hm hoA hlA hlB) : ¬ ((f_hasMore off (off + len)) = (0 : Int32)))).1) ?_
        refine G_iconst X35 hx (pc' := 164) rfl (hb hby at_163) (z := (1 : Int32)) rfl ?_
        refine G_goto X35 hx (pc' := 168) (hb hby at_164)  (by decide) (by decide) ?_
        refine Go.fin X35 hlk (v := some (.int (1 : Int32))) (fun h => by rw [Bd.returns] at h; cases h) (by decide) (by decide) ?_ (fun fs hr => retN X35 hx (t := .boolean) Bd.returns (by simp) (hb hby at_168) hr)
        show Q_law Z v0 v1 v2 v3 v4 v5 h0 n0 _ T35.heap _
        rw [e35]
        exact ⟨congrArg (fun z => some (Value.int z)) (by rw [f_law]; (try rw [h_off]); (try rw [h_len]); rw [if_neg hc65_1, if_neg hc81_2, if_neg hc97_3]), N35⟩
theorem own_law (a b c d o l : Int32) : f_law a b c d o l = 1 := by
  unfold f_law
  repeat' split
  all_goals rfl
set_option maxRecDepth 65536 in
set_option maxHeartbeats 40000000 in
theorem comes_1 {Post : Tables → Env → Array Value → State → Outcome → State → Prop} (hpost : ∀ tb e args s v u, (limb_1_1.after args s (.returned v) u = true ∧ limb_1_2.after args s (.returned v) u = true ∧ True) → FrameEnd s (.returned v) u (Jvm.fieldLocs frame_1_writes args s ++ Jvm.arrayLocs frame_1_arrays args s ++ Jvm.staticLocs frame_1_statics s) 16 128 → Post tb e args s (.returned v) u) :
    ArmFor flags0 classFile x code maxLocals ret World_1 tables_1 room_1 Calls_1 rest_1 Pre_1 Post := by
  intro l hfl _ _ p e ha hc hk s m args below hf hA hF happ hP
  obtain ⟨hcalls, hrest, hpre⟩ := hP
  obtain ⟨-, -, -, hnamed, -, -, -, hat⟩ := (Spec.applies_iff hf).mp happ
  obtain ⟨hg, hn⟩ := and_e (Cond.before_iff.mp (show (Jvm.Cond.and given_1 narrow_1).before args s = true from hpre))
  obtain ⟨hcnt, hg0⟩ := and_e hg
  obtain ⟨ha0, hg1⟩ := and_e hg0
  obtain ⟨ha1, hg2⟩ := and_e hg1
  obtain ⟨ha2, hg3⟩ := and_e hg2
  obtain ⟨ha3, hg4⟩ := and_e hg3
  obtain ⟨ha4, hg5⟩ := and_e hg4
  have ha5 := hg5
  obtain ⟨w0, w1, w2, w3, w4, w5, rfl⟩ : ∃ w0 w1 w2 w3 w4 w5 : Value, args = #[w0, w1, w2, w3, w4, w5] := by
    have hs : args.size = 6 := by simpa [Cond.value, given_1] using hcnt
    obtain ⟨L⟩ := args
    match L, hs with
    | [w0, w1, w2, w3, w4, w5], _ => exact ⟨w0, w1, w2, w3, w4, w5, rfl⟩
  have hw := fun d (hd : d ∈ tables_1) => atoms_spec (ws := Jvm.Cond.code x code maxLocals ret :: tables_1) hat d (List.mem_cons_of_mem _ hd)
  have hfit : Fit s := fun {y c} hc i hi => by
    obtain ⟨ha, rfl⟩ := Array.getElem?_eq_some_iff.mp hc
    have q := List.all_eq_true.mp ((Array.all_eq_true_iff_forall_mem.mp hF) _ (Array.getElem_mem ha)) i (List.mem_range.mpr hi)
    simpa [Array.getElem?_eq_getElem hi] using q
  obtain ⟨i0, ei0⟩ := is_v ha0
  obtain rfl : w0 = (.int i0) := Option.some.inj ei0
  obtain ⟨i1, ei1⟩ := is_v ha1
  obtain rfl : w1 = (.int i1) := Option.some.inj ei1
  obtain ⟨i2, ei2⟩ := is_v ha2
  obtain rfl : w2 = (.int i2) := Option.some.inj ei2
  obtain ⟨i3, ei3⟩ := is_v ha3
  obtain rfl : w3 = (.int i3) := Option.some.inj ei3
  obtain ⟨i4, ei4⟩ := is_v ha4
  obtain rfl : w4 = (.int i4) := Option.some.inj ei4
  obtain ⟨i5, ei5⟩ := is_v ha5
  obtain rfl : w5 = (.int i5) := Option.some.inj ei5
  obtain ⟨n, o, h1, h2, h3, v, L, rfl, ⟨hv, N⟩, hq⟩ := rm_law l s _ hw tables_1 i0 i1 i2 i3 i4 i5  s.heap s.heap.size (Nat.le_refl _)  p e ha hc hk s m _ below hf ((Spec.applies_iff_loose hf).mp happ).1 ⟨rfl, State.Warmed39.refl s, rfl⟩ trivial
  rw [own_law i0 i1 i2 i3 i4 i5] at hv
  subst hv
  refine ⟨n, _, h1, h2, h3, hpost _ _ _ _ _ _ ⟨Cond.after_iff.mpr rfl, Cond.after_iff.mpr (eq_i res_at (Term.int_eval (1)) rfl), trivial⟩ ⟨hq.1, hq.2.1, (hq.2.2.sift fun y hy => Or.inr (N y hy)).mono (by decide) (by decide)⟩⟩
theorem main_1_1 : Claimed_1_1 := comes_1 fun _ _ _ _ _ _ h hF => ⟨h.1, hF⟩
theorem main_1_2 : Claimed_1_2 := comes_1 fun _ _ _ _ _ _ h hF => ⟨h.2.1, hF⟩
end Jvm.Pilot.@@N@@
namespace Jvm.Pilot.@@N@@
open Jvm Jvm.ClassFile Sem Op Lib Jvm.Free Jvm.Stand Jvm.Pilot.@@N@@.Jvm.D
/-! MADE BY PROGRAM (witnessworld.py) out of the Statement's table words and the real class files: 11 classes; the members and pool entries that the words name. The judged class is class 1, her method 1. -/
namespace start1
open Jvm.ClassFile
def u (s : String) : CpInfo := .utf8 (stringToUtf16 s)
/-- a pool by its gaps: so many unusable entries, then the entry; so many at the end -/
def gap : Nat → List CpInfo → List CpInfo
  | 0, r => r
  | n + 1, r => .unusable :: gap n r
def poolList (es : List (Nat × CpInfo)) (last : Nat) : List CpInfo := es.foldr (fun e r => gap e.1 (e.2 :: r)) (gap last [])
def pool (es : List (Nat × CpInfo)) (last : Nat) : Array CpInfo := ⟨poolList es last⟩
def fileOf (pool : Array CpInfo) (this : Nat) (attrs : Array Attribute := #[]) (ms : Array MethodInfo := #[]) (fl : Nat := 33) (sup : Nat := 0) (ifs : Array Nat := #[]) (fds : Array FieldInfo := #[]) : ClassFile where
  minorVersion := 0
  majorVersion := 65
  constantPool := pool
  accessFlags := fl
  thisClass := this
  superClass := sup
  interfaces := ifs
  fields := fds
  methods := ms
  attributes := attrs
def plain (name : String) (sup : Option ClassId) : Class where
  name := name
  kind := .ordinary
  loader := none
  accessFlags := 33
  super := sup
  interfaces := #[]
  cf := none
  fields := #[]
  methods := #[]
  instanceTypes := #[]
  staticTypes := #[]
  resolved := #[]
  callSites := []
  init := .initialized
  statics := none
  mirror := none

def pool0 : Array CpInfo := pool [(5, u "<init>"), (0, u "()V"), (1, .class_ 10), (1, u "java/lang/Object")] 113

def k0c0 : Code := { maxStack := 0, maxLocals := 1, code := object_method_1_code, exceptionTable := #[], attributes := #[] }
def k0m0 : Method := { name := "<init>", desc := "()V", sig := { parameters := [], returnType := none }, accessFlags := 1, code := some k0c0 }
/-- java/lang/Object -/
def k0 : Class := { plain "java/lang/Object" none with
  accessFlags := 33
  interfaces := #[]
  cf := some (fileOf pool0 8 #[] #[{ accessFlags := 1, nameIndex := 5, descriptorIndex := 6, attributes := #[] }] 33 0 #[] #[])
  fields := #[]
  methods := #[k0m0]
  instanceTypes := #[]
  staticTypes := #[]
  resolved := Array.replicate 124 none
  statics := none }

def pool1 : Array CpInfo := pool [(2, .class_ 4), (1, u "java/lang/Object"), (0, u "<init>"), (0, u "()V"), (0, .integer 2147483647), (0, .class_ 9), (0, u "managerie/snmp/Ber$Reader"), (0, .methodref 8 11), (0, .nameAndType 5 12), (0, u "([BII)V"), (0, .methodref 8 14), (0, .nameAndType 15 16), (0, u "peekTag"), (0, u "()I"), (0, .methodref 8 18), (0, .nameAndType 19 16), (0, u "position"), (0, .methodref 8 21), (0, .nameAndType 22 23), (0, u "hasMore"), (0, u "()Z"), (0, .class_ 25), (0, u "managerie/snmp/ReaderPeekTagPinLaw"), (2, u "law"), (0, u "(IIIIII)Z")] 12

def k1m0 : Method := { name := "<init>", desc := "()V", sig := { parameters := [], returnType := none }, accessFlags := 2, code := none }
def k1c1 : Code := { maxStack := 5, maxLocals := 13, code := code, exceptionTable := #[], attributes := #[] }
def k1m1 : Method := { name := "law", desc := "(IIIIII)Z", sig := { parameters := [.int, .int, .int, .int, .int, .int], returnType := some .boolean }, accessFlags := 9, code := some k1c1 }
/-- managerie/snmp/ReaderPeekTagPinLaw -/
def k1 : Class := { plain "managerie/snmp/ReaderPeekTagPinLaw" (some 0) with
  accessFlags := 49
  interfaces := #[]
  cf := some (fileOf pool1 24 #[] #[{ accessFlags := 2, nameIndex := 5, descriptorIndex := 6, attributes := #[] }, { accessFlags := 9, nameIndex := 28, descriptorIndex := 29, attributes := #[] }] 49 2 #[] #[])
  fields := #[]
  methods := #[k1m0, k1m1]
  instanceTypes := #[]
  staticTypes := #[]
  resolved := Array.replicate 42 none
  statics := none }

def pool2 : Array CpInfo := pool [(1, .class_ 2), (0, u "managerie/snmp/Ber"), (0, .methodref 4 5), (0, .class_ 6), (0, .nameAndType 7 8), (0, u "java/lang/Object"), (0, u "<init>"), (0, u "()V"), (0, .methodref 10 11), (0, .class_ 12), (0, .nameAndType 13 14), (0, u "java/util/Objects"), (0, u "checkFromIndexSize"), (0, u "(III)I"), (0, .fieldref 16 17), (0, .class_ 18), (0, .nameAndType 19 20), (0, u "managerie/snmp/Ber$Reader"), (0, u "data"), (0, u "[B"), (0, .fieldref 16 22), (0, .nameAndType 23 24), (0, u "position"), (0, u "I"), (0, .fieldref 16 26), (0, .nameAndType 27 24), (0, u "end"), (0, .methodref 16 29), (0, .nameAndType 30 31), (0, u "hasMore"), (0, u "()Z"), (15, u "([BII)V"), (94, u "peekTag"), (0, u "()I")] 94

def k2c0 : Code := { maxStack := 3, maxLocals := 4, code := prog_59_method_1_code, exceptionTable := #[], attributes := #[] }
def k2m0 : Method := { name := "<init>", desc := "([BII)V", sig := { parameters := [(.array .byte), .int, .int], returnType := none }, accessFlags := 0, code := some k2c0 }
def k2c1 : Code := { maxStack := 2, maxLocals := 1, code := prog_59_method_2_code, exceptionTable := #[], attributes := #[] }
def k2m1 : Method := { name := "hasMore", desc := "()Z", sig := { parameters := [], returnType := some .boolean }, accessFlags := 0, code := some k2c1 }
def k2c2 : Code := { maxStack := 1, maxLocals := 1, code := prog_59_method_3_code, exceptionTable := #[], attributes := #[] }
def k2m2 : Method := { name := "position", desc := "()I", sig := { parameters := [], returnType := some .int }, accessFlags := 0, code := some k2c2 }
def k2c3 : Code := { maxStack := 3, maxLocals := 1, code := prog_59_method_4_code, exceptionTable := #[], attributes := #[] }
def k2m3 : Method := { name := "peekTag", desc := "()I", sig := { parameters := [], returnType := some .int }, accessFlags := 0, code := some k2c3 }
/-- managerie/snmp/Ber$Reader -/
def k2 : Class := { plain "managerie/snmp/Ber$Reader" (some 0) with
  accessFlags := 48
  interfaces := #[]
  cf := some (fileOf pool2 16 #[.nestHost 1] #[{ accessFlags := 0, nameIndex := 7, descriptorIndex := 47, attributes := #[] }, { accessFlags := 0, nameIndex := 30, descriptorIndex := 31, attributes := #[] }, { accessFlags := 0, nameIndex := 23, descriptorIndex := 143, attributes := #[] }, { accessFlags := 0, nameIndex := 142, descriptorIndex := 143, attributes := #[] }] 48 4 #[] #[{ accessFlags := 18, nameIndex := 19, descriptorIndex := 20, attributes := #[] }, { accessFlags := 18, nameIndex := 27, descriptorIndex := 24, attributes := #[] }, { accessFlags := 2, nameIndex := 23, descriptorIndex := 24, attributes := #[] }])
  fields := #[{ name := "data", type := (.array .byte), accessFlags := 18, slot := 0, constantValue := 0 }, { name := "end", type := .int, accessFlags := 18, slot := 1, constantValue := 0 }, { name := "position", type := .int, accessFlags := 2, slot := 2, constantValue := 0 }]
  methods := #[k2m0, k2m1, k2m2, k2m3]
  instanceTypes := #[(.array .byte), .int, .int]
  staticTypes := #[]
  resolved := Array.replicate 238 none
  statics := none }

def pool3 : Array CpInfo := pool [(2, .class_ 4), (1, u "java/lang/Object"), (0, u "<init>"), (0, u "()V"), (35, .class_ 44), (1, u "java/util/Objects"), (61, .class_ 108), (1, u "jdk/internal/util/Preconditions"), (5, u "(IIILjava/util/function/BiFunction;)I"), (0, .methodref 106 116), (0, .nameAndType 117 114), (0, u "checkFromIndexSize"), (57, u "(III)I")] 8

def k3m0 : Method := { name := "<init>", desc := "()V", sig := { parameters := [], returnType := none }, accessFlags := 2, code := none }
def k3c1 : Code := { maxStack := 4, maxLocals := 3, code := jdk_31_method_19_code, exceptionTable := #[], attributes := #[] }
def k3m1 : Method := { name := "checkFromIndexSize", desc := "(III)I", sig := { parameters := [.int, .int, .int], returnType := some .int }, accessFlags := 9, code := some k3c1 }
/-- java/util/Objects -/
def k3 : Class := { plain "java/util/Objects" (some 0) with
  accessFlags := 49
  interfaces := #[]
  cf := some (fileOf pool3 42 #[] #[{ accessFlags := 2, nameIndex := 5, descriptorIndex := 6, attributes := #[] }, { accessFlags := 9, nameIndex := 117, descriptorIndex := 175, attributes := #[] }] 49 2 #[] #[])
  fields := #[]
  methods := #[k3m0, k3m1]
  instanceTypes := #[]
  staticTypes := #[]
  resolved := Array.replicate 184 none
  statics := none }

def pool4 : Array CpInfo := pool [(2, .class_ 4), (1, u "java/lang/Object"), (0, u "<init>"), (0, u "()V"), (17, .class_ 26), (1, u "jdk/internal/util/Preconditions"), (22, u "checkFromIndexSize"), (5, .class_ 56), (0, u "jdk/internal/util/Preconditions$4"), (57, .class_ 115), (0, u "jdk/internal/util/Preconditions$1"), (7, u "SIOOBE_FORMATTER"), (0, u "Ljava/util/function/BiFunction;"), (0, .class_ 126), (0, u "jdk/internal/util/Preconditions$2"), (3, u "AIOOBE_FORMATTER"), (0, .class_ 132), (0, u "jdk/internal/util/Preconditions$3"), (3, u "IOOBE_FORMATTER"), (46, u "(IIILjava/util/function/BiFunction;)I")] 10

def k4m0 : Method := { name := "<init>", desc := "()V", sig := { parameters := [], returnType := none }, accessFlags := 1, code := none }
def k4c1 : Code := { maxStack := 4, maxLocals := 4, code := jdk_41_method_13_code, exceptionTable := #[], attributes := #[] }
def k4m1 : Method := { name := "checkFromIndexSize", desc := "(IIILjava/util/function/BiFunction;)I", sig := { parameters := [.int, .int, .int, (.object "java/util/function/BiFunction")], returnType := some .int }, accessFlags := 9, code := some k4c1 }
/-- jdk/internal/util/Preconditions -/
def k4 : Class := { plain "jdk/internal/util/Preconditions" (some 0) with
  accessFlags := 33
  interfaces := #[]
  cf := some (fileOf pool4 24 #[.nestMembers #[55, 131, 125, 114]] #[{ accessFlags := 1, nameIndex := 5, descriptorIndex := 6, attributes := #[] }, { accessFlags := 9, nameIndex := 49, descriptorIndex := 183, attributes := #[] }] 33 2 #[] #[{ accessFlags := 25, nameIndex := 123, descriptorIndex := 124, attributes := #[] }, { accessFlags := 25, nameIndex := 130, descriptorIndex := 124, attributes := #[] }, { accessFlags := 25, nameIndex := 136, descriptorIndex := 124, attributes := #[] }])
  fields := #[{ name := "SIOOBE_FORMATTER", type := (.object "java/util/function/BiFunction"), accessFlags := 25, slot := 0, constantValue := 0 }, { name := "AIOOBE_FORMATTER", type := (.object "java/util/function/BiFunction"), accessFlags := 25, slot := 1, constantValue := 0 }, { name := "IOOBE_FORMATTER", type := (.object "java/util/function/BiFunction"), accessFlags := 25, slot := 2, constantValue := 0 }]
  methods := #[k4m0, k4m1]
  instanceTypes := #[]
  staticTypes := #[(.object "java/util/function/BiFunction"), (.object "java/util/function/BiFunction"), (.object "java/util/function/BiFunction")]
  resolved := Array.replicate 194 none
  statics := none }

def pool5 : Array CpInfo := pool [(1, u "java/lang/Cloneable"), (0, .class_ 1), (0, u "java/lang/Object"), (0, .class_ 3)] 3

/-- java/lang/Cloneable -/
def k5 : Class := { plain "java/lang/Cloneable" (some 0) with
  accessFlags := 1537
  interfaces := #[]
  cf := some (fileOf pool5 2 #[] #[] 1537 4 #[] #[])
  fields := #[]
  methods := #[]
  instanceTypes := #[]
  staticTypes := #[]
  resolved := Array.replicate 8 none
  statics := none }

def pool6 : Array CpInfo := pool [(1, u "java/io/Serializable"), (0, .class_ 1), (0, u "java/lang/Object"), (0, .class_ 3)] 3

/-- java/io/Serializable -/
def k6 : Class := { plain "java/io/Serializable" (some 0) with
  accessFlags := 1537
  interfaces := #[]
  cf := some (fileOf pool6 2 #[] #[] 1537 4 #[] #[])
  fields := #[]
  methods := #[]
  instanceTypes := #[]
  staticTypes := #[]
  resolved := Array.replicate 8 none
  statics := none }

/-- the primitive byte -/
def k7 : Class := { plain "byte" none with kind := .primitive 'B', accessFlags := 0x411 }
/-- [B -/
def k8 : Class := { plain "[B" (some 0) with kind := .array 7 .byte, interfaces := #[5, 6], accessFlags := 1041 }

/-- the primitive int -/
def k9 : Class := { plain "int" none with kind := .primitive 'I', accessFlags := 0x411 }
/-- [I -/
def k10 : Class := { plain "[I" (some 0) with kind := .array 9 .int, interfaces := #[5, 6], accessFlags := 1041 }

def heap : Heap := #[]
def classes : Array Class := #[k0, k1, k2, k3, k4, k5, k6, k7, k8, k9, k10]
def interned : List (Array UInt16 × Addr) := []
def slotsUsed : Nat := 0
def theMethod : MethodId := ⟨1, 1⟩
def args0 : Array Value := #[.int 5, .int 7, .int 3, .int 1, .int 2, .int 1]
def aboutOver (below : List Frame) : State where
  vm := { classes := classes, interned := interned.toArray }
  heap := heap
  slotsUsed := slotsUsed
  threads := #[{ frames := .invoking theMethod args0 :: below }]
def below0 : List Frame := [.native { method := ⟨0, 0⟩, args := #[] }]
def about1 : State := aboutOver below0
def p0 : Program := .bare "" "" ""
def e0 : Env := launch0.env 0 0 0
theorem w_frames : about1.frames = Frame.invoking theMethod args0 :: below0 := rfl
set_option maxRecDepth 65536 in
theorem w_args : argsFit about1.vm theMethod args0 = true := by decide +kernel
set_option maxRecDepth 65536 in
theorem w_heap : heapFits about1 = true := by decide +kernel
set_option maxRecDepth 65536 in
theorem w_runnable : about1.curStatus? = some .runnable := by decide +kernel
set_option maxRecDepth 65536 in
theorem w_alone : about1.alone = true := by decide +kernel
set_option maxRecDepth 65536 in
theorem w_named : about1.methodNamed? x = some theMethod := by decide +kernel
set_option maxRecDepth 65536 in
theorem w_hears : about1.hears theMethod below0 = true := by decide +kernel
set_option maxRecDepth 65536 in
theorem w_ripe : about1.ripe theMethod args0 below0 = true := by decide +kernel
theorem w_running : about1.status = .running := rfl
set_option maxRecDepth 65536 in
theorem w_room : about1.hasRoom e0.platform room_1 = true :=
  launch0.hasRoom_least _ room_1 (by decide +kernel) (by decide +kernel) (by decide +kernel) (by decide +kernel) (by decide +kernel) (by decide +kernel)
theorem allAtoms_all (ts : List Jvm.Cond) (a : Array Jvm.Value) (st : Jvm.State) : (allAtoms ts).before a st = ts.all (fun c => c.before a st) := by
  induction ts with
  | nil => rfl
  | cons c t ih =>
    show (Jvm.Cond.and c (allAtoms t)).before a st = _
    rw [Jvm.Cond.before_and, ih, List.all_cons]
def words1 : List Jvm.Cond := Jvm.Cond.code x code maxLocals ret :: tables_1
/-- a 'code' word, met by the world's own term for the bytes: nothing is compared byte by byte -/
theorem code_word {y : MethodName} {bytes : ByteArray} {mx : Nat} {rt : Option FieldType} {a : Array Value} {s : State} {m : MethodId} {meth : Method} {c : Code} (h1 : s.methodNamed? y = some m) (h2 : s.vm.method? m = some meth) (h3 : meth.code = some c) (h4 : c.code = bytes)
    (h5 : (c.maxLocals == mx && c.exceptionTable.isEmpty && decide (c.maxStack ≤ mostOperands) && decide (meth.sig.returnType = rt) && !meth.locks && decide (parseMethodDescriptor y.desc = some meth.sig)) = true) : (Jvm.Cond.code y bytes mx rt).before a s = true := by
  simp only [Bool.and_eq_true, beq_iff_eq, Bool.not_eq_true', decide_eq_true_eq] at h5
  obtain ⟨⟨⟨⟨⟨g1, g2⟩, g3⟩, g4⟩, g5⟩, g6⟩ := h5
  simp [Cond.before, Cond.holds, Cond.value, h1, h2, h3, h4, g1, g2, g3, g4, g5, g6]
def isCode : Jvm.Cond → Bool
  | .code _ _ _ _ => true
  | _ => false
theorem all_split {L : List Jvm.Cond} {P : Jvm.Cond → Bool} (h1 : L.all (fun c => isCode c || P c) = true) (h2 : ∀ c ∈ L.filter isCode, P c = true) : L.all P = true := by
  refine List.all_eq_true.mpr fun c hc => ?_
  have h := List.all_eq_true.mp h1 c hc
  rcases Bool.eq_false_or_eq_true (isCode c) with hi | hi
  · exact h2 c (List.mem_filter.mpr ⟨hc, hi⟩)
  · simpa [hi] using h
set_option maxRecDepth 65536 in
theorem w_c0 : (Jvm.Cond.code x code maxLocals ret).before args0 about1 = true := code_word (m := ⟨1, 1⟩) (meth := k1m1) (c := k1c1) (by decide +kernel) rfl rfl rfl (by decide +kernel)
set_option maxRecDepth 65536 in
theorem w_c1 : (Jvm.Cond.code ({ cls := "managerie/snmp/Ber$Reader", name := "<init>", desc := "([BII)V" } : Jvm.MethodName) prog_59_method_1_code (4 : Nat) (Option.none : Option Jvm.ClassFile.FieldType)).before args0 about1 = true := code_word (m := ⟨2, 0⟩) (meth := k2m0) (c := k2c0) (by decide +kernel) rfl rfl rfl (by decide +kernel)
set_option maxRecDepth 65536 in
theorem w_c2 : (Jvm.Cond.code ({ cls := "java/lang/Object", name := "<init>", desc := "()V" } : Jvm.MethodName) object_method_1_code (1 : Nat) (Option.none : Option Jvm.ClassFile.FieldType)).before args0 about1 = true := code_word (m := ⟨0, 0⟩) (meth := k0m0) (c := k0c0) (by decide +kernel) rfl rfl rfl (by decide +kernel)
set_option maxRecDepth 65536 in
theorem w_c3 : (Jvm.Cond.code ({ cls := "java/util/Objects", name := "checkFromIndexSize", desc := "(III)I" } : Jvm.MethodName) jdk_31_method_19_code (3 : Nat) (Option.some Jvm.ClassFile.FieldType.int)).before args0 about1 = true := code_word (m := ⟨3, 1⟩) (meth := k3m1) (c := k3c1) (by decide +kernel) rfl rfl rfl (by decide +kernel)
set_option maxRecDepth 65536 in
theorem w_c4 : (Jvm.Cond.code ({ cls := "jdk/internal/util/Preconditions", name := "checkFromIndexSize", desc := "(IIILjava/util/function/BiFunction;)I" } : Jvm.MethodName) jdk_41_method_13_code (4 : Nat) (Option.some Jvm.ClassFile.FieldType.int)).before args0 about1 = true := code_word (m := ⟨4, 1⟩) (meth := k4m1) (c := k4c1) (by decide +kernel) rfl rfl rfl (by decide +kernel)
set_option maxRecDepth 65536 in
theorem w_c5 : (Jvm.Cond.code ({ cls := "managerie/snmp/Ber$Reader", name := "peekTag", desc := "()I" } : Jvm.MethodName) prog_59_method_4_code (1 : Nat) (Option.some Jvm.ClassFile.FieldType.int)).before args0 about1 = true := code_word (m := ⟨2, 3⟩) (meth := k2m3) (c := k2c3) (by decide +kernel) rfl rfl rfl (by decide +kernel)
set_option maxRecDepth 65536 in
theorem w_c6 : (Jvm.Cond.code ({ cls := "managerie/snmp/Ber$Reader", name := "hasMore", desc := "()Z" } : Jvm.MethodName) prog_59_method_2_code (1 : Nat) (Option.some Jvm.ClassFile.FieldType.boolean)).before args0 about1 = true := code_word (m := ⟨2, 1⟩) (meth := k2m1) (c := k2c1) (by decide +kernel) rfl rfl rfl (by decide +kernel)
set_option maxRecDepth 65536 in
theorem w_c7 : (Jvm.Cond.code ({ cls := "managerie/snmp/Ber$Reader", name := "position", desc := "()I" } : Jvm.MethodName) prog_59_method_3_code (1 : Nat) (Option.some Jvm.ClassFile.FieldType.int)).before args0 about1 = true := code_word (m := ⟨2, 2⟩) (meth := k2m2) (c := k2c2) (by decide +kernel) rfl rfl rfl (by decide +kernel)
def codes1 : List Jvm.Cond := [Jvm.Cond.code x code maxLocals ret, Jvm.Cond.code ({ cls := "managerie/snmp/Ber$Reader", name := "<init>", desc := "([BII)V" } : Jvm.MethodName) prog_59_method_1_code (4 : Nat) (Option.none : Option Jvm.ClassFile.FieldType), Jvm.Cond.code ({ cls := "java/lang/Object", name := "<init>", desc := "()V" } : Jvm.MethodName) object_method_1_code (1 : Nat) (Option.none : Option Jvm.ClassFile.FieldType), Jvm.Cond.code ({ cls := "java/util/Objects", name := "checkFromIndexSize", desc := "(III)I" } : Jvm.MethodName) jdk_31_method_19_code (3 : Nat) (Option.some Jvm.ClassFile.FieldType.int), Jvm.Cond.code ({ cls := "jdk/internal/util/Preconditions", name := "checkFromIndexSize", desc := "(IIILjava/util/function/BiFunction;)I" } : Jvm.MethodName) jdk_41_method_13_code (4 : Nat) (Option.some Jvm.ClassFile.FieldType.int), Jvm.Cond.code ({ cls := "managerie/snmp/Ber$Reader", name := "peekTag", desc := "()I" } : Jvm.MethodName) prog_59_method_4_code (1 : Nat) (Option.some Jvm.ClassFile.FieldType.int), Jvm.Cond.code ({ cls := "managerie/snmp/Ber$Reader", name := "hasMore", desc := "()Z" } : Jvm.MethodName) prog_59_method_2_code (1 : Nat) (Option.some Jvm.ClassFile.FieldType.boolean), Jvm.Cond.code ({ cls := "managerie/snmp/Ber$Reader", name := "position", desc := "()I" } : Jvm.MethodName) prog_59_method_3_code (1 : Nat) (Option.some Jvm.ClassFile.FieldType.int)]
set_option maxRecDepth 65536 in
theorem codes_eq : words1.filter isCode = codes1 := rfl
theorem w_codes : ∀ c ∈ words1.filter isCode, c.before args0 about1 = true := by
  rw [codes_eq]
  intro c hc
  simp only [codes1, List.mem_cons, List.not_mem_nil, or_false] at hc
  rcases hc with rfl | rfl | rfl | rfl | rfl | rfl | rfl | rfl
  · exact w_c0
  · exact w_c1
  · exact w_c2
  · exact w_c3
  · exact w_c4
  · exact w_c5
  · exact w_c6
  · exact w_c7
set_option maxRecDepth 65536 in
theorem w_t1 : (words1.take 24).all (fun c => isCode c || c.before args0 about1) = true := by decide +kernel
set_option maxRecDepth 65536 in
theorem w_t2 : (words1.drop 24).all (fun c => isCode c || c.before args0 about1) = true := by decide +kernel
theorem w_tables : (allAtoms (Jvm.Cond.code x code maxLocals ret :: tables_1)).before args0 about1 = true := by
  rw [allAtoms_all]
  show words1.all (fun c => c.before args0 about1) = true
  refine all_split ?_ w_codes
  rw [← List.take_append_drop 24 words1, List.all_append, w_t1, w_t2]
  rfl
set_option maxRecDepth 65536 in
theorem w_case : (Jvm.Cond.and given_1 narrow_1).before args0 about1 = true := by decide +kernel
theorem w_applies : (headSpec (Jvm.Cond.code x code maxLocals ret :: tables_1) room_1).applies x e0.platform about1 = true :=
  (Spec.applies_iff w_frames).mpr ⟨w_running, w_runnable, w_alone, w_named, w_hears, w_ripe, w_room, w_tables⟩
theorem atStart : AtStart classFile x code maxLocals ret World_1 tables_1 room_1 Calls_1 rest_1 Pre_1 launch0 p0 e0 about1 theMethod args0 below0 :=
  ⟨lists_1, trivial, launch0.admits_env _ _ _, launch0.least_env, fairChoices_fair.cas, fairChoices_fair.clock, w_frames, w_args, w_heap, w_applies, trivial, trivial, w_case⟩
end start1
theorem witness_1 : WitnessClaimed_1 := ⟨start1.p0, start1.e0, start1.about1, start1.theMethod, start1.args0, start1.below0, start1.atStart⟩
end Jvm.Pilot.@@N@@
