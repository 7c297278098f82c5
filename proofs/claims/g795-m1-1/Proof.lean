import JvmDerived
import JvmDerived.Pilot.@@N@@Statement
import JvmDerived.Pilot.@@N@@Code
set_option linter.unusedVariables false
set_option linter.unusedSimpArgs false
namespace Jvm.Pilot.@@N@@
open Jvm Jvm.ClassFile Sem Op Lib Jvm.Free Jvm.Stand Jvm.LawKit Jvm.RoadKit Bundle Jvm.Pilot.@@N@@.Jvm.D
section Own
variable {p : Program} {l : Launch} {e : Env} {R : Room} {s : State} {m : MethodId} {args : Array Value} {below : List Frame} {meth : Method} {c : Code} {T T' : State} {locs : List Loc} {cells slots C N : Nat} {Q : Option Value → Heap → List Loc → Prop} {g g' : JFrame}
/-- from T with the frame g on top the invocation of s comes to its end: it returns, and Q holds of what it returns, of the heap and of the places written -/
def Go (p : Program) (e : Env) (below : List Frame) (s : State) (C N : Nat) (Q : Option Value → Heap → List Loc → Prop) (T : State) (g : JFrame) : Prop :=
  ∃ s₂ o, Steps p.tables e below (T.setTop g) s₂ ∧ s₂.status = .running ∧ Ended s₂ below o ∧ ∃ v L, o = .returned v ∧ Q v s₂.heap L ∧ FrameEnd s o s₂ L C N
theorem Go.st (h : ∀ t, Steps p.tables e below (T'.setTop g') t → Steps p.tables e below (T.setTop g) t) (k : Go p e below s C N Q T' g') : Go p e below s C N Q T g := by
  obtain ⟨s2, o, h1, h2⟩ := k
  exact ⟨s2, o, h _ h1, h2⟩
theorem Go.enter (q : g = g') (k : Go p e below s C N Q T g') : ∃ s₂ o, Steps p.tables e below (T.setTop g) s₂ ∧ s₂.status = .running ∧ Ended s₂ below o ∧ ∃ v L, o = .returned v ∧ Q v s₂.heap L ∧ FrameEnd s o s₂ L C N := by
  subst q; exact k
theorem Go.fin (X : Stand p l e R s m args below meth c T locs cells slots) (hlk : meth.locks = false) {v : Option Value} (hv : meth.sig.returnType = none → v = none) (hC : cells ≤ C) (hN : slots ≤ N) (hq : Q v T.heap locs)
    (hs : ∀ fs, (∀ (f : JFrame) (acts : List Action), f.method = m → f.locked = none → f.entered = [] → (doReturn e (T.setTop f) acts v).1 = T.setFrames fs) → Steps p.tables e below (T.setTop g) (T.setFrames fs)) : Go p e below s C N Q T g := by
  obtain ⟨fs, hr, hrun, hended, hW, hsame⟩ := X.leave hv hlk
  exact ⟨_, _, hs fs hr, hrun, hended, _, _, rfl, hq, ⟨_, rfl⟩, hW, hsame.mono hC hN⟩
end Own

section OwnG
variable {p : Program} {l : Launch} {e : Env} {R : Room} {s : State} {m : MethodId} {args : Array Value} {below : List Frame} {meth : Method} {c : Code} {T : State} {locs : List Loc} {cells slots C N : Nat} {Q : Option Value → Heap → List Loc → Prop} {pc pc' : Nat} {L L' : Array Slot} {S : List Value}
theorem G_iloadN (X : Stand p l e R s m args below meth c T locs cells slots) (hx : p.tables.exec = Jvm.exec) {k : Fin 4} {v : Int32} (hp : pc + 1 = pc') (hd : decode c.code pc = .ok (.iload_n k, 1)) (hl : L[k.val]? = some (.val (.int v))) (h : Go p e below s C N Q T (mkF m pc' L (.int v :: S))) : Go p e below s C N Q T (mkF m pc L S) := by
  subst hp; exact Go.st (fun _ k => XS.iloadN X.here hx rfl hd hl k) h
theorem G_iload (X : Stand p l e R s m args below meth c T locs cells slots) (hx : p.tables.exec = Jvm.exec) {k : Nat} {v : Int32} (hp : pc + 2 = pc') (hd : decode c.code pc = .ok (.iload k, 2)) (hl : L[k]? = some (.val (.int v))) (h : Go p e below s C N Q T (mkF m pc' L (.int v :: S))) : Go p e below s C N Q T (mkF m pc L S) := by
  subst hp; exact Go.st (fun _ k => XS.iload X.here hx rfl hd hl k) h
theorem G_istoreN (X : Stand p l e R s m args below meth c T locs cells slots) (hx : p.tables.exec = Jvm.exec) {k : Fin 4} {v : Int32} (hp : pc + 1 = pc') (hd : decode c.code pc = .ok (.istore_n k, 1)) (hl : storeLocals L k.val (.int v) = some L') (h : Go p e below s C N Q T (mkF m pc' L' S)) : Go p e below s C N Q T (mkF m pc L (.int v :: S)) := by
  subst hp; exact Go.st (fun _ k => XS.istoreN X.here hx rfl hd rfl hl k) h
theorem G_istore (X : Stand p l e R s m args below meth c T locs cells slots) (hx : p.tables.exec = Jvm.exec) {k : Nat} {v : Int32} (hp : pc + 2 = pc') (hd : decode c.code pc = .ok (.istore k, 2)) (hl : storeLocals L k (.int v) = some L') (h : Go p e below s C N Q T (mkF m pc' L' S)) : Go p e below s C N Q T (mkF m pc L (.int v :: S)) := by
  subst hp; exact Go.st (fun _ k => XS.istore X.here hx rfl hd rfl hl k) h
theorem G_lloadN (X : Stand p l e R s m args below meth c T locs cells slots) (hx : p.tables.exec = Jvm.exec) {k : Fin 4} {v : Int64} (hp : pc + 1 = pc') (hd : decode c.code pc = .ok (.lload_n k, 1)) (hl : L[k.val]? = some (.val (.long v))) (h : Go p e below s C N Q T (mkF m pc' L (.long v :: S))) : Go p e below s C N Q T (mkF m pc L S) := by
  subst hp; exact Go.st (fun _ k => XS.lloadN X.here hx rfl hd hl k) h
theorem G_lload (X : Stand p l e R s m args below meth c T locs cells slots) (hx : p.tables.exec = Jvm.exec) {k : Nat} {v : Int64} (hp : pc + 2 = pc') (hd : decode c.code pc = .ok (.lload k, 2)) (hl : L[k]? = some (.val (.long v))) (h : Go p e below s C N Q T (mkF m pc' L (.long v :: S))) : Go p e below s C N Q T (mkF m pc L S) := by
  subst hp; exact Go.st (fun _ k => XS.lload X.here hx rfl hd hl k) h
theorem G_lstoreN (X : Stand p l e R s m args below meth c T locs cells slots) (hx : p.tables.exec = Jvm.exec) {k : Fin 4} {v : Int64} (hp : pc + 1 = pc') (hd : decode c.code pc = .ok (.lstore_n k, 1)) (hl : storeLocals L k.val (.long v) = some L') (h : Go p e below s C N Q T (mkF m pc' L' S)) : Go p e below s C N Q T (mkF m pc L (.long v :: S)) := by
  subst hp; exact Go.st (fun _ k => XS.lstoreN X.here hx rfl hd rfl hl k) h
theorem G_lstore (X : Stand p l e R s m args below meth c T locs cells slots) (hx : p.tables.exec = Jvm.exec) {k : Nat} {v : Int64} (hp : pc + 2 = pc') (hd : decode c.code pc = .ok (.lstore k, 2)) (hl : storeLocals L k (.long v) = some L') (h : Go p e below s C N Q T (mkF m pc' L' S)) : Go p e below s C N Q T (mkF m pc L (.long v :: S)) := by
  subst hp; exact Go.st (fun _ k => XS.lstore X.here hx rfl hd rfl hl k) h
theorem G_aloadN (X : Stand p l e R s m args below meth c T locs cells slots) (hx : p.tables.exec = Jvm.exec) {k : Fin 4} {v : Value} (hp : pc + 1 = pc') (hd : decode c.code pc = .ok (.aload_n k, 1)) (hl : L[k.val]? = some (.val v)) (hv : v.isRef = true) (h : Go p e below s C N Q T (mkF m pc' L (v :: S))) : Go p e below s C N Q T (mkF m pc L S) := by
  subst hp; exact Go.st (fun _ k => XS.aloadN X.here hx rfl hd hl hv k) h
theorem G_aload (X : Stand p l e R s m args below meth c T locs cells slots) (hx : p.tables.exec = Jvm.exec) {k : Nat} {v : Value} (hp : pc + 2 = pc') (hd : decode c.code pc = .ok (.aload k, 2)) (hl : L[k]? = some (.val v)) (hv : v.isRef = true) (h : Go p e below s C N Q T (mkF m pc' L (v :: S))) : Go p e below s C N Q T (mkF m pc L S) := by
  subst hp; exact Go.st (fun _ k => XS.aload X.here hx rfl hd hl hv k) h
theorem G_astoreN (X : Stand p l e R s m args below meth c T locs cells slots) (hx : p.tables.exec = Jvm.exec) {k : Fin 4} {v : Value} (hp : pc + 1 = pc') (hd : decode c.code pc = .ok (.astore_n k, 1)) (hv : v.isRef = true) (hl : storeLocals L k.val v = some L') (h : Go p e below s C N Q T (mkF m pc' L' S)) : Go p e below s C N Q T (mkF m pc L (v :: S)) := by
  subst hp; exact Go.st (fun _ k => XS.astoreN X.here hx rfl hd rfl hv hl k) h
theorem G_astore (X : Stand p l e R s m args below meth c T locs cells slots) (hx : p.tables.exec = Jvm.exec) {k : Nat} {v : Value} (hp : pc + 2 = pc') (hd : decode c.code pc = .ok (.astore k, 2)) (hv : v.isRef = true) (hl : storeLocals L k v = some L') (h : Go p e below s C N Q T (mkF m pc' L' S)) : Go p e below s C N Q T (mkF m pc L (v :: S)) := by
  subst hp; exact Go.st (fun _ k => XS.astore X.here hx rfl hd rfl hv hl k) h
theorem G_iconst (X : Stand p l e R s m args below meth c T locs cells slots) (hx : p.tables.exec = Jvm.exec) {i : Int} {z : Int32} (hp : pc + 1 = pc') (hd : decode c.code pc = .ok (.iconst i, 1)) (hz : Int32.ofInt i = z) (h : Go p e below s C N Q T (mkF m pc' L (.int z :: S))) : Go p e below s C N Q T (mkF m pc L S) := by
  subst hp; exact Go.st (fun _ k => XS.iconst X.here hx rfl hd (by rw [hz]; exact k)) h
theorem G_bipush (X : Stand p l e R s m args below meth c T locs cells slots) (hx : p.tables.exec = Jvm.exec) {i : Int} {z : Int32} (hp : pc + 2 = pc') (hd : decode c.code pc = .ok (.bipush i, 2)) (hz : (Int8.ofInt i).toInt32 = z) (h : Go p e below s C N Q T (mkF m pc' L (.int z :: S))) : Go p e below s C N Q T (mkF m pc L S) := by
  subst hp; exact Go.st (fun _ k => XS.bipush X.here hx rfl hd (by rw [hz]; exact k)) h
theorem G_sipush (X : Stand p l e R s m args below meth c T locs cells slots) (hx : p.tables.exec = Jvm.exec) {i : Int} {z : Int32} (hp : pc + 3 = pc') (hd : decode c.code pc = .ok (.sipush i, 3)) (hz : (Int16.ofInt i).toInt32 = z) (h : Go p e below s C N Q T (mkF m pc' L (.int z :: S))) : Go p e below s C N Q T (mkF m pc L S) := by
  subst hp; exact Go.st (fun _ k => XS.sipush X.here hx rfl hd (by rw [hz]; exact k)) h
theorem G_lconst (X : Stand p l e R s m args below meth c T locs cells slots) (hx : p.tables.exec = Jvm.exec) {i : Fin 2} {z : Int64} (hp : pc + 1 = pc') (hd : decode c.code pc = .ok (.lconst i, 1)) (hz : Int64.ofNat i = z) (h : Go p e below s C N Q T (mkF m pc' L (.long z :: S))) : Go p e below s C N Q T (mkF m pc L S) := by
  subst hp; exact Go.st (fun _ k => XS.lconst X.here hx rfl hd (by rw [hz]; exact k)) h
theorem G_aconstNull (X : Stand p l e R s m args below meth c T locs cells slots) (hx : p.tables.exec = Jvm.exec)  (hp : pc + 1 = pc') (hd : decode c.code pc = .ok (.aconst_null, 1))  (h : Go p e below s C N Q T (mkF m pc' L (.null :: S))) : Go p e below s C N Q T (mkF m pc L S) := by
  subst hp; exact Go.st (fun _ k => XS.aconstNull X.here hx rfl hd k) h
theorem G_iadd (X : Stand p l e R s m args below meth c T locs cells slots) (hx : p.tables.exec = Jvm.exec) {x y : Int32} (hp : pc + 1 = pc') (hd : decode c.code pc = .ok (.iadd, 1))  (h : Go p e below s C N Q T (mkF m pc' L (.int (x + y) :: S))) : Go p e below s C N Q T (mkF m pc L (.int y :: .int x :: S)) := by
  subst hp; exact Go.st (fun _ k => XS.iadd X.here hx rfl hd rfl k) h
theorem G_isub (X : Stand p l e R s m args below meth c T locs cells slots) (hx : p.tables.exec = Jvm.exec) {x y : Int32} (hp : pc + 1 = pc') (hd : decode c.code pc = .ok (.isub, 1))  (h : Go p e below s C N Q T (mkF m pc' L (.int (x - y) :: S))) : Go p e below s C N Q T (mkF m pc L (.int y :: .int x :: S)) := by
  subst hp; exact Go.st (fun _ k => XS.isub X.here hx rfl hd rfl k) h
theorem G_imul (X : Stand p l e R s m args below meth c T locs cells slots) (hx : p.tables.exec = Jvm.exec) {x y : Int32} (hp : pc + 1 = pc') (hd : decode c.code pc = .ok (.imul, 1))  (h : Go p e below s C N Q T (mkF m pc' L (.int (x * y) :: S))) : Go p e below s C N Q T (mkF m pc L (.int y :: .int x :: S)) := by
  subst hp; exact Go.st (fun _ k => XS.imul X.here hx rfl hd rfl k) h
theorem G_iand (X : Stand p l e R s m args below meth c T locs cells slots) (hx : p.tables.exec = Jvm.exec) {x y : Int32} (hp : pc + 1 = pc') (hd : decode c.code pc = .ok (.iand, 1))  (h : Go p e below s C N Q T (mkF m pc' L (.int (x &&& y) :: S))) : Go p e below s C N Q T (mkF m pc L (.int y :: .int x :: S)) := by
  subst hp; exact Go.st (fun _ k => XS.iand X.here hx rfl hd rfl k) h
theorem G_ior (X : Stand p l e R s m args below meth c T locs cells slots) (hx : p.tables.exec = Jvm.exec) {x y : Int32} (hp : pc + 1 = pc') (hd : decode c.code pc = .ok (.ior, 1))  (h : Go p e below s C N Q T (mkF m pc' L (.int (x ||| y) :: S))) : Go p e below s C N Q T (mkF m pc L (.int y :: .int x :: S)) := by
  subst hp; exact Go.st (fun _ k => XS.ior X.here hx rfl hd rfl k) h
theorem G_ixor (X : Stand p l e R s m args below meth c T locs cells slots) (hx : p.tables.exec = Jvm.exec) {x y : Int32} (hp : pc + 1 = pc') (hd : decode c.code pc = .ok (.ixor, 1))  (h : Go p e below s C N Q T (mkF m pc' L (.int (x ^^^ y) :: S))) : Go p e below s C N Q T (mkF m pc L (.int y :: .int x :: S)) := by
  subst hp; exact Go.st (fun _ k => XS.ixor X.here hx rfl hd rfl k) h
theorem G_ishl (X : Stand p l e R s m args below meth c T locs cells slots) (hx : p.tables.exec = Jvm.exec) {x y : Int32} (hp : pc + 1 = pc') (hd : decode c.code pc = .ok (.ishl, 1))  (h : Go p e below s C N Q T (mkF m pc' L (.int (x <<< (y &&& 31)) :: S))) : Go p e below s C N Q T (mkF m pc L (.int y :: .int x :: S)) := by
  subst hp; exact Go.st (fun _ k => XS.ishl X.here hx rfl hd rfl k) h
theorem G_ishr (X : Stand p l e R s m args below meth c T locs cells slots) (hx : p.tables.exec = Jvm.exec) {x y : Int32} (hp : pc + 1 = pc') (hd : decode c.code pc = .ok (.ishr, 1))  (h : Go p e below s C N Q T (mkF m pc' L (.int (x >>> (y &&& 31)) :: S))) : Go p e below s C N Q T (mkF m pc L (.int y :: .int x :: S)) := by
  subst hp; exact Go.st (fun _ k => XS.ishr X.here hx rfl hd rfl k) h
theorem G_iushr (X : Stand p l e R s m args below meth c T locs cells slots) (hx : p.tables.exec = Jvm.exec) {x y : Int32} (hp : pc + 1 = pc') (hd : decode c.code pc = .ok (.iushr, 1))  (h : Go p e below s C N Q T (mkF m pc' L (.int ((x.toUInt32 >>> (y &&& 31).toUInt32).toInt32) :: S))) : Go p e below s C N Q T (mkF m pc L (.int y :: .int x :: S)) := by
  subst hp; exact Go.st (fun _ k => XS.iushr X.here hx rfl hd rfl k) h
theorem G_ladd (X : Stand p l e R s m args below meth c T locs cells slots) (hx : p.tables.exec = Jvm.exec) {x y : Int64} (hp : pc + 1 = pc') (hd : decode c.code pc = .ok (.ladd, 1))  (h : Go p e below s C N Q T (mkF m pc' L (.long (x + y) :: S))) : Go p e below s C N Q T (mkF m pc L (.long y :: .long x :: S)) := by
  subst hp; exact Go.st (fun _ k => XS.ladd X.here hx rfl hd rfl k) h
theorem G_lsub (X : Stand p l e R s m args below meth c T locs cells slots) (hx : p.tables.exec = Jvm.exec) {x y : Int64} (hp : pc + 1 = pc') (hd : decode c.code pc = .ok (.lsub, 1))  (h : Go p e below s C N Q T (mkF m pc' L (.long (x - y) :: S))) : Go p e below s C N Q T (mkF m pc L (.long y :: .long x :: S)) := by
  subst hp; exact Go.st (fun _ k => XS.lsub X.here hx rfl hd rfl k) h
theorem G_lmul (X : Stand p l e R s m args below meth c T locs cells slots) (hx : p.tables.exec = Jvm.exec) {x y : Int64} (hp : pc + 1 = pc') (hd : decode c.code pc = .ok (.lmul, 1))  (h : Go p e below s C N Q T (mkF m pc' L (.long (x * y) :: S))) : Go p e below s C N Q T (mkF m pc L (.long y :: .long x :: S)) := by
  subst hp; exact Go.st (fun _ k => XS.lmul X.here hx rfl hd rfl k) h
theorem G_land (X : Stand p l e R s m args below meth c T locs cells slots) (hx : p.tables.exec = Jvm.exec) {x y : Int64} (hp : pc + 1 = pc') (hd : decode c.code pc = .ok (.land, 1))  (h : Go p e below s C N Q T (mkF m pc' L (.long (x &&& y) :: S))) : Go p e below s C N Q T (mkF m pc L (.long y :: .long x :: S)) := by
  subst hp; exact Go.st (fun _ k => XS.land X.here hx rfl hd rfl k) h
theorem G_lor (X : Stand p l e R s m args below meth c T locs cells slots) (hx : p.tables.exec = Jvm.exec) {x y : Int64} (hp : pc + 1 = pc') (hd : decode c.code pc = .ok (.lor, 1))  (h : Go p e below s C N Q T (mkF m pc' L (.long (x ||| y) :: S))) : Go p e below s C N Q T (mkF m pc L (.long y :: .long x :: S)) := by
  subst hp; exact Go.st (fun _ k => XS.lor X.here hx rfl hd rfl k) h
theorem G_lxor (X : Stand p l e R s m args below meth c T locs cells slots) (hx : p.tables.exec = Jvm.exec) {x y : Int64} (hp : pc + 1 = pc') (hd : decode c.code pc = .ok (.lxor, 1))  (h : Go p e below s C N Q T (mkF m pc' L (.long (x ^^^ y) :: S))) : Go p e below s C N Q T (mkF m pc L (.long y :: .long x :: S)) := by
  subst hp; exact Go.st (fun _ k => XS.lxor X.here hx rfl hd rfl k) h
theorem G_lshl (X : Stand p l e R s m args below meth c T locs cells slots) (hx : p.tables.exec = Jvm.exec) {x : Int64} {y : Int32} (hp : pc + 1 = pc') (hd : decode c.code pc = .ok (.lshl, 1))  (h : Go p e below s C N Q T (mkF m pc' L (.long (x <<< (y &&& 0x3f).toInt64) :: S))) : Go p e below s C N Q T (mkF m pc L (.int y :: .long x :: S)) := by
  subst hp; exact Go.st (fun _ k => XS.lshl X.here hx rfl hd rfl k) h
theorem G_lshr (X : Stand p l e R s m args below meth c T locs cells slots) (hx : p.tables.exec = Jvm.exec) {x : Int64} {y : Int32} (hp : pc + 1 = pc') (hd : decode c.code pc = .ok (.lshr, 1))  (h : Go p e below s C N Q T (mkF m pc' L (.long (x >>> (y &&& 0x3f).toInt64) :: S))) : Go p e below s C N Q T (mkF m pc L (.int y :: .long x :: S)) := by
  subst hp; exact Go.st (fun _ k => XS.lshr X.here hx rfl hd rfl k) h
theorem G_lushr (X : Stand p l e R s m args below meth c T locs cells slots) (hx : p.tables.exec = Jvm.exec) {x : Int64} {y : Int32} (hp : pc + 1 = pc') (hd : decode c.code pc = .ok (.lushr, 1))  (h : Go p e below s C N Q T (mkF m pc' L (.long ((x.toUInt64 >>> (y &&& 0x3f).toInt64.toUInt64).toInt64) :: S))) : Go p e below s C N Q T (mkF m pc L (.int y :: .long x :: S)) := by
  subst hp; exact Go.st (fun _ k => XS.lushr X.here hx rfl hd rfl k) h
theorem G_idiv (X : Stand p l e R s m args below meth c T locs cells slots) (hx : p.tables.exec = Jvm.exec) {x y : Int32} (hp : pc + 1 = pc') (hd : decode c.code pc = .ok (.idiv, 1)) (hy : y ≠ 0) (h : Go p e below s C N Q T (mkF m pc' L (.int (x / y) :: S))) : Go p e below s C N Q T (mkF m pc L (.int y :: .int x :: S)) := by
  subst hp; exact Go.st (fun _ k => XS.idiv X.here hx rfl hd rfl hy k) h
theorem G_irem (X : Stand p l e R s m args below meth c T locs cells slots) (hx : p.tables.exec = Jvm.exec) {x y : Int32} (hp : pc + 1 = pc') (hd : decode c.code pc = .ok (.irem, 1)) (hy : y ≠ 0) (h : Go p e below s C N Q T (mkF m pc' L (.int (x % y) :: S))) : Go p e below s C N Q T (mkF m pc L (.int y :: .int x :: S)) := by
  subst hp; exact Go.st (fun _ k => iremM X hx rfl hd rfl hy k) h
theorem G_ldiv (X : Stand p l e R s m args below meth c T locs cells slots) (hx : p.tables.exec = Jvm.exec) {x y : Int64} (hp : pc + 1 = pc') (hd : decode c.code pc = .ok (.ldiv, 1)) (hy : y ≠ 0) (h : Go p e below s C N Q T (mkF m pc' L (.long (x / y) :: S))) : Go p e below s C N Q T (mkF m pc L (.long y :: .long x :: S)) := by
  subst hp; exact Go.st (fun _ k => XS.ldiv X.here hx rfl hd rfl hy k) h
theorem G_lrem (X : Stand p l e R s m args below meth c T locs cells slots) (hx : p.tables.exec = Jvm.exec) {x y : Int64} (hp : pc + 1 = pc') (hd : decode c.code pc = .ok (.lrem, 1)) (hy : y ≠ 0) (h : Go p e below s C N Q T (mkF m pc' L (.long (x % y) :: S))) : Go p e below s C N Q T (mkF m pc L (.long y :: .long x :: S)) := by
  subst hp; exact Go.st (fun _ k => XS.lrem X.here hx rfl hd rfl hy (by rw [lrem_mod]; exact k)) h
theorem G_ineg (X : Stand p l e R s m args below meth c T locs cells slots) (hx : p.tables.exec = Jvm.exec) {x : Int32} (hp : pc + 1 = pc') (hd : decode c.code pc = .ok (.ineg, 1))  (h : Go p e below s C N Q T (mkF m pc' L (.int (-x) :: S))) : Go p e below s C N Q T (mkF m pc L (.int x :: S)) := by
  subst hp; exact Go.st (fun _ k => XS.ineg X.here hx rfl hd rfl k) h
theorem G_lneg (X : Stand p l e R s m args below meth c T locs cells slots) (hx : p.tables.exec = Jvm.exec) {x : Int64} (hp : pc + 1 = pc') (hd : decode c.code pc = .ok (.lneg, 1))  (h : Go p e below s C N Q T (mkF m pc' L (.long (-x) :: S))) : Go p e below s C N Q T (mkF m pc L (.long x :: S)) := by
  subst hp; exact Go.st (fun _ k => XS.lneg X.here hx rfl hd rfl k) h
theorem G_i2l (X : Stand p l e R s m args below meth c T locs cells slots) (hx : p.tables.exec = Jvm.exec) {x : Int32} (hp : pc + 1 = pc') (hd : decode c.code pc = .ok (.i2l, 1))  (h : Go p e below s C N Q T (mkF m pc' L (.long (x.toInt64) :: S))) : Go p e below s C N Q T (mkF m pc L (.int x :: S)) := by
  subst hp; exact Go.st (fun _ k => XS.i2l X.here hx rfl hd rfl k) h
theorem G_l2i (X : Stand p l e R s m args below meth c T locs cells slots) (hx : p.tables.exec = Jvm.exec) {x : Int64} (hp : pc + 1 = pc') (hd : decode c.code pc = .ok (.l2i, 1))  (h : Go p e below s C N Q T (mkF m pc' L (.int (x.toInt32) :: S))) : Go p e below s C N Q T (mkF m pc L (.long x :: S)) := by
  subst hp; exact Go.st (fun _ k => XS.l2i X.here hx rfl hd rfl k) h
theorem G_i2b (X : Stand p l e R s m args below meth c T locs cells slots) (hx : p.tables.exec = Jvm.exec) {x : Int32} (hp : pc + 1 = pc') (hd : decode c.code pc = .ok (.i2b, 1))  (h : Go p e below s C N Q T (mkF m pc' L (.int (x.toInt8.toInt32) :: S))) : Go p e below s C N Q T (mkF m pc L (.int x :: S)) := by
  subst hp; exact Go.st (fun _ k => XS.i2b X.here hx rfl hd rfl k) h
theorem G_i2s (X : Stand p l e R s m args below meth c T locs cells slots) (hx : p.tables.exec = Jvm.exec) {x : Int32} (hp : pc + 1 = pc') (hd : decode c.code pc = .ok (.i2s, 1))  (h : Go p e below s C N Q T (mkF m pc' L (.int (x.toInt16.toInt32) :: S))) : Go p e below s C N Q T (mkF m pc L (.int x :: S)) := by
  subst hp; exact Go.st (fun _ k => XS.i2s X.here hx rfl hd rfl k) h
theorem G_i2c (X : Stand p l e R s m args below meth c T locs cells slots) (hx : p.tables.exec = Jvm.exec) {x : Int32} (hp : pc + 1 = pc') (hd : decode c.code pc = .ok (.i2c, 1))  (h : Go p e below s C N Q T (mkF m pc' L (.int (x.toUInt32.toUInt16.toUInt32.toInt32) :: S))) : Go p e below s C N Q T (mkF m pc L (.int x :: S)) := by
  subst hp; exact Go.st (fun _ k => XS.i2c X.here hx rfl hd rfl k) h
theorem G_lcmp (X : Stand p l e R s m args below meth c T locs cells slots) (hx : p.tables.exec = Jvm.exec) {x y : Int64} (hp : pc + 1 = pc') (hd : decode c.code pc = .ok (.lcmp, 1))  (h : Go p e below s C N Q T (mkF m pc' L (.int (lcmpW x y) :: S))) : Go p e below s C N Q T (mkF m pc L (.long y :: .long x :: S)) := by
  subst hp; exact Go.st (fun _ k => XS.lcmp X.here hx rfl hd rfl k) h
theorem G_iinc (X : Stand p l e R s m args below meth c T locs cells slots) (hx : p.tables.exec = Jvm.exec) {k : Nat} {cst : Int} {x z : Int32} (hp : pc + 3 = pc') (hd : decode c.code pc = .ok (.iinc k cst, 3)) (hl : L[k]? = some (.val (.int x))) (hz : x + Int32.ofInt cst = z) (hl' : storeLocals L k (.int z) = some L') (h : Go p e below s C N Q T (mkF m pc' L' S)) : Go p e below s C N Q T (mkF m pc L S) := by
  subst hp; exact Go.st (fun _ k => XS.iinc X.here hx rfl hd hl (by rw [hz]; exact hl') k) h
theorem G_dup (X : Stand p l e R s m args below meth c T locs cells slots) (hx : p.tables.exec = Jvm.exec) {x : Value} (hp : pc + 1 = pc') (hd : decode c.code pc = .ok (.dup, 1)) (hc : x.category = 1) (h : Go p e below s C N Q T (mkF m pc' L (x :: x :: S))) : Go p e below s C N Q T (mkF m pc L (x :: S)) := by
  subst hp; exact Go.st (fun _ k => XS.dup X.here hx rfl hd rfl hc k) h
theorem G_pop (X : Stand p l e R s m args below meth c T locs cells slots) (hx : p.tables.exec = Jvm.exec) {x : Value} (hp : pc + 1 = pc') (hd : decode c.code pc = .ok (.pop, 1)) (hc : x.category = 1) (h : Go p e below s C N Q T (mkF m pc' L S)) : Go p e below s C N Q T (mkF m pc L (x :: S)) := by
  subst hp; exact Go.st (fun _ k => XS.pop X.here hx rfl hd rfl hc k) h
theorem G_dupX1 (X : Stand p l e R s m args below meth c T locs cells slots) (hx : p.tables.exec = Jvm.exec) {x y : Value} (hp : pc + 1 = pc') (hd : decode c.code pc = .ok (.dup_x1, 1)) (hc : x.category = 1) (hc' : y.category = 1) (h : Go p e below s C N Q T (mkF m pc' L (x :: y :: x :: S))) : Go p e below s C N Q T (mkF m pc L (x :: y :: S)) := by
  subst hp; exact Go.st (fun _ k => XS.dupX1 X.here hx rfl hd rfl hc hc' k) h
theorem G_goto (X : Stand p l e R s m args below meth c T locs cells slots) (hx : p.tables.exec = Jvm.exec)  {o : Int} (hd : decode c.code pc = .ok (.goto o, 3))  (ho : 0 ≤ (pc : Int) + o) (hp : ((pc : Int) + o).toNat = pc') (h : Go p e below s C N Q T (mkF m pc' L S)) : Go p e below s C N Q T (mkF m pc L S) :=
  Go.st (fun _ k => XS.goto X.here hx rfl rfl hd ho hp k) h
theorem G_ifYes (X : Stand p l e R s m args below meth c T locs cells slots) (hx : p.tables.exec = Jvm.exec) {cd : ClassFile.Cond} {x : Int32} {o : Int} (hd : decode c.code pc = .ok (.ifCond cd o, 3)) (hc : ifCond.holds cd x = true) (ho : 0 ≤ (pc : Int) + o) (hp : ((pc : Int) + o).toNat = pc') (h : Go p e below s C N Q T (mkF m pc' L S)) : Go p e below s C N Q T (mkF m pc L (.int x :: S)) :=
  Go.st (fun _ k => XS.ifYes X.here hx rfl rfl hd rfl hc ho hp k) h
theorem G_icmpYes (X : Stand p l e R s m args below meth c T locs cells slots) (hx : p.tables.exec = Jvm.exec) {cd : ClassFile.Cond} {x y : Int32} {o : Int} (hd : decode c.code pc = .ok (.if_icmp cd o, 3)) (hc : if_icmp.holds cd x y = true) (ho : 0 ≤ (pc : Int) + o) (hp : ((pc : Int) + o).toNat = pc') (h : Go p e below s C N Q T (mkF m pc' L S)) : Go p e below s C N Q T (mkF m pc L (.int y :: .int x :: S)) :=
  Go.st (fun _ k => XS.icmpYes X.here hx rfl rfl hd rfl hc ho hp k) h
theorem G_ifnullYes (X : Stand p l e R s m args below meth c T locs cells slots) (hx : p.tables.exec = Jvm.exec)  {o : Int} (hd : decode c.code pc = .ok (.ifnull o, 3))  (ho : 0 ≤ (pc : Int) + o) (hp : ((pc : Int) + o).toNat = pc') (h : Go p e below s C N Q T (mkF m pc' L S)) : Go p e below s C N Q T (mkF m pc L (.null :: S)) :=
  Go.st (fun _ k => XS.ifnullYes X.here hx rfl rfl hd rfl ho hp k) h
theorem G_ifnonnullYes (X : Stand p l e R s m args below meth c T locs cells slots) (hx : p.tables.exec = Jvm.exec) {b : Addr} {o : Int} (hd : decode c.code pc = .ok (.ifnonnull o, 3))  (ho : 0 ≤ (pc : Int) + o) (hp : ((pc : Int) + o).toNat = pc') (h : Go p e below s C N Q T (mkF m pc' L S)) : Go p e below s C N Q T (mkF m pc L (.ref b :: S)) :=
  Go.st (fun _ k => XS.ifnonnullYes X.here hx rfl rfl hd rfl ho hp k) h
theorem G_ifNo (X : Stand p l e R s m args below meth c T locs cells slots) (hx : p.tables.exec = Jvm.exec) {cd : ClassFile.Cond} {x : Int32} {o : Int} (hp : pc + 3 = pc') (hd : decode c.code pc = .ok (.ifCond cd o, 3)) (hc : ifCond.holds cd x = false) (h : Go p e below s C N Q T (mkF m pc' L S)) : Go p e below s C N Q T (mkF m pc L (.int x :: S)) := by
  subst hp; exact Go.st (fun _ k => XS.ifNo X.here hx rfl hd rfl hc k) h
theorem G_icmpNo (X : Stand p l e R s m args below meth c T locs cells slots) (hx : p.tables.exec = Jvm.exec) {cd : ClassFile.Cond} {x y : Int32} {o : Int} (hp : pc + 3 = pc') (hd : decode c.code pc = .ok (.if_icmp cd o, 3)) (hc : if_icmp.holds cd x y = false) (h : Go p e below s C N Q T (mkF m pc' L S)) : Go p e below s C N Q T (mkF m pc L (.int y :: .int x :: S)) := by
  subst hp; exact Go.st (fun _ k => XS.icmpNo X.here hx rfl hd rfl hc k) h
theorem G_ifnullNo (X : Stand p l e R s m args below meth c T locs cells slots) (hx : p.tables.exec = Jvm.exec) {b : Addr} {o : Int} (hp : pc + 3 = pc') (hd : decode c.code pc = .ok (.ifnull o, 3))  (h : Go p e below s C N Q T (mkF m pc' L S)) : Go p e below s C N Q T (mkF m pc L (.ref b :: S)) := by
  subst hp; exact Go.st (fun _ k => XS.ifnullNo X.here hx rfl hd rfl k) h
theorem G_ifnonnullNo (X : Stand p l e R s m args below meth c T locs cells slots) (hx : p.tables.exec = Jvm.exec) {o : Int} (hp : pc + 3 = pc') (hd : decode c.code pc = .ok (.ifnonnull o, 3))  (h : Go p e below s C N Q T (mkF m pc' L S)) : Go p e below s C N Q T (mkF m pc L (.null :: S)) := by
  subst hp; exact Go.st (fun _ k => XS.ifnonnullNo X.here hx rfl hd rfl k) h
theorem G_ldc (X : Stand p l e R s m args below meth c T locs cells slots) (hx : p.tables.exec = Jvm.exec) (hp : pc + 2 = pc') {own : String} {index : Nat} {v : Int32} (hown : s.vm.findClass own = some m.cls) (hw : (Cond.constant own index v).before args s = true) (hd : decode c.code pc = .ok (.ldc index, 2)) (h : Go p e below s C N Q T (mkF m pc' L (.int v :: S))) : Go p e below s C N Q T (mkF m pc L S) := by
  subst hp; exact Go.st (X.ldcInt hx hown hw (g := mkF m pc L S) rfl hd) h
theorem G_ldc2 (X : Stand p l e R s m args below meth c T locs cells slots) (hx : p.tables.exec = Jvm.exec) (hp : pc + 3 = pc') {own : String} {index : Nat} {v : Int64} (hown : s.vm.findClass own = some m.cls) (hw : (Cond.constantLong own index v).before args s = true) (hd : decode c.code pc = .ok (.ldc2_w index, 3)) (h : Go p e below s C N Q T (mkF m pc' L (.long v :: S))) : Go p e below s C N Q T (mkF m pc L S) := by
  subst hp; exact Go.st (X.ldc2Long hx hown hw (g := mkF m pc L S) rfl hd) h
end OwnG

section OwnStart
variable {args : Array Value} {s : State} {t : Term} {C n d : String} {a : Addr}
theorem own_ref (h : (Cond.exactly t C).value args s none s [] = some true) : ∃ a, t.eval args s none [] s = some (.ref a) := by
  obtain ⟨a', _, _, _, e1, -⟩ := Cond.exactly_spec (Cond.before_iff.mpr h)
  exact ⟨a', e1⟩
theorem own_fldI {x : Int32} (ev : t.eval args s none [] s = some (.ref a)) (h : (Cond.eq (.field t C n d) (.int x)).value args s none s [] = some true) : Fld s s.heap a C n d (.int x) := by
  apply Fld.start
  simp only [Cond.value, Term.eval, ev, Option.bind_eq_bind, Option.bind_some] at h
  cases hf : s.fieldOf? a C n d with
  | none => simp [hf] at h
  | some v => cases v <;> simp [hf] at h; subst h; rfl
theorem own_fldJ {x : Int64} (ev : t.eval args s none [] s = some (.ref a)) (h : (Cond.eq (.field t C n d) (.long x)).value args s none s [] = some true) : Fld s s.heap a C n d (.long x) := by
  apply Fld.start
  simp only [Cond.value, Term.eval, ev, Option.bind_eq_bind, Option.bind_some] at h
  cases hf : s.fieldOf? a C n d with
  | none => simp [hf] at h
  | some v => cases v <;> simp [hf] at h; subst h; rfl
end OwnStart

theorem d_validN_0 : decode prog_12_method_4_code 0 = .ok (.aload_n 0, 1) := by decide +kernel
theorem d_validN_1 : decode prog_12_method_4_code 1 = .ok (.getstatic 3, 3) := by decide +kernel
theorem d_validN_4 : decode prog_12_method_4_code 4 = .ok (.if_acmp .ne 17, 3) := by decide +kernel
theorem d_validN_7 : decode prog_12_method_4_code 7 = .ok (.lload_n 1, 1) := by decide +kernel
theorem d_validN_8 : decode prog_12_method_4_code 8 = .ok (.lconst 0, 1) := by decide +kernel
theorem d_validN_9 : decode prog_12_method_4_code 9 = .ok (.lcmp, 1) := by decide +kernel
theorem d_validN_10 : decode prog_12_method_4_code 10 = .ok (.ifCond .ne 7, 3) := by decide +kernel
theorem d_validN_13 : decode prog_12_method_4_code 13 = .ok (.iconst 1, 1) := by decide +kernel
theorem d_validN_14 : decode prog_12_method_4_code 14 = .ok (.goto 21, 3) := by decide +kernel
theorem d_validN_35 : decode prog_12_method_4_code 35 = .ok (.ireturn, 1) := by decide +kernel
theorem d_validN_17 : decode prog_12_method_4_code 17 = .ok (.iconst 0, 1) := by decide +kernel
theorem d_validN_18 : decode prog_12_method_4_code 18 = .ok (.goto 17, 3) := by decide +kernel
def f_validN (v1 : Int64) : Int32 := (if v1 = (0 : Int64) then (1 : Int32) else (0 : Int32))
theorem ef_validN (m : MethodId) (aN : Addr) (v1 : Int64) : entryFrame m #[(.ref aN), (.long v1)] 3 = mkF m 0 #[.val (.ref aN), .val (.long v1), .second] [] := by first | (simp [entryFrame, mkF, argsToLocals, Value.category]; done) | rfl
def Q_validN (Z : State) (aN : Addr) (v1 : Int64) (h0 : Heap) (n0 : Nat) (v : Option Value) (h : Heap) (L : List Loc) : Prop := v = some (.int (f_validN v1)) ∧ Fr n0 L ∧ h = h0
set_option maxRecDepth 65536 in
set_option maxHeartbeats 40000000 in
theorem rm_validN (l : Launch) (Z : State) (a0 : Array Value) (hw : ∀ d ∈ tables_1, d.before a0 Z = true) (ws : List Jvm.Cond) (aN : Addr) (v1 : Int64) (h0 : Heap) (n0 : Nat) (Z0 : n0 ≤ h0.size) (f0_S_com_example_fencing_fencing_protocol_Message_Token : Sta Z h0 "com/example/fencing/fencing/protocol/Message$Token" "NONE" "Lcom/example/fencing/fencing/protocol/Message$Token;" (.ref aN)) :
    MetFree l (⟨"com/example/fencing/fencing/protocol/Message$Token", "isValid", "(J)Z"⟩ : MethodName) (head1 (Jvm.Cond.code (⟨"com/example/fencing/fencing/protocol/Message$Token", "isValid", "(J)Z"⟩ : MethodName) prog_12_method_4_code 3 (some .boolean) :: ws) ({ frames := 0, cells := 0, slots := 0, locals := 0 } : Room)) (fun a U => a = #[(.ref aN), (.long v1)] ∧ Z.Warmed39 U.vm ∧ U.heap = h0) (fun _ _ _ _ _ => True) (fun _ U o U' => ∃ v L, o = .returned v ∧ Q_validN Z aN v1 h0 n0 v U'.heap L ∧ FrameEnd U o U' L ({ frames := 0, cells := 0, slots := 0, locals := 0 } : Room).cells ({ frames := 0, cells := 0, slots := 0, locals := 0 } : Room).slots) := by
  refine MetFree.of_bodySF (plainFor_of_name (by first | (simp [plainName, overriddenIn]; done) | decide +kernel)) hisR ?_
  intro p e s m args below meth c s₁ Bd hml0 hP hK
  obtain ⟨rfl, hZ, hh⟩ := hP
  have hx := Bd.exec
  have hby := Bd.bytes
  have hml : c.maxLocals = 3 := hml0
  have hown : s.vm.findClass "com/example/fencing/fencing/protocol/Message$Token" = some m.cls := findClass_of_methodNamed Bd.named
  have hnm := (name_of_methodNamed Bd.named Bd.method).1
  have hlk : meth.locks = false := Bd.notSynchronized
  have X0 : Stand p l e ({ frames := 0, cells := 0, slots := 0, locals := 0 } : Room) s m #[(.ref aN), (.long v1)] below meth c s₁ [] 0 0 := Stand.of_body Bd
  have e0 : s₁.heap = h0 := by rw [← hh, Bd.state]; rfl
  have N0 := Fr.nil n0
  refine Go.enter (Q := Q_validN Z aN v1 h0 n0) (C := ({ frames := 0, cells := 0, slots := 0, locals := 0 } : Room).cells) (N := ({ frames := 0, cells := 0, slots := 0, locals := 0 } : Room).slots) (ef_validN m aN v1) ?_
  show Go p e below s _ _ _ s₁ (mkF m 0 #[.val (.ref aN), .val (.long v1), .second] [])
  refine G_aloadN X0 hx (pc' := 1) rfl (hb hby d_validN_0) rfl rfl ?_
  obtain ⟨T1, X1, e1, st1⟩ := getS2 X0 hx hZ hown (host := "") (Or.inl (hw _ (List.mem_of_getElem? (i := 9) rfl))) Via.refl e0 f0_S_com_example_fencing_fencing_protocol_Message_Token (g := (mkF m 1 #[.val (.ref aN), .val (.long v1), .second] [(.ref aN)])) rfl (hb hby d_validN_1)
  refine Go.st st1 ?_
  show Go p e below s _ _ _ T1 (mkF m 4 #[.val (.ref aN), .val (.long v1), .second] [(.ref aN), (.ref aN)])
  refine Go.st (fun _ k => Jvm.RoadKit.acmp (g := (mkF m 4 #[.val (.ref aN), .val (.long v1), .second] [(.ref aN), (.ref aN)])) X1 hx rfl rfl rfl (pc0 := 4) (pc' := 7) (same := true) rfl (hb hby d_validN_4) rfl (decide_eq_true rfl) (by decide) (by decide) k) ?_
  show Go p e below s _ _ _ T1 (mkF m 7 #[.val (.ref aN), .val (.long v1), .second] [])
  refine G_lloadN X1 hx (pc' := 8) rfl (hb hby d_validN_7) rfl ?_
  refine G_lconst X1 hx (pc' := 9) rfl (hb hby d_validN_8) (z := (0 : Int64)) rfl ?_
  refine G_lcmp X1 hx (pc' := 10) rfl (hb hby d_validN_9)  ?_
  by_cases hc10_1 : v1 = (0 : Int64)
  · refine G_ifNo X1 hx (pc' := 13) rfl (hb hby d_validN_10) ((if0 _ _).trans (teq ((lw_eq _ _).2 hc10_1)).2) ?_
    refine G_iconst X1 hx (pc' := 14) rfl (hb hby d_validN_13) (z := (1 : Int32)) rfl ?_
    refine G_goto X1 hx (pc' := 35) (hb hby d_validN_14)  (by decide) (by decide) ?_
    refine Go.fin X1 hlk (v := some (.int (1 : Int32))) (fun h => by rw [Bd.returns] at h; cases h) (by decide) (by decide) ?_ (fun fs hr => retN X1 hx (t := .boolean) Bd.returns (by simp) (hb hby d_validN_35) hr)
    show Q_validN Z aN v1 h0 n0 _ T1.heap _
    rw [e1]
    exact ⟨congrArg (fun z => some (Value.int z)) (by rw [f_validN]; rw [if_pos hc10_1]), N0, rfl⟩
  · refine G_ifYes X1 hx (pc' := 17) (hb hby d_validN_10) ((if0 _ _).trans (feq (fun q => hc10_1 ((lw_eq _ _).1 q))).2) (by decide) (by decide) ?_
    refine G_iconst X1 hx (pc' := 18) rfl (hb hby d_validN_17) (z := (0 : Int32)) rfl ?_
    refine G_goto X1 hx (pc' := 35) (hb hby d_validN_18)  (by decide) (by decide) ?_
    refine Go.fin X1 hlk (v := some (.int (0 : Int32))) (fun h => by rw [Bd.returns] at h; cases h) (by decide) (by decide) ?_ (fun fs hr => retN X1 hx (t := .boolean) Bd.returns (by simp) (hb hby d_validN_35) hr)
    show Q_validN Z aN v1 h0 n0 _ T1.heap _
    rw [e1]
    exact ⟨congrArg (fun z => some (Value.int z)) (by rw [f_validN]; rw [if_neg hc10_1]), N0, rfl⟩
theorem d_validO_0 : decode prog_12_method_4_code 0 = .ok (.aload_n 0, 1) := by decide +kernel
theorem d_validO_1 : decode prog_12_method_4_code 1 = .ok (.getstatic 3, 3) := by decide +kernel
theorem d_validO_4 : decode prog_12_method_4_code 4 = .ok (.if_acmp .ne 17, 3) := by decide +kernel
theorem d_validO_21 : decode prog_12_method_4_code 21 = .ok (.lload_n 1, 1) := by decide +kernel
theorem d_validO_22 : decode prog_12_method_4_code 22 = .ok (.aload_n 0, 1) := by decide +kernel
theorem d_validO_23 : decode prog_12_method_4_code 23 = .ok (.getfield 32, 3) := by decide +kernel
theorem d_validO_26 : decode prog_12_method_4_code 26 = .ok (.lcmp, 1) := by decide +kernel
theorem d_validO_27 : decode prog_12_method_4_code 27 = .ok (.ifCond .lt 7, 3) := by decide +kernel
theorem d_validO_34 : decode prog_12_method_4_code 34 = .ok (.iconst 0, 1) := by decide +kernel
theorem d_validO_35 : decode prog_12_method_4_code 35 = .ok (.ireturn, 1) := by decide +kernel
theorem d_validO_30 : decode prog_12_method_4_code 30 = .ok (.iconst 1, 1) := by decide +kernel
theorem d_validO_31 : decode prog_12_method_4_code 31 = .ok (.goto 4, 3) := by decide +kernel
def f_validO (v1 : Int64) (t : Int64) : Int32 := (if v1 < t then (0 : Int32) else (1 : Int32))
theorem ef_validO (m : MethodId) (v0 : Addr) (v1 : Int64) : entryFrame m #[(.ref v0), (.long v1)] 3 = mkF m 0 #[.val (.ref v0), .val (.long v1), .second] [] := by first | (simp [entryFrame, mkF, argsToLocals, Value.category]; done) | rfl
def Q_validO (Z : State) (v0 : Addr) (v1 : Int64) (aN : Addr) (t : Int64) (h0 : Heap) (n0 : Nat) (v : Option Value) (h : Heap) (L : List Loc) : Prop := v = some (.int (f_validO v1 t)) ∧ Fr n0 L ∧ h = h0
set_option maxRecDepth 65536 in
set_option maxHeartbeats 40000000 in
theorem rm_validO (l : Launch) (Z : State) (a0 : Array Value) (hw : ∀ d ∈ tables_1, d.before a0 Z = true) (ws : List Jvm.Cond) (v0 : Addr) (v1 : Int64) (aN : Addr) (t : Int64) (h0 : Heap) (n0 : Nat) (Z0 : n0 ≤ h0.size) (f0_S_com_example_fencing_fencing_protocol_Message_Token : Sta Z h0 "com/example/fencing/fencing/protocol/Message$Token" "NONE" "Lcom/example/fencing/fencing/protocol/Message$Token;" (.ref aN)) (ne_v0_aN : v0 ≠ aN) (f2_F_v0 : Fld Z h0 v0 "com/example/fencing/fencing/protocol/Message$Token" "least" "J" (.long t)) :
    MetFree l (⟨"com/example/fencing/fencing/protocol/Message$Token", "isValid", "(J)Z"⟩ : MethodName) (head1 (Jvm.Cond.code (⟨"com/example/fencing/fencing/protocol/Message$Token", "isValid", "(J)Z"⟩ : MethodName) prog_12_method_4_code 3 (some .boolean) :: ws) ({ frames := 0, cells := 0, slots := 0, locals := 0 } : Room)) (fun a U => a = #[(.ref v0), (.long v1)] ∧ Z.Warmed39 U.vm ∧ U.heap = h0) (fun _ _ _ _ _ => True) (fun _ U o U' => ∃ v L, o = .returned v ∧ Q_validO Z v0 v1 aN t h0 n0 v U'.heap L ∧ FrameEnd U o U' L ({ frames := 0, cells := 0, slots := 0, locals := 0 } : Room).cells ({ frames := 0, cells := 0, slots := 0, locals := 0 } : Room).slots) := by
  refine MetFree.of_bodySF (plainFor_of_name (by first | (simp [plainName, overriddenIn]; done) | decide +kernel)) hisR ?_
  intro p e s m args below meth c s₁ Bd hml0 hP hK
  obtain ⟨rfl, hZ, hh⟩ := hP
  have hx := Bd.exec
  have hby := Bd.bytes
  have hml : c.maxLocals = 3 := hml0
  have hown : s.vm.findClass "com/example/fencing/fencing/protocol/Message$Token" = some m.cls := findClass_of_methodNamed Bd.named
  have hnm := (name_of_methodNamed Bd.named Bd.method).1
  have hlk : meth.locks = false := Bd.notSynchronized
  have X0 : Stand p l e ({ frames := 0, cells := 0, slots := 0, locals := 0 } : Room) s m #[(.ref v0), (.long v1)] below meth c s₁ [] 0 0 := Stand.of_body Bd
  have e0 : s₁.heap = h0 := by rw [← hh, Bd.state]; rfl
  have N0 := Fr.nil n0
  refine Go.enter (Q := Q_validO Z v0 v1 aN t h0 n0) (C := ({ frames := 0, cells := 0, slots := 0, locals := 0 } : Room).cells) (N := ({ frames := 0, cells := 0, slots := 0, locals := 0 } : Room).slots) (ef_validO m v0 v1) ?_
  show Go p e below s _ _ _ s₁ (mkF m 0 #[.val (.ref v0), .val (.long v1), .second] [])
  refine G_aloadN X0 hx (pc' := 1) rfl (hb hby d_validO_0) rfl rfl ?_
  obtain ⟨T2, X2, e2, st2⟩ := getS2 X0 hx hZ hown (host := "") (Or.inl (hw _ (List.mem_of_getElem? (i := 9) rfl))) Via.refl e0 f0_S_com_example_fencing_fencing_protocol_Message_Token (g := (mkF m 1 #[.val (.ref v0), .val (.long v1), .second] [(.ref v0)])) rfl (hb hby d_validO_1)
  refine Go.st st2 ?_
  show Go p e below s _ _ _ T2 (mkF m 4 #[.val (.ref v0), .val (.long v1), .second] [(.ref aN), (.ref v0)])
  refine Go.st (fun _ k => Jvm.RoadKit.acmp (g := (mkF m 4 #[.val (.ref v0), .val (.long v1), .second] [(.ref aN), (.ref v0)])) X2 hx rfl rfl rfl (pc0 := 4) (pc' := 21) (same := false) rfl (hb hby d_validO_4) rfl (decide_eq_false fun q => ne_v0_aN (Value.ref.inj q)) (by decide) (by decide) k) ?_
  show Go p e below s _ _ _ T2 (mkF m 21 #[.val (.ref v0), .val (.long v1), .second] [])
  refine G_lloadN X2 hx (pc' := 22) rfl (hb hby d_validO_21) rfl ?_
  refine G_aloadN X2 hx (pc' := 23) rfl (hb hby d_validO_22) rfl rfl ?_
  obtain ⟨T3, X3, e3, st3⟩ := getF X2 hx hZ hown (host := "") (Or.inl (hw _ (List.mem_of_getElem? (i := 12) rfl))) Via.refl e2 f2_F_v0 (g := (mkF m 23 #[.val (.ref v0), .val (.long v1), .second] [(.ref v0), (.long v1)])) rfl rfl (hb hby d_validO_23)
  refine Go.st st3 ?_
  show Go p e below s _ _ _ T3 (mkF m 26 #[.val (.ref v0), .val (.long v1), .second] [(.long t), (.long v1)])
  refine G_lcmp X3 hx (pc' := 27) rfl (hb hby d_validO_26)  ?_
  by_cases hc27_1 : v1 < t
  · refine G_ifYes X3 hx (pc' := 34) (hb hby d_validO_27) ((if0 _ _).trans (tlt ((lw_lt _ _).2 hc27_1)).1) (by decide) (by decide) ?_
    refine G_iconst X3 hx (pc' := 35) rfl (hb hby d_validO_34) (z := (0 : Int32)) rfl ?_
    refine Go.fin X3 hlk (v := some (.int (0 : Int32))) (fun h => by rw [Bd.returns] at h; cases h) (by decide) (by decide) ?_ (fun fs hr => retN X3 hx (t := .boolean) Bd.returns (by simp) (hb hby d_validO_35) hr)
    show Q_validO Z v0 v1 aN t h0 n0 _ T3.heap _
    rw [e3]
    exact ⟨congrArg (fun z => some (Value.int z)) (by rw [f_validO]; rw [if_pos hc27_1]), N0, rfl⟩
  · refine G_ifNo X3 hx (pc' := 30) rfl (hb hby d_validO_27) ((if0 _ _).trans (flt (fun q => hc27_1 ((lw_lt _ _).1 q))).1) ?_
    refine G_iconst X3 hx (pc' := 31) rfl (hb hby d_validO_30) (z := (1 : Int32)) rfl ?_
    refine G_goto X3 hx (pc' := 35) (hb hby d_validO_31)  (by decide) (by decide) ?_
    refine Go.fin X3 hlk (v := some (.int (1 : Int32))) (fun h => by rw [Bd.returns] at h; cases h) (by decide) (by decide) ?_ (fun fs hr => retN X3 hx (t := .boolean) Bd.returns (by simp) (hb hby d_validO_35) hr)
    show Q_validO Z v0 v1 aN t h0 n0 _ T3.heap _
    rw [e3]
    exact ⟨congrArg (fun z => some (Value.int z)) (by rw [f_validO]; rw [if_neg hc27_1]), N0, rfl⟩
theorem pd_0 : parseMethodDescriptor "(J)Z" = some ⟨[.long], some .boolean⟩ := by decide +kernel
def f_law (v0 : Int32) (v1 : Int64) (v2 : Int32) : Int32 := (if (v2 &&& (1 : Int32)) = (0 : Int32) then (if ((v0 &&& (2147483647 : Int32)) % (3 : Int32)) = (0 : Int32) then (if ((((v2 >>> ((1 : Int32) &&& 31)) &&& (3 : Int32)).toInt64) - (1 : Int64)) = (0 : Int64) then (if (f_validN ((((v2 >>> ((1 : Int32) &&& 31)) &&& (3 : Int32)).toInt64) - (1 : Int64))) = (1 : Int32) then (1 : Int32) else (0 : Int32)) else (if (f_validN ((((v2 >>> ((1 : Int32) &&& 31)) &&& (3 : Int32)).toInt64) - (1 : Int64))) = (0 : Int32) then (1 : Int32) else (0 : Int32))) else (if ((v0 &&& (2147483647 : Int32)) % (3 : Int32)) = (1 : Int32) then (if ((((v2 >>> ((1 : Int32) &&& 31)) &&& (3 : Int32)).toInt64) - (1 : Int64)) < (0 : Int64) then (if (f_validO ((((v2 >>> ((1 : Int32) &&& 31)) &&& (3 : Int32)).toInt64) - (1 : Int64)) (0 : Int64)) = (0 : Int32) then (1 : Int32) else (0 : Int32)) else (if (f_validO ((((v2 >>> ((1 : Int32) &&& 31)) &&& (3 : Int32)).toInt64) - (1 : Int64)) (0 : Int64)) = (1 : Int32) then (1 : Int32) else (0 : Int32))) else (if (0 : Int64) < ((((v2 >>> ((1 : Int32) &&& 31)) &&& (3 : Int32)).toInt64) - (1 : Int64)) then (if (f_validO ((((v2 >>> ((1 : Int32) &&& 31)) &&& (3 : Int32)).toInt64) - (1 : Int64)) (1 : Int64)) = (1 : Int32) then (1 : Int32) else (0 : Int32)) else (if (f_validO ((((v2 >>> ((1 : Int32) &&& 31)) &&& (3 : Int32)).toInt64) - (1 : Int64)) (1 : Int64)) = (0 : Int32) then (1 : Int32) else (0 : Int32))))) else (if ((v0 &&& (2147483647 : Int32)) % (3 : Int32)) = (0 : Int32) then (if v1 = (0 : Int64) then (if (f_validN v1) = (1 : Int32) then (1 : Int32) else (0 : Int32)) else (if (f_validN v1) = (0 : Int32) then (1 : Int32) else (0 : Int32))) else (if ((v0 &&& (2147483647 : Int32)) % (3 : Int32)) = (1 : Int32) then (if v1 < (0 : Int64) then (if (f_validO v1 (0 : Int64)) = (0 : Int32) then (1 : Int32) else (0 : Int32)) else (if (f_validO v1 (0 : Int64)) = (1 : Int32) then (1 : Int32) else (0 : Int32))) else (if (0 : Int64) < v1 then (if (f_validO v1 (1 : Int64)) = (1 : Int32) then (1 : Int32) else (0 : Int32)) else (if (f_validO v1 (1 : Int64)) = (0 : Int32) then (1 : Int32) else (0 : Int32))))))
theorem ef_law (m : MethodId) (v0 : Int32) (v1 : Int64) (v2 : Int32) : entryFrame m #[(.int v0), (.long v1), (.int v2)] maxLocals = mkF m 0 #[.val (.int v0), .val (.long v1), .second, .val (.int v2), .unset, .unset, .unset, .unset, .unset] [] := by first | (simp [entryFrame, mkF, argsToLocals, Value.category, maxLocals]; done) | rfl
def Q_law (Z : State) (v0 : Int32) (v1 : Int64) (v2 : Int32) (aN : Addr) (aK : Addr) (aG : Addr) (h0 : Heap) (n0 : Nat) (v : Option Value) (h : Heap) (L : List Loc) : Prop := v = some (.int (f_law v0 v1 v2)) ∧ Fr n0 L
set_option maxRecDepth 65536 in
set_option maxHeartbeats 40000000 in
theorem rm_law (l : Launch) (Z : State) (a0 : Array Value) (hw : ∀ d ∈ tables_1, d.before a0 Z = true) (ws : List Jvm.Cond) (v0 : Int32) (v1 : Int64) (v2 : Int32) (aN : Addr) (aK : Addr) (aG : Addr) (h0 : Heap) (n0 : Nat) (Z0 : n0 ≤ h0.size) (f0_S_com_example_fencing_fencing_protocol_Message_Token : Sta Z h0 "com/example/fencing/fencing/protocol/Message$Token" "NONE" "Lcom/example/fencing/fencing/protocol/Message$Token;" (.ref aN)) (f1_S_com_example_fencing_fencing_protocol_Message_Token : Sta Z h0 "com/example/fencing/fencing/protocol/Message$Token" "KNOWN" "Lcom/example/fencing/fencing/protocol/Message$Token;" (.ref aK)) (f2_S_com_example_fencing_fencing_protocol_Message_Token : Sta Z h0 "com/example/fencing/fencing/protocol/Message$Token" "GRANT" "Lcom/example/fencing/fencing/protocol/Message$Token;" (.ref aG)) (f3_E_aN : Exa Z h0 aN "com/example/fencing/fencing/protocol/Message$Token") (f4_E_aK : Exa Z h0 aK "com/example/fencing/fencing/protocol/Message$Token") (f5_E_aG : Exa Z h0 aG "com/example/fencing/fencing/protocol/Message$Token") (f6_F_aK : Fld Z h0 aK "com/example/fencing/fencing/protocol/Message$Token" "least" "J" (.long (0 : Int64))) (f7_F_aG : Fld Z h0 aG "com/example/fencing/fencing/protocol/Message$Token" "least" "J" (.long (1 : Int64))) (ne_aK_aN : aK ≠ aN) (ne_aG_aN : aG ≠ aN) :
    MetFree l x (head1 (Jvm.Cond.code x code maxLocals ret :: ws) room_1) (fun a U => a = #[(.int v0), (.long v1), (.int v2)] ∧ Z.Warmed39 U.vm ∧ U.heap = h0) (fun _ _ _ _ _ => True) (fun _ U o U' => ∃ v L, o = .returned v ∧ Q_law Z v0 v1 v2 aN aK aG h0 n0 v U'.heap L ∧ FrameEnd U o U' L room_1.cells room_1.slots) := by
  refine MetFree.of_bodySF (plainFor_of_name (by first | (simp [plainName, overriddenIn]; done) | decide +kernel)) hisR ?_
  intro p e s m args below meth c s₁ Bd hml0 hP hK
  obtain ⟨rfl, hZ, hh⟩ := hP
  have hx := Bd.exec
  have hby := Bd.bytes
  have hml : c.maxLocals = 9 := hml0
  have hown : s.vm.findClass "com/example/fencing/fencing/protocol/TokenIsValidPinLaw" = some m.cls := findClass_of_methodNamed Bd.named
  have hnm := (name_of_methodNamed Bd.named Bd.method).1
  have hlk : meth.locks = false := Bd.notSynchronized
  have X0 : Stand p l e room_1 s m #[(.int v0), (.long v1), (.int v2)] below meth c s₁ [] 0 0 := Stand.of_body Bd
  have e0 : s₁.heap = h0 := by rw [← hh, Bd.state]; rfl
  have N0 := Fr.nil n0
  refine Go.enter (Q := Q_law Z v0 v1 v2 aN aK aG h0 n0) (C := room_1.cells) (N := room_1.slots) (ef_law m v0 v1 v2) ?_
  show Go p e below s _ _ _ s₁ (mkF m 0 #[.val (.int v0), .val (.long v1), .second, .val (.int v2), .unset, .unset, .unset, .unset, .unset] [])
  refine G_iloadN X0 hx (pc' := 1) rfl (hb hby at_0) rfl ?_
  refine G_ldc X0 hx (pc' := 3) rfl hown (mvT hZ (hw _ (List.mem_of_getElem? (i := 0) rfl))) (hb hby at_1) ?_
  refine G_iand X0 hx (pc' := 4) rfl (hb hby at_3)  ?_
  refine G_iconst X0 hx (pc' := 5) rfl (hb hby at_4) (z := (3 : Int32)) rfl ?_
  refine G_irem X0 hx (pc' := 6) rfl (hb hby at_5) (by decide) ?_
  refine G_istore X0 hx (pc' := 8) rfl (hb hby at_6) (L' := #[.val (.int v0), .val (.long v1), .second, .val (.int v2), .val (.int ((v0 &&& (2147483647 : Int32)) % (3 : Int32))), .unset, .unset, .unset, .unset]) rfl ?_
  refine G_iloadN X0 hx (pc' := 9) rfl (hb hby at_8) rfl ?_
  refine G_iconst X0 hx (pc' := 10) rfl (hb hby at_9) (z := (1 : Int32)) rfl ?_
  refine G_iand X0 hx (pc' := 11) rfl (hb hby at_10)  ?_
  by_cases hc11_1 : (v2 &&& (1 : Int32)) = (0 : Int32)
  · refine G_ifYes X0 hx (pc' := 20) (hb hby at_11) ((if0 _ _).trans (teq hc11_1).1) (by decide) (by decide) ?_
    refine G_iloadN X0 hx (pc' := 21) rfl (hb hby at_20) rfl ?_
    refine G_iconst X0 hx (pc' := 22) rfl (hb hby at_21) (z := (1 : Int32)) rfl ?_
    refine G_ishr X0 hx (pc' := 23) rfl (hb hby at_22)  ?_
    refine G_iconst X0 hx (pc' := 24) rfl (hb hby at_23) (z := (3 : Int32)) rfl ?_
    refine G_iand X0 hx (pc' := 25) rfl (hb hby at_24)  ?_
    refine G_i2l X0 hx (pc' := 26) rfl (hb hby at_25)  ?_
    refine G_lconst X0 hx (pc' := 27) rfl (hb hby at_26) (z := (1 : Int64)) rfl ?_
    refine G_lsub X0 hx (pc' := 28) rfl (hb hby at_27)  ?_
    refine G_lstore X0 hx (pc' := 30) rfl (hb hby at_28) (L' := #[.val (.int v0), .val (.long v1), .second, .val (.int v2), .val (.int ((v0 &&& (2147483647 : Int32)) % (3 : Int32))), .val (.long ((((v2 >>> ((1 : Int32) &&& 31)) &&& (3 : Int32)).toInt64) - (1 : Int64))), .second, .unset, .unset]) rfl ?_
    refine G_iload X0 hx (pc' := 32) rfl (hb hby at_30) rfl ?_
    by_cases hc32_2 : ((v0 &&& (2147483647 : Int32)) % (3 : Int32)) = (0 : Int32)
    · refine G_ifNo X0 hx (pc' := 35) rfl (hb hby at_32) ((if0 _ _).trans (teq hc32_2).2) ?_
      obtain ⟨T4, X4, e4, st4⟩ := getS2 X0 hx hZ hown (host := "") (Or.inl (hw _ (List.mem_of_getElem? (i := 1) rfl))) Via.refl e0 f0_S_com_example_fencing_fencing_protocol_Message_Token (g := (mkF m 35 #[.val (.int v0), .val (.long v1), .second, .val (.int v2), .val (.int ((v0 &&& (2147483647 : Int32)) % (3 : Int32))), .val (.long ((((v2 >>> ((1 : Int32) &&& 31)) &&& (3 : Int32)).toInt64) - (1 : Int64))), .second, .unset, .unset] [])) rfl (hb hby at_35)
      refine Go.st st4 ?_
      show Go p e below s _ _ _ T4 (mkF m 38 #[.val (.int v0), .val (.long v1), .second, .val (.int v2), .val (.int ((v0 &&& (2147483647 : Int32)) % (3 : Int32))), .val (.long ((((v2 >>> ((1 : Int32) &&& 31)) &&& (3 : Int32)).toInt64) - (1 : Int64))), .second, .unset, .unset] [(.ref aN)])
      refine G_astore X4 hx (pc' := 40) rfl (hb hby at_38) rfl (L' := #[.val (.int v0), .val (.long v1), .second, .val (.int v2), .val (.int ((v0 &&& (2147483647 : Int32)) % (3 : Int32))), .val (.long ((((v2 >>> ((1 : Int32) &&& 31)) &&& (3 : Int32)).toInt64) - (1 : Int64))), .second, .val (.ref aN), .unset]) rfl ?_
      refine G_lload X4 hx (pc' := 42) rfl (hb hby at_40) rfl ?_
      refine G_lconst X4 hx (pc' := 43) rfl (hb hby at_42) (z := (0 : Int64)) rfl ?_
      refine G_lcmp X4 hx (pc' := 44) rfl (hb hby at_43)  ?_
      by_cases hc44_3 : ((((v2 >>> ((1 : Int32) &&& 31)) &&& (3 : Int32)).toInt64) - (1 : Int64)) = (0 : Int64)
      · refine G_ifNo X4 hx (pc' := 47) rfl (hb hby at_44) ((if0 _ _).trans (teq ((lw_eq _ _).2 hc44_3)).2) ?_
        refine G_iconst X4 hx (pc' := 48) rfl (hb hby at_47) (z := (1 : Int32)) rfl ?_
        refine G_goto X4 hx (pc' := 52) (hb hby at_48)  (by decide) (by decide) ?_
        refine G_istore X4 hx (pc' := 54) rfl (hb hby at_52) (L' := #[.val (.int v0), .val (.long v1), .second, .val (.int v2), .val (.int ((v0 &&& (2147483647 : Int32)) % (3 : Int32))), .val (.long ((((v2 >>> ((1 : Int32) &&& 31)) &&& (3 : Int32)).toInt64) - (1 : Int64))), .second, .val (.ref aN), .val (.int (1 : Int32))]) rfl ?_
        refine G_goto X4 hx (pc' := 104) (hb hby at_54)  (by decide) (by decide) ?_
        refine G_aload X4 hx (pc' := 106) rfl (hb hby at_104) rfl rfl ?_
        refine G_lload X4 hx (pc' := 108) rfl (hb hby at_106) rfl ?_
        obtain ⟨cq5, kq5, q5a, q5b, q5c⟩ := isOf hZ e4 f3_E_aN
        obtain ⟨_, _, ⟨T5, L5, k5, n5⟩, -, X5, ⟨Lc5, hQ5, l5, y5, z5⟩, st5⟩ := X4.virtualBack hx (y := (⟨"com/example/fencing/fencing/protocol/Message$Token", "isValid", "(J)Z"⟩ : MethodName)) (z := (⟨"com/example/fencing/fencing/protocol/Message$Token", "isValid", "(J)Z"⟩ : MethodName)) hown (mvT hZ (hw _ (List.mem_of_getElem? (i := 4) rfl))) (mvT hZ (hw _ (List.mem_of_getElem? (i := 5) rfl))) (notFace_of_selects (args := #[]) (mvT hZ (hw _ (List.mem_of_getElem? (i := 7) rfl)))) (mvT hZ (hw _ (List.mem_of_getElem? (i := 7) rfl))) (mvT hZ (hw _ (List.mem_of_getElem? (i := 6) rfl))) (by decide) (backOf (W := 0) (rm_validN l Z a0 hw [] aN ((((v2 >>> ((1 : Int32) &&& 31)) &&& (3 : Int32)).toInt64) - (1 : Int64)) h0 n0 Z0 f0_S_com_example_fencing_fencing_protocol_Message_Token) hZ (hw _ (List.mem_of_getElem? (i := 8) rfl)) (hw _ (List.mem_of_getElem? (i := 2) rfl)) (by decide) (by decide)) q5a q5c (g := (mkF m 108 #[.val (.int v0), .val (.long v1), .second, .val (.int v2), .val (.int ((v0 &&& (2147483647 : Int32)) % (3 : Int32))), .val (.long ((((v2 >>> ((1 : Int32) &&& 31)) &&& (3 : Int32)).toInt64) - (1 : Int64))), .second, .val (.ref aN), .val (.int (1 : Int32))] [(.long ((((v2 >>> ((1 : Int32) &&& 31)) &&& (3 : Int32)).toInt64) - (1 : Int64))), (.ref aN)])) rfl (by rw [hml]; rfl) (Steps.refl _) (argsL := [(.long ((((v2 >>> ((1 : Int32) &&& 31)) &&& (3 : Int32)).toInt64) - (1 : Int64)))]) (rest := []) (lenOf pd_0 rfl) rfl (by show 2 * 0 + _ ≤ _; exact Nat.le_of_eq rfl) (hb hby at_108) (fun _ _ => ⟨rfl, e4, (by decide : 0 + 0 ≤ _), (by decide : 0 + 0 ≤ _)⟩)
        dsimp only [Pt.U, Pt.locs, Pt.cells, Pt.slots] at X5 l5 y5 z5 st5 hQ5
        subst l5 y5 z5
        obtain ⟨rfl, N5q, e5⟩ := hQ5
        have N5 := Fr.app N0 N5q
        refine Go.st (fun _ k => st5.trans k) ?_
        show Go p e below s _ _ _ T5 (mkF m 111 #[.val (.int v0), .val (.long v1), .second, .val (.int v2), .val (.int ((v0 &&& (2147483647 : Int32)) % (3 : Int32))), .val (.long ((((v2 >>> ((1 : Int32) &&& 31)) &&& (3 : Int32)).toInt64) - (1 : Int64))), .second, .val (.ref aN), .val (.int (1 : Int32))] [(.int (f_validN ((((v2 >>> ((1 : Int32) &&& 31)) &&& (3 : Int32)).toInt64) - (1 : Int64))))])
        refine G_iload X5 hx (pc' := 113) rfl (hb hby at_111) rfl ?_
        by_cases hc113_4 : (f_validN ((((v2 >>> ((1 : Int32) &&& 31)) &&& (3 : Int32)).toInt64) - (1 : Int64))) = (1 : Int32)
        · refine G_icmpNo X5 hx (pc' := 116) rfl (hb hby at_113) (teq hc113_4).2 ?_
          refine G_iconst X5 hx (pc' := 117) rfl (hb hby at_116) (z := (1 : Int32)) rfl ?_
          refine G_goto X5 hx (pc' := 121) (hb hby at_117)  (by decide) (by decide) ?_
          refine Go.fin X5 hlk (v := some (.int (1 : Int32))) (fun h => by rw [Bd.returns] at h; cases h) (by decide) (by decide) ?_ (fun fs hr => retN X5 hx (t := .boolean) Bd.returns (by simp) (hb hby at_121) hr)
          show Q_law Z v0 v1 v2 aN aK aG h0 n0 _ T5.heap _
          rw [e5]
          exact ⟨congrArg (fun z => some (Value.int z)) (by rw [f_law]; rw [if_pos hc11_1, if_pos hc32_2, if_pos hc44_3, if_pos hc113_4]), N5⟩
        · refine G_icmpYes X5 hx (pc' := 120) (hb hby at_113) (feq hc113_4).2 (by decide) (by decide) ?_
          refine G_iconst X5 hx (pc' := 121) rfl (hb hby at_120) (z := (0 : Int32)) rfl ?_
          refine Go.fin X5 hlk (v := some (.int (0 : Int32))) (fun h => by rw [Bd.returns] at h; cases h) (by decide) (by decide) ?_ (fun fs hr => retN X5 hx (t := .boolean) Bd.returns (by simp) (hb hby at_121) hr)
          show Q_law Z v0 v1 v2 aN aK aG h0 n0 _ T5.heap _
          rw [e5]
          exact ⟨congrArg (fun z => some (Value.int z)) (by rw [f_law]; rw [if_pos hc11_1, if_pos hc32_2, if_pos hc44_3, if_neg hc113_4]), N5⟩
      · refine G_ifYes X4 hx (pc' := 51) (hb hby at_44) ((if0 _ _).trans (feq (fun q => hc44_3 ((lw_eq _ _).1 q))).2) (by decide) (by decide) ?_
        refine G_iconst X4 hx (pc' := 52) rfl (hb hby at_51) (z := (0 : Int32)) rfl ?_
        refine G_istore X4 hx (pc' := 54) rfl (hb hby at_52) (L' := #[.val (.int v0), .val (.long v1), .second, .val (.int v2), .val (.int ((v0 &&& (2147483647 : Int32)) % (3 : Int32))), .val (.long ((((v2 >>> ((1 : Int32) &&& 31)) &&& (3 : Int32)).toInt64) - (1 : Int64))), .second, .val (.ref aN), .val (.int (0 : Int32))]) rfl ?_
        refine G_goto X4 hx (pc' := 104) (hb hby at_54)  (by decide) (by decide) ?_
        refine G_aload X4 hx (pc' := 106) rfl (hb hby at_104) rfl rfl ?_
        refine G_lload X4 hx (pc' := 108) rfl (hb hby at_106) rfl ?_
        obtain ⟨cq6, kq6, q6a, q6b, q6c⟩ := isOf hZ e4 f3_E_aN
        obtain ⟨_, _, ⟨T6, L6, k6, n6⟩, -, X6, ⟨Lc6, hQ6, l6, y6, z6⟩, st6⟩ := X4.virtualBack hx (y := (⟨"com/example/fencing/fencing/protocol/Message$Token", "isValid", "(J)Z"⟩ : MethodName)) (z := (⟨"com/example/fencing/fencing/protocol/Message$Token", "isValid", "(J)Z"⟩ : MethodName)) hown (mvT hZ (hw _ (List.mem_of_getElem? (i := 4) rfl))) (mvT hZ (hw _ (List.mem_of_getElem? (i := 5) rfl))) (notFace_of_selects (args := #[]) (mvT hZ (hw _ (List.mem_of_getElem? (i := 7) rfl)))) (mvT hZ (hw _ (List.mem_of_getElem? (i := 7) rfl))) (mvT hZ (hw _ (List.mem_of_getElem? (i := 6) rfl))) (by decide) (backOf (W := 0) (rm_validN l Z a0 hw [] aN ((((v2 >>> ((1 : Int32) &&& 31)) &&& (3 : Int32)).toInt64) - (1 : Int64)) h0 n0 Z0 f0_S_com_example_fencing_fencing_protocol_Message_Token) hZ (hw _ (List.mem_of_getElem? (i := 8) rfl)) (hw _ (List.mem_of_getElem? (i := 2) rfl)) (by decide) (by decide)) q6a q6c (g := (mkF m 108 #[.val (.int v0), .val (.long v1), .second, .val (.int v2), .val (.int ((v0 &&& (2147483647 : Int32)) % (3 : Int32))), .val (.long ((((v2 >>> ((1 : Int32) &&& 31)) &&& (3 : Int32)).toInt64) - (1 : Int64))), .second, .val (.ref aN), .val (.int (0 : Int32))] [(.long ((((v2 >>> ((1 : Int32) &&& 31)) &&& (3 : Int32)).toInt64) - (1 : Int64))), (.ref aN)])) rfl (by rw [hml]; rfl) (Steps.refl _) (argsL := [(.long ((((v2 >>> ((1 : Int32) &&& 31)) &&& (3 : Int32)).toInt64) - (1 : Int64)))]) (rest := []) (lenOf pd_0 rfl) rfl (by show 2 * 0 + _ ≤ _; exact Nat.le_of_eq rfl) (hb hby at_108) (fun _ _ => ⟨rfl, e4, (by decide : 0 + 0 ≤ _), (by decide : 0 + 0 ≤ _)⟩)
        dsimp only [Pt.U, Pt.locs, Pt.cells, Pt.slots] at X6 l6 y6 z6 st6 hQ6
        subst l6 y6 z6
        obtain ⟨rfl, N6q, e6⟩ := hQ6
        have N6 := Fr.app N0 N6q
        refine Go.st (fun _ k => st6.trans k) ?_
        show Go p e below s _ _ _ T6 (mkF m 111 #[.val (.int v0), .val (.long v1), .second, .val (.int v2), .val (.int ((v0 &&& (2147483647 : Int32)) % (3 : Int32))), .val (.long ((((v2 >>> ((1 : Int32) &&& 31)) &&& (3 : Int32)).toInt64) - (1 : Int64))), .second, .val (.ref aN), .val (.int (0 : Int32))] [(.int (f_validN ((((v2 >>> ((1 : Int32) &&& 31)) &&& (3 : Int32)).toInt64) - (1 : Int64))))])
        refine G_iload X6 hx (pc' := 113) rfl (hb hby at_111) rfl ?_
        by_cases hc113_5 : (f_validN ((((v2 >>> ((1 : Int32) &&& 31)) &&& (3 : Int32)).toInt64) - (1 : Int64))) = (0 : Int32)
        · refine G_icmpNo X6 hx (pc' := 116) rfl (hb hby at_113) (teq hc113_5).2 ?_
          refine G_iconst X6 hx (pc' := 117) rfl (hb hby at_116) (z := (1 : Int32)) rfl ?_
          refine G_goto X6 hx (pc' := 121) (hb hby at_117)  (by decide) (by decide) ?_
          refine Go.fin X6 hlk (v := some (.int (1 : Int32))) (fun h => by rw [Bd.returns] at h; cases h) (by decide) (by decide) ?_ (fun fs hr => retN X6 hx (t := .boolean) Bd.returns (by simp) (hb hby at_121) hr)
          show Q_law Z v0 v1 v2 aN aK aG h0 n0 _ T6.heap _
          rw [e6]
          exact ⟨congrArg (fun z => some (Value.int z)) (by rw [f_law]; rw [if_pos hc11_1, if_pos hc32_2, if_neg hc44_3, if_pos hc113_5]), N6⟩
        · refine G_icmpYes X6 hx (pc' := 120) (hb hby at_113) (feq hc113_5).2 (by decide) (by decide) ?_
          refine G_iconst X6 hx (pc' := 121) rfl (hb hby at_120) (z := (0 : Int32)) rfl ?_
          refine Go.fin X6 hlk (v := some (.int (0 : Int32))) (fun h => by rw [Bd.returns] at h; cases h) (by decide) (by decide) ?_ (fun fs hr => retN X6 hx (t := .boolean) Bd.returns (by simp) (hb hby at_121) hr)
          show Q_law Z v0 v1 v2 aN aK aG h0 n0 _ T6.heap _
          rw [e6]
          exact ⟨congrArg (fun z => some (Value.int z)) (by rw [f_law]; rw [if_pos hc11_1, if_pos hc32_2, if_neg hc44_3, if_neg hc113_5]), N6⟩
    · refine G_ifYes X0 hx (pc' := 57) (hb hby at_32) ((if0 _ _).trans (feq hc32_2).2) (by decide) (by decide) ?_
      refine G_iload X0 hx (pc' := 59) rfl (hb hby at_57) rfl ?_
      refine G_iconst X0 hx (pc' := 60) rfl (hb hby at_59) (z := (1 : Int32)) rfl ?_
      by_cases hc60_6 : ((v0 &&& (2147483647 : Int32)) % (3 : Int32)) = (1 : Int32)
      · refine G_icmpNo X0 hx (pc' := 63) rfl (hb hby at_60) (teq hc60_6).2 ?_
        obtain ⟨T7, X7, e7, st7⟩ := getS2 X0 hx hZ hown (host := "") (Or.inl (hw _ (List.mem_of_getElem? (i := 10) rfl))) Via.refl e0 f1_S_com_example_fencing_fencing_protocol_Message_Token (g := (mkF m 63 #[.val (.int v0), .val (.long v1), .second, .val (.int v2), .val (.int ((v0 &&& (2147483647 : Int32)) % (3 : Int32))), .val (.long ((((v2 >>> ((1 : Int32) &&& 31)) &&& (3 : Int32)).toInt64) - (1 : Int64))), .second, .unset, .unset] [])) rfl (hb hby at_63)
        refine Go.st st7 ?_
        show Go p e below s _ _ _ T7 (mkF m 66 #[.val (.int v0), .val (.long v1), .second, .val (.int v2), .val (.int ((v0 &&& (2147483647 : Int32)) % (3 : Int32))), .val (.long ((((v2 >>> ((1 : Int32) &&& 31)) &&& (3 : Int32)).toInt64) - (1 : Int64))), .second, .unset, .unset] [(.ref aK)])
        refine G_astore X7 hx (pc' := 68) rfl (hb hby at_66) rfl (L' := #[.val (.int v0), .val (.long v1), .second, .val (.int v2), .val (.int ((v0 &&& (2147483647 : Int32)) % (3 : Int32))), .val (.long ((((v2 >>> ((1 : Int32) &&& 31)) &&& (3 : Int32)).toInt64) - (1 : Int64))), .second, .val (.ref aK), .unset]) rfl ?_
        refine G_lload X7 hx (pc' := 70) rfl (hb hby at_68) rfl ?_
        refine G_lconst X7 hx (pc' := 71) rfl (hb hby at_70) (z := (0 : Int64)) rfl ?_
        refine G_lcmp X7 hx (pc' := 72) rfl (hb hby at_71)  ?_
        by_cases hc72_7 : ((((v2 >>> ((1 : Int32) &&& 31)) &&& (3 : Int32)).toInt64) - (1 : Int64)) < (0 : Int64)
        · refine G_ifYes X7 hx (pc' := 79) (hb hby at_72) ((if0 _ _).trans (tlt ((lw_lt _ _).2 hc72_7)).1) (by decide) (by decide) ?_
          refine G_iconst X7 hx (pc' := 80) rfl (hb hby at_79) (z := (0 : Int32)) rfl ?_
          refine G_istore X7 hx (pc' := 82) rfl (hb hby at_80) (L' := #[.val (.int v0), .val (.long v1), .second, .val (.int v2), .val (.int ((v0 &&& (2147483647 : Int32)) % (3 : Int32))), .val (.long ((((v2 >>> ((1 : Int32) &&& 31)) &&& (3 : Int32)).toInt64) - (1 : Int64))), .second, .val (.ref aK), .val (.int (0 : Int32))]) rfl ?_
          refine G_goto X7 hx (pc' := 104) (hb hby at_82)  (by decide) (by decide) ?_
          refine G_aload X7 hx (pc' := 106) rfl (hb hby at_104) rfl rfl ?_
          refine G_lload X7 hx (pc' := 108) rfl (hb hby at_106) rfl ?_
          obtain ⟨cq8, kq8, q8a, q8b, q8c⟩ := isOf hZ e7 f4_E_aK
          obtain ⟨_, _, ⟨T8, L8, k8, n8⟩, -, X8, ⟨Lc8, hQ8, l8, y8, z8⟩, st8⟩ := X7.virtualBack hx (y := (⟨"com/example/fencing/fencing/protocol/Message$Token", "isValid", "(J)Z"⟩ : MethodName)) (z := (⟨"com/example/fencing/fencing/protocol/Message$Token", "isValid", "(J)Z"⟩ : MethodName)) hown (mvT hZ (hw _ (List.mem_of_getElem? (i := 4) rfl))) (mvT hZ (hw _ (List.mem_of_getElem? (i := 5) rfl))) (notFace_of_selects (args := #[]) (mvT hZ (hw _ (List.mem_of_getElem? (i := 7) rfl)))) (mvT hZ (hw _ (List.mem_of_getElem? (i := 7) rfl))) (mvT hZ (hw _ (List.mem_of_getElem? (i := 6) rfl))) (by decide) (backOf (W := 0) (rm_validO l Z a0 hw [] aK ((((v2 >>> ((1 : Int32) &&& 31)) &&& (3 : Int32)).toInt64) - (1 : Int64)) aN (0 : Int64) h0 n0 Z0 f0_S_com_example_fencing_fencing_protocol_Message_Token ne_aK_aN f6_F_aK) hZ (hw _ (List.mem_of_getElem? (i := 8) rfl)) (hw _ (List.mem_of_getElem? (i := 2) rfl)) (by decide) (by decide)) q8a q8c (g := (mkF m 108 #[.val (.int v0), .val (.long v1), .second, .val (.int v2), .val (.int ((v0 &&& (2147483647 : Int32)) % (3 : Int32))), .val (.long ((((v2 >>> ((1 : Int32) &&& 31)) &&& (3 : Int32)).toInt64) - (1 : Int64))), .second, .val (.ref aK), .val (.int (0 : Int32))] [(.long ((((v2 >>> ((1 : Int32) &&& 31)) &&& (3 : Int32)).toInt64) - (1 : Int64))), (.ref aK)])) rfl (by rw [hml]; rfl) (Steps.refl _) (argsL := [(.long ((((v2 >>> ((1 : Int32) &&& 31)) &&& (3 : Int32)).toInt64) - (1 : Int64)))]) (rest := []) (lenOf pd_0 rfl) rfl (by show 2 * 0 + _ ≤ _; exact Nat.le_of_eq rfl) (hb hby at_108) (fun _ _ => ⟨rfl, e7, (by decide : 0 + 0 ≤ _), (by decide : 0 + 0 ≤ _)⟩)
          dsimp only [Pt.U, Pt.locs, Pt.cells, Pt.slots] at X8 l8 y8 z8 st8 hQ8
          subst l8 y8 z8
          obtain ⟨rfl, N8q, e8⟩ := hQ8
          have N8 := Fr.app N0 N8q
          refine Go.st (fun _ k => st8.trans k) ?_
          show Go p e below s _ _ _ T8 (mkF m 111 #[.val (.int v0), .val (.long v1), .second, .val (.int v2), .val (.int ((v0 &&& (2147483647 : Int32)) % (3 : Int32))), .val (.long ((((v2 >>> ((1 : Int32) &&& 31)) &&& (3 : Int32)).toInt64) - (1 : Int64))), .second, .val (.ref aK), .val (.int (0 : Int32))] [(.int (f_validO ((((v2 >>> ((1 : Int32) &&& 31)) &&& (3 : Int32)).toInt64) - (1 : Int64)) (0 : Int64)))])
          refine G_iload X8 hx (pc' := 113) rfl (hb hby at_111) rfl ?_
          by_cases hc113_8 : (f_validO ((((v2 >>> ((1 : Int32) &&& 31)) &&& (3 : Int32)).toInt64) - (1 : Int64)) (0 : Int64)) = (0 : Int32)
          · refine G_icmpNo X8 hx (pc' := 116) rfl (hb hby at_113) (teq hc113_8).2 ?_
            refine G_iconst X8 hx (pc' := 117) rfl (hb hby at_116) (z := (1 : Int32)) rfl ?_
            refine G_goto X8 hx (pc' := 121) (hb hby at_117)  (by decide) (by decide) ?_
            refine Go.fin X8 hlk (v := some (.int (1 : Int32))) (fun h => by rw [Bd.returns] at h; cases h) (by decide) (by decide) ?_ (fun fs hr => retN X8 hx (t := .boolean) Bd.returns (by simp) (hb hby at_121) hr)
            show Q_law Z v0 v1 v2 aN aK aG h0 n0 _ T8.heap _
            rw [e8]
            exact ⟨congrArg (fun z => some (Value.int z)) (by rw [f_law]; rw [if_pos hc11_1, if_neg hc32_2, if_pos hc60_6, if_pos hc72_7, if_pos hc113_8]), N8⟩
          · refine G_icmpYes X8 hx (pc' := 120) (hb hby at_113) (feq hc113_8).2 (by decide) (by decide) ?_
            refine G_iconst X8 hx (pc' := 121) rfl (hb hby at_120) (z := (0 : Int32)) rfl ?_
            refine Go.fin X8 hlk (v := some (.int (0 : Int32))) (fun h => by rw [Bd.returns] at h; cases h) (by decide) (by decide) ?_ (fun fs hr => retN X8 hx (t := .boolean) Bd.returns (by simp) (hb hby at_121) hr)
            show Q_law Z v0 v1 v2 aN aK aG h0 n0 _ T8.heap _
            rw [e8]
            exact ⟨congrArg (fun z => some (Value.int z)) (by rw [f_law]; rw [if_pos hc11_1, if_neg hc32_2, if_pos hc60_6, if_pos hc72_7, if_neg hc113_8]), N8⟩
        · refine G_ifNo X7 hx (pc' := 75) rfl (hb hby at_72) ((if0 _ _).trans (flt (fun q => hc72_7 ((lw_lt _ _).1 q))).1) ?_
          refine G_iconst X7 hx (pc' := 76) rfl (hb hby at_75) (z := (1 : Int32)) rfl ?_
          refine G_goto X7 hx (pc' := 80) (hb hby at_76)  (by decide) (by decide) ?_
          refine G_istore X7 hx (pc' := 82) rfl (hb hby at_80) (L' := #[.val (.int v0), .val (.long v1), .second, .val (.int v2), .val (.int ((v0 &&& (2147483647 : Int32)) % (3 : Int32))), .val (.long ((((v2 >>> ((1 : Int32) &&& 31)) &&& (3 : Int32)).toInt64) - (1 : Int64))), .second, .val (.ref aK), .val (.int (1 : Int32))]) rfl ?_
          refine G_goto X7 hx (pc' := 104) (hb hby at_82)  (by decide) (by decide) ?_
          refine G_aload X7 hx (pc' := 106) rfl (hb hby at_104) rfl rfl ?_
          refine G_lload X7 hx (pc' := 108) rfl (hb hby at_106) rfl ?_
          obtain ⟨cq9, kq9, q9a, q9b, q9c⟩ := isOf hZ e7 f4_E_aK
          obtain ⟨_, _, ⟨T9, L9, k9, n9⟩, -, X9, ⟨Lc9, hQ9, l9, y9, z9⟩, st9⟩ := X7.virtualBack hx (y := (⟨"com/example/fencing/fencing/protocol/Message$Token", "isValid", "(J)Z"⟩ : MethodName)) (z := (⟨"com/example/fencing/fencing/protocol/Message$Token", "isValid", "(J)Z"⟩ : MethodName)) hown (mvT hZ (hw _ (List.mem_of_getElem? (i := 4) rfl))) (mvT hZ (hw _ (List.mem_of_getElem? (i := 5) rfl))) (notFace_of_selects (args := #[]) (mvT hZ (hw _ (List.mem_of_getElem? (i := 7) rfl)))) (mvT hZ (hw _ (List.mem_of_getElem? (i := 7) rfl))) (mvT hZ (hw _ (List.mem_of_getElem? (i := 6) rfl))) (by decide) (backOf (W := 0) (rm_validO l Z a0 hw [] aK ((((v2 >>> ((1 : Int32) &&& 31)) &&& (3 : Int32)).toInt64) - (1 : Int64)) aN (0 : Int64) h0 n0 Z0 f0_S_com_example_fencing_fencing_protocol_Message_Token ne_aK_aN f6_F_aK) hZ (hw _ (List.mem_of_getElem? (i := 8) rfl)) (hw _ (List.mem_of_getElem? (i := 2) rfl)) (by decide) (by decide)) q9a q9c (g := (mkF m 108 #[.val (.int v0), .val (.long v1), .second, .val (.int v2), .val (.int ((v0 &&& (2147483647 : Int32)) % (3 : Int32))), .val (.long ((((v2 >>> ((1 : Int32) &&& 31)) &&& (3 : Int32)).toInt64) - (1 : Int64))), .second, .val (.ref aK), .val (.int (1 : Int32))] [(.long ((((v2 >>> ((1 : Int32) &&& 31)) &&& (3 : Int32)).toInt64) - (1 : Int64))), (.ref aK)])) rfl (by rw [hml]; rfl) (Steps.refl _) (argsL := [(.long ((((v2 >>> ((1 : Int32) &&& 31)) &&& (3 : Int32)).toInt64) - (1 : Int64)))]) (rest := []) (lenOf pd_0 rfl) rfl (by show 2 * 0 + _ ≤ _; exact Nat.le_of_eq rfl) (hb hby at_108) (fun _ _ => ⟨rfl, e7, (by decide : 0 + 0 ≤ _), (by decide : 0 + 0 ≤ _)⟩)
          dsimp only [Pt.U, Pt.locs, Pt.cells, Pt.slots] at X9 l9 y9 z9 st9 hQ9
          subst l9 y9 z9
          obtain ⟨rfl, N9q, e9⟩ := hQ9
          have N9 := Fr.app N0 N9q
          refine Go.st (fun _ k => st9.trans k) ?_
          show Go p e below s _ _ _ T9 (mkF m 111 #[.val (.int v0), .val (.long v1), .second, .val (.int v2), .val (.int ((v0 &&& (2147483647 : Int32)) % (3 : Int32))), .val (.long ((((v2 >>> ((1 : Int32) &&& 31)) &&& (3 : Int32)).toInt64) - (1 : Int64))), .second, .val (.ref aK), .val (.int (1 : Int32))] [(.int (f_validO ((((v2 >>> ((1 : Int32) &&& 31)) &&& (3 : Int32)).toInt64) - (1 : Int64)) (0 : Int64)))])
          refine G_iload X9 hx (pc' := 113) rfl (hb hby at_111) rfl ?_
          by_cases hc113_9 : (f_validO ((((v2 >>> ((1 : Int32) &&& 31)) &&& (3 : Int32)).toInt64) - (1 : Int64)) (0 : Int64)) = (1 : Int32)
          · refine G_icmpNo X9 hx (pc' := 116) rfl (hb hby at_113) (teq hc113_9).2 ?_
            refine G_iconst X9 hx (pc' := 117) rfl (hb hby at_116) (z := (1 : Int32)) rfl ?_
            refine G_goto X9 hx (pc' := 121) (hb hby at_117)  (by decide) (by decide) ?_
            refine Go.fin X9 hlk (v := some (.int (1 : Int32))) (fun h => by rw [Bd.returns] at h; cases h) (by decide) (by decide) ?_ (fun fs hr => retN X9 hx (t := .boolean) Bd.returns (by simp) (hb hby at_121) hr)
            show Q_law Z v0 v1 v2 aN aK aG h0 n0 _ T9.heap _
            rw [e9]
            exact ⟨congrArg (fun z => some (Value.int z)) (by rw [f_law]; rw [if_pos hc11_1, if_neg hc32_2, if_pos hc60_6, if_neg hc72_7, if_pos hc113_9]), N9⟩
          · refine G_icmpYes X9 hx (pc' := 120) (hb hby at_113) (feq hc113_9).2 (by decide) (by decide) ?_
            refine G_iconst X9 hx (pc' := 121) rfl (hb hby at_120) (z := (0 : Int32)) rfl ?_
            refine Go.fin X9 hlk (v := some (.int (0 : Int32))) (fun h => by rw [Bd.returns] at h; cases h) (by decide) (by decide) ?_ (fun fs hr => retN X9 hx (t := .boolean) Bd.returns (by simp) (hb hby at_121) hr)
            show Q_law Z v0 v1 v2 aN aK aG h0 n0 _ T9.heap _
            rw [e9]
            exact ⟨congrArg (fun z => some (Value.int z)) (by rw [f_law]; rw [if_pos hc11_1, if_neg hc32_2, if_pos hc60_6, if_neg hc72_7, if_neg hc113_9]), N9⟩
      · refine G_icmpYes X0 hx (pc' := 85) (hb hby at_60) (feq hc60_6).2 (by decide) (by decide) ?_
        obtain ⟨T10, X10, e10, st10⟩ := getS2 X0 hx hZ hown (host := "") (Or.inl (hw _ (List.mem_of_getElem? (i := 14) rfl))) Via.refl e0 f2_S_com_example_fencing_fencing_protocol_Message_Token (g := (mkF m 85 #[.val (.int v0), .val (.long v1), .second, .val (.int v2), .val (.int ((v0 &&& (2147483647 : Int32)) % (3 : Int32))), .val (.long ((((v2 >>> ((1 : Int32) &&& 31)) &&& (3 : Int32)).toInt64) - (1 : Int64))), .second, .unset, .unset] [])) rfl (hb hby at_85)
        refine Go.st st10 ?_
        show Go p e below s _ _ _ T10 (mkF m 88 #[.val (.int v0), .val (.long v1), .second, .val (.int v2), .val (.int ((v0 &&& (2147483647 : Int32)) % (3 : Int32))), .val (.long ((((v2 >>> ((1 : Int32) &&& 31)) &&& (3 : Int32)).toInt64) - (1 : Int64))), .second, .unset, .unset] [(.ref aG)])
        refine G_astore X10 hx (pc' := 90) rfl (hb hby at_88) rfl (L' := #[.val (.int v0), .val (.long v1), .second, .val (.int v2), .val (.int ((v0 &&& (2147483647 : Int32)) % (3 : Int32))), .val (.long ((((v2 >>> ((1 : Int32) &&& 31)) &&& (3 : Int32)).toInt64) - (1 : Int64))), .second, .val (.ref aG), .unset]) rfl ?_
        refine G_lload X10 hx (pc' := 92) rfl (hb hby at_90) rfl ?_
        refine G_lconst X10 hx (pc' := 93) rfl (hb hby at_92) (z := (0 : Int64)) rfl ?_
        refine G_lcmp X10 hx (pc' := 94) rfl (hb hby at_93)  ?_
        by_cases hc94_10 : (0 : Int64) < ((((v2 >>> ((1 : Int32) &&& 31)) &&& (3 : Int32)).toInt64) - (1 : Int64))
        · refine G_ifNo X10 hx (pc' := 97) rfl (hb hby at_94) ((if0 _ _).trans (tlt ((lw_gt _ _).2 hc94_10)).2.2.2) ?_
          refine G_iconst X10 hx (pc' := 98) rfl (hb hby at_97) (z := (1 : Int32)) rfl ?_
          refine G_goto X10 hx (pc' := 102) (hb hby at_98)  (by decide) (by decide) ?_
          refine G_istore X10 hx (pc' := 104) rfl (hb hby at_102) (L' := #[.val (.int v0), .val (.long v1), .second, .val (.int v2), .val (.int ((v0 &&& (2147483647 : Int32)) % (3 : Int32))), .val (.long ((((v2 >>> ((1 : Int32) &&& 31)) &&& (3 : Int32)).toInt64) - (1 : Int64))), .second, .val (.ref aG), .val (.int (1 : Int32))]) rfl ?_
          refine G_aload X10 hx (pc' := 106) rfl (hb hby at_104) rfl rfl ?_
          refine G_lload X10 hx (pc' := 108) rfl (hb hby at_106) rfl ?_
          obtain ⟨cq11, kq11, q11a, q11b, q11c⟩ := isOf hZ e10 f5_E_aG
          obtain ⟨_, _, ⟨T11, L11, k11, n11⟩, -, X11, ⟨Lc11, hQ11, l11, y11, z11⟩, st11⟩ := X10.virtualBack hx (y := (⟨"com/example/fencing/fencing/protocol/Message$Token", "isValid", "(J)Z"⟩ : MethodName)) (z := (⟨"com/example/fencing/fencing/protocol/Message$Token", "isValid", "(J)Z"⟩ : MethodName)) hown (mvT hZ (hw _ (List.mem_of_getElem? (i := 4) rfl))) (mvT hZ (hw _ (List.mem_of_getElem? (i := 5) rfl))) (notFace_of_selects (args := #[]) (mvT hZ (hw _ (List.mem_of_getElem? (i := 7) rfl)))) (mvT hZ (hw _ (List.mem_of_getElem? (i := 7) rfl))) (mvT hZ (hw _ (List.mem_of_getElem? (i := 6) rfl))) (by decide) (backOf (W := 0) (rm_validO l Z a0 hw [] aG ((((v2 >>> ((1 : Int32) &&& 31)) &&& (3 : Int32)).toInt64) - (1 : Int64)) aN (1 : Int64) h0 n0 Z0 f0_S_com_example_fencing_fencing_protocol_Message_Token ne_aG_aN f7_F_aG) hZ (hw _ (List.mem_of_getElem? (i := 8) rfl)) (hw _ (List.mem_of_getElem? (i := 2) rfl)) (by decide) (by decide)) q11a q11c (g := (mkF m 108 #[.val (.int v0), .val (.long v1), .second, .val (.int v2), .val (.int ((v0 &&& (2147483647 : Int32)) % (3 : Int32))), .val (.long ((((v2 >>> ((1 : Int32) &&& 31)) &&& (3 : Int32)).toInt64) - (1 : Int64))), .second, .val (.ref aG), .val (.int (1 : Int32))] [(.long ((((v2 >>> ((1 : Int32) &&& 31)) &&& (3 : Int32)).toInt64) - (1 : Int64))), (.ref aG)])) rfl (by rw [hml]; rfl) (Steps.refl _) (argsL := [(.long ((((v2 >>> ((1 : Int32) &&& 31)) &&& (3 : Int32)).toInt64) - (1 : Int64)))]) (rest := []) (lenOf pd_0 rfl) rfl (by show 2 * 0 + _ ≤ _; exact Nat.le_of_eq rfl) (hb hby at_108) (fun _ _ => ⟨rfl, e10, (by decide : 0 + 0 ≤ _), (by decide : 0 + 0 ≤ _)⟩)
          dsimp only [Pt.U, Pt.locs, Pt.cells, Pt.slots] at X11 l11 y11 z11 st11 hQ11
          subst l11 y11 z11
          obtain ⟨rfl, N11q, e11⟩ := hQ11
          have N11 := Fr.app N0 N11q
          refine Go.st (fun _ k => st11.trans k) ?_
          show Go p e below s _ _ _ T11 (mkF m 111 #[.val (.int v0), .val (.long v1), .second, .val (.int v2), .val (.int ((v0 &&& (2147483647 : Int32)) % (3 : Int32))), .val (.long ((((v2 >>> ((1 : Int32) &&& 31)) &&& (3 : Int32)).toInt64) - (1 : Int64))), .second, .val (.ref aG), .val (.int (1 : Int32))] [(.int (f_validO ((((v2 >>> ((1 : Int32) &&& 31)) &&& (3 : Int32)).toInt64) - (1 : Int64)) (1 : Int64)))])
          refine G_iload X11 hx (pc' := 113) rfl (hb hby at_111) rfl ?_
          by_cases hc113_11 : (f_validO ((((v2 >>> ((1 : Int32) &&& 31)) &&& (3 : Int32)).toInt64) - (1 : Int64)) (1 : Int64)) = (1 : Int32)
          · refine G_icmpNo X11 hx (pc' := 116) rfl (hb hby at_113) (teq hc113_11).2 ?_
            refine G_iconst X11 hx (pc' := 117) rfl (hb hby at_116) (z := (1 : Int32)) rfl ?_
            refine G_goto X11 hx (pc' := 121) (hb hby at_117)  (by decide) (by decide) ?_
            refine Go.fin X11 hlk (v := some (.int (1 : Int32))) (fun h => by rw [Bd.returns] at h; cases h) (by decide) (by decide) ?_ (fun fs hr => retN X11 hx (t := .boolean) Bd.returns (by simp) (hb hby at_121) hr)
            show Q_law Z v0 v1 v2 aN aK aG h0 n0 _ T11.heap _
            rw [e11]
            exact ⟨congrArg (fun z => some (Value.int z)) (by rw [f_law]; rw [if_pos hc11_1, if_neg hc32_2, if_neg hc60_6, if_pos hc94_10, if_pos hc113_11]), N11⟩
          · refine G_icmpYes X11 hx (pc' := 120) (hb hby at_113) (feq hc113_11).2 (by decide) (by decide) ?_
            refine G_iconst X11 hx (pc' := 121) rfl (hb hby at_120) (z := (0 : Int32)) rfl ?_
            refine Go.fin X11 hlk (v := some (.int (0 : Int32))) (fun h => by rw [Bd.returns] at h; cases h) (by decide) (by decide) ?_ (fun fs hr => retN X11 hx (t := .boolean) Bd.returns (by simp) (hb hby at_121) hr)
            show Q_law Z v0 v1 v2 aN aK aG h0 n0 _ T11.heap _
            rw [e11]
            exact ⟨congrArg (fun z => some (Value.int z)) (by rw [f_law]; rw [if_pos hc11_1, if_neg hc32_2, if_neg hc60_6, if_pos hc94_10, if_neg hc113_11]), N11⟩
        · refine G_ifYes X10 hx (pc' := 101) (hb hby at_94) ((if0 _ _).trans (flt (fun q => hc94_10 ((lw_gt _ _).1 q))).2.2.2) (by decide) (by decide) ?_
          refine G_iconst X10 hx (pc' := 102) rfl (hb hby at_101) (z := (0 : Int32)) rfl ?_
          refine G_istore X10 hx (pc' := 104) rfl (hb hby at_102) (L' := #[.val (.int v0), .val (.long v1), .second, .val (.int v2), .val (.int ((v0 &&& (2147483647 : Int32)) % (3 : Int32))), .val (.long ((((v2 >>> ((1 : Int32) &&& 31)) &&& (3 : Int32)).toInt64) - (1 : Int64))), .second, .val (.ref aG), .val (.int (0 : Int32))]) rfl ?_
          refine G_aload X10 hx (pc' := 106) rfl (hb hby at_104) rfl rfl ?_
          refine G_lload X10 hx (pc' := 108) rfl (hb hby at_106) rfl ?_
          obtain ⟨cq12, kq12, q12a, q12b, q12c⟩ := isOf hZ e10 f5_E_aG
          obtain ⟨_, _, ⟨T12, L12, k12, n12⟩, -, X12, ⟨Lc12, hQ12, l12, y12, z12⟩, st12⟩ := X10.virtualBack hx (y := (⟨"com/example/fencing/fencing/protocol/Message$Token", "isValid", "(J)Z"⟩ : MethodName)) (z := (⟨"com/example/fencing/fencing/protocol/Message$Token", "isValid", "(J)Z"⟩ : MethodName)) hown (mvT hZ (hw _ (List.mem_of_getElem? (i := 4) rfl))) (mvT hZ (hw _ (List.mem_of_getElem? (i := 5) rfl))) (notFace_of_selects (args := #[]) (mvT hZ (hw _ (List.mem_of_getElem? (i := 7) rfl)))) (mvT hZ (hw _ (List.mem_of_getElem? (i := 7) rfl))) (mvT hZ (hw _ (List.mem_of_getElem? (i := 6) rfl))) (by decide) (backOf (W := 0) (rm_validO l Z a0 hw [] aG ((((v2 >>> ((1 : Int32) &&& 31)) &&& (3 : Int32)).toInt64) - (1 : Int64)) aN (1 : Int64) h0 n0 Z0 f0_S_com_example_fencing_fencing_protocol_Message_Token ne_aG_aN f7_F_aG) hZ (hw _ (List.mem_of_getElem? (i := 8) rfl)) (hw _ (List.mem_of_getElem? (i := 2) rfl)) (by decide) (by decide)) q12a q12c (g := (mkF m 108 #[.val (.int v0), .val (.long v1), .second, .val (.int v2), .val (.int ((v0 &&& (2147483647 : Int32)) % (3 : Int32))), .val (.long ((((v2 >>> ((1 : Int32) &&& 31)) &&& (3 : Int32)).toInt64) - (1 : Int64))), .second, .val (.ref aG), .val (.int (0 : Int32))] [(.long ((((v2 >>> ((1 : Int32) &&& 31)) &&& (3 : Int32)).toInt64) - (1 : Int64))), (.ref aG)])) rfl (by rw [hml]; rfl) (Steps.refl _) (argsL := [(.long ((((v2 >>> ((1 : Int32) &&& 31)) &&& (3 : Int32)).toInt64) - (1 : Int64)))]) (rest := []) (lenOf pd_0 rfl) rfl (by show 2 * 0 + _ ≤ _; exact Nat.le_of_eq rfl) (hb hby at_108) (fun _ _ => ⟨rfl, e10, (by decide : 0 + 0 ≤ _), (by decide : 0 + 0 ≤ _)⟩)
          dsimp only [Pt.U, Pt.locs, Pt.cells, Pt.slots] at X12 l12 y12 z12 st12 hQ12
          subst l12 y12 z12
          obtain ⟨rfl, N12q, e12⟩ := hQ12
          have N12 := Fr.app N0 N12q
          refine Go.st (fun _ k => st12.trans k) ?_
          show Go p e below s _ _ _ T12 (mkF m 111 #[.val (.int v0), .val (.long v1), .second, .val (.int v2), .val (.int ((v0 &&& (2147483647 : Int32)) % (3 : Int32))), .val (.long ((((v2 >>> ((1 : Int32) &&& 31)) &&& (3 : Int32)).toInt64) - (1 : Int64))), .second, .val (.ref aG), .val (.int (0 : Int32))] [(.int (f_validO ((((v2 >>> ((1 : Int32) &&& 31)) &&& (3 : Int32)).toInt64) - (1 : Int64)) (1 : Int64)))])
          refine G_iload X12 hx (pc' := 113) rfl (hb hby at_111) rfl ?_
          by_cases hc113_12 : (f_validO ((((v2 >>> ((1 : Int32) &&& 31)) &&& (3 : Int32)).toInt64) - (1 : Int64)) (1 : Int64)) = (0 : Int32)
          · refine G_icmpNo X12 hx (pc' := 116) rfl (hb hby at_113) (teq hc113_12).2 ?_
            refine G_iconst X12 hx (pc' := 117) rfl (hb hby at_116) (z := (1 : Int32)) rfl ?_
            refine G_goto X12 hx (pc' := 121) (hb hby at_117)  (by decide) (by decide) ?_
            refine Go.fin X12 hlk (v := some (.int (1 : Int32))) (fun h => by rw [Bd.returns] at h; cases h) (by decide) (by decide) ?_ (fun fs hr => retN X12 hx (t := .boolean) Bd.returns (by simp) (hb hby at_121) hr)
            show Q_law Z v0 v1 v2 aN aK aG h0 n0 _ T12.heap _
            rw [e12]
            exact ⟨congrArg (fun z => some (Value.int z)) (by rw [f_law]; rw [if_pos hc11_1, if_neg hc32_2, if_neg hc60_6, if_neg hc94_10, if_pos hc113_12]), N12⟩
          · refine G_icmpYes X12 hx (pc' := 120) (hb hby at_113) (feq hc113_12).2 (by decide) (by decide) ?_
            refine G_iconst X12 hx (pc' := 121) rfl (hb hby at_120) (z := (0 : Int32)) rfl ?_
            refine Go.fin X12 hlk (v := some (.int (0 : Int32))) (fun h => by rw [Bd.returns] at h; cases h) (by decide) (by decide) ?_ (fun fs hr => retN X12 hx (t := .boolean) Bd.returns (by simp) (hb hby at_121) hr)
            show Q_law Z v0 v1 v2 aN aK aG h0 n0 _ T12.heap _
            rw [e12]
            exact ⟨congrArg (fun z => some (Value.int z)) (by rw [f_law]; rw [if_pos hc11_1, if_neg hc32_2, if_neg hc60_6, if_neg hc94_10, if_neg hc113_12]), N12⟩
  · refine G_ifNo X0 hx (pc' := 14) rfl (hb hby at_11) ((if0 _ _).trans (feq hc11_1).1) ?_
    refine G_lloadN X0 hx (pc' := 15) rfl (hb hby at_14) rfl ?_
    refine G_lstore X0 hx (pc' := 17) rfl (hb hby at_15) (L' := #[.val (.int v0), .val (.long v1), .second, .val (.int v2), .val (.int ((v0 &&& (2147483647 : Int32)) % (3 : Int32))), .val (.long v1), .second, .unset, .unset]) rfl ?_
    refine G_goto X0 hx (pc' := 30) (hb hby at_17)  (by decide) (by decide) ?_
    refine G_iload X0 hx (pc' := 32) rfl (hb hby at_30) rfl ?_
    by_cases hc32_13 : ((v0 &&& (2147483647 : Int32)) % (3 : Int32)) = (0 : Int32)
    · refine G_ifNo X0 hx (pc' := 35) rfl (hb hby at_32) ((if0 _ _).trans (teq hc32_13).2) ?_
      obtain ⟨T13, X13, e13, st13⟩ := getS2 X0 hx hZ hown (host := "") (Or.inl (hw _ (List.mem_of_getElem? (i := 1) rfl))) Via.refl e0 f0_S_com_example_fencing_fencing_protocol_Message_Token (g := (mkF m 35 #[.val (.int v0), .val (.long v1), .second, .val (.int v2), .val (.int ((v0 &&& (2147483647 : Int32)) % (3 : Int32))), .val (.long v1), .second, .unset, .unset] [])) rfl (hb hby at_35)
      refine Go.st st13 ?_
      show Go p e below s _ _ _ T13 (mkF m 38 #[.val (.int v0), .val (.long v1), .second, .val (.int v2), .val (.int ((v0 &&& (2147483647 : Int32)) % (3 : Int32))), .val (.long v1), .second, .unset, .unset] [(.ref aN)])
      refine G_astore X13 hx (pc' := 40) rfl (hb hby at_38) rfl (L' := #[.val (.int v0), .val (.long v1), .second, .val (.int v2), .val (.int ((v0 &&& (2147483647 : Int32)) % (3 : Int32))), .val (.long v1), .second, .val (.ref aN), .unset]) rfl ?_
      refine G_lload X13 hx (pc' := 42) rfl (hb hby at_40) rfl ?_
      refine G_lconst X13 hx (pc' := 43) rfl (hb hby at_42) (z := (0 : Int64)) rfl ?_
      refine G_lcmp X13 hx (pc' := 44) rfl (hb hby at_43)  ?_
      by_cases hc44_14 : v1 = (0 : Int64)
      · refine G_ifNo X13 hx (pc' := 47) rfl (hb hby at_44) ((if0 _ _).trans (teq ((lw_eq _ _).2 hc44_14)).2) ?_
        refine G_iconst X13 hx (pc' := 48) rfl (hb hby at_47) (z := (1 : Int32)) rfl ?_
        refine G_goto X13 hx (pc' := 52) (hb hby at_48)  (by decide) (by decide) ?_
        refine G_istore X13 hx (pc' := 54) rfl (hb hby at_52) (L' := #[.val (.int v0), .val (.long v1), .second, .val (.int v2), .val (.int ((v0 &&& (2147483647 : Int32)) % (3 : Int32))), .val (.long v1), .second, .val (.ref aN), .val (.int (1 : Int32))]) rfl ?_
        refine G_goto X13 hx (pc' := 104) (hb hby at_54)  (by decide) (by decide) ?_
        refine G_aload X13 hx (pc' := 106) rfl (hb hby at_104) rfl rfl ?_
        refine G_lload X13 hx (pc' := 108) rfl (hb hby at_106) rfl ?_
        obtain ⟨cq14, kq14, q14a, q14b, q14c⟩ := isOf hZ e13 f3_E_aN
        obtain ⟨_, _, ⟨T14, L14, k14, n14⟩, -, X14, ⟨Lc14, hQ14, l14, y14, z14⟩, st14⟩ := X13.virtualBack hx (y := (⟨"com/example/fencing/fencing/protocol/Message$Token", "isValid", "(J)Z"⟩ : MethodName)) (z := (⟨"com/example/fencing/fencing/protocol/Message$Token", "isValid", "(J)Z"⟩ : MethodName)) hown (mvT hZ (hw _ (List.mem_of_getElem? (i := 4) rfl))) (mvT hZ (hw _ (List.mem_of_getElem? (i := 5) rfl))) (notFace_of_selects (args := #[]) (mvT hZ (hw _ (List.mem_of_getElem? (i := 7) rfl)))) (mvT hZ (hw _ (List.mem_of_getElem? (i := 7) rfl))) (mvT hZ (hw _ (List.mem_of_getElem? (i := 6) rfl))) (by decide) (backOf (W := 0) (rm_validN l Z a0 hw [] aN v1 h0 n0 Z0 f0_S_com_example_fencing_fencing_protocol_Message_Token) hZ (hw _ (List.mem_of_getElem? (i := 8) rfl)) (hw _ (List.mem_of_getElem? (i := 2) rfl)) (by decide) (by decide)) q14a q14c (g := (mkF m 108 #[.val (.int v0), .val (.long v1), .second, .val (.int v2), .val (.int ((v0 &&& (2147483647 : Int32)) % (3 : Int32))), .val (.long v1), .second, .val (.ref aN), .val (.int (1 : Int32))] [(.long v1), (.ref aN)])) rfl (by rw [hml]; rfl) (Steps.refl _) (argsL := [(.long v1)]) (rest := []) (lenOf pd_0 rfl) rfl (by show 2 * 0 + _ ≤ _; exact Nat.le_of_eq rfl) (hb hby at_108) (fun _ _ => ⟨rfl, e13, (by decide : 0 + 0 ≤ _), (by decide : 0 + 0 ≤ _)⟩)
        dsimp only [Pt.U, Pt.locs, Pt.cells, Pt.slots] at X14 l14 y14 z14 st14 hQ14
        subst l14 y14 z14
        obtain ⟨rfl, N14q, e14⟩ := hQ14
        have N14 := Fr.app N0 N14q
        refine Go.st (fun _ k => st14.trans k) ?_
        show Go p e below s _ _ _ T14 (mkF m 111 #[.val (.int v0), .val (.long v1), .second, .val (.int v2), .val (.int ((v0 &&& (2147483647 : Int32)) % (3 : Int32))), .val (.long v1), .second, .val (.ref aN), .val (.int (1 : Int32))] [(.int (f_validN v1))])
        refine G_iload X14 hx (pc' := 113) rfl (hb hby at_111) rfl ?_
        by_cases hc113_15 : (f_validN v1) = (1 : Int32)
        · refine G_icmpNo X14 hx (pc' := 116) rfl (hb hby at_113) (teq hc113_15).2 ?_
          refine G_iconst X14 hx (pc' := 117) rfl (hb hby at_116) (z := (1 : Int32)) rfl ?_
          refine G_goto X14 hx (pc' := 121) (hb hby at_117)  (by decide) (by decide) ?_
          refine Go.fin X14 hlk (v := some (.int (1 : Int32))) (fun h => by rw [Bd.returns] at h; cases h) (by decide) (by decide) ?_ (fun fs hr => retN X14 hx (t := .boolean) Bd.returns (by simp) (hb hby at_121) hr)
          show Q_law Z v0 v1 v2 aN aK aG h0 n0 _ T14.heap _
          rw [e14]
          exact ⟨congrArg (fun z => some (Value.int z)) (by rw [f_law]; rw [if_neg hc11_1, if_pos hc32_13, if_pos hc44_14, if_pos hc113_15]), N14⟩
        · refine G_icmpYes X14 hx (pc' := 120) (hb hby at_113) (feq hc113_15).2 (by decide) (by decide) ?_
          refine G_iconst X14 hx (pc' := 121) rfl (hb hby at_120) (z := (0 : Int32)) rfl ?_
          refine Go.fin X14 hlk (v := some (.int (0 : Int32))) (fun h => by rw [Bd.returns] at h; cases h) (by decide) (by decide) ?_ (fun fs hr => retN X14 hx (t := .boolean) Bd.returns (by simp) (hb hby at_121) hr)
          show Q_law Z v0 v1 v2 aN aK aG h0 n0 _ T14.heap _
          rw [e14]
          exact ⟨congrArg (fun z => some (Value.int z)) (by rw [f_law]; rw [if_neg hc11_1, if_pos hc32_13, if_pos hc44_14, if_neg hc113_15]), N14⟩
      · refine G_ifYes X13 hx (pc' := 51) (hb hby at_44) ((if0 _ _).trans (feq (fun q => hc44_14 ((lw_eq _ _).1 q))).2) (by decide) (by decide) ?_
        refine G_iconst X13 hx (pc' := 52) rfl (hb hby at_51) (z := (0 : Int32)) rfl ?_
        refine G_istore X13 hx (pc' := 54) rfl (hb hby at_52) (L' := #[.val (.int v0), .val (.long v1), .second, .val (.int v2), .val (.int ((v0 &&& (2147483647 : Int32)) % (3 : Int32))), .val (.long v1), .second, .val (.ref aN), .val (.int (0 : Int32))]) rfl ?_
        refine G_goto X13 hx (pc' := 104) (hb hby at_54)  (by decide) (by decide) ?_
        refine G_aload X13 hx (pc' := 106) rfl (hb hby at_104) rfl rfl ?_
        refine G_lload X13 hx (pc' := 108) rfl (hb hby at_106) rfl ?_
        obtain ⟨cq15, kq15, q15a, q15b, q15c⟩ := isOf hZ e13 f3_E_aN
        obtain ⟨_, _, ⟨T15, L15, k15, n15⟩, -, X15, ⟨Lc15, hQ15, l15, y15, z15⟩, st15⟩ := X13.virtualBack hx (y := (⟨"com/example/fencing/fencing/protocol/Message$Token", "isValid", "(J)Z"⟩ : MethodName)) (z := (⟨"com/example/fencing/fencing/protocol/Message$Token", "isValid", "(J)Z"⟩ : MethodName)) hown (mvT hZ (hw _ (List.mem_of_getElem? (i := 4) rfl))) (mvT hZ (hw _ (List.mem_of_getElem? (i := 5) rfl))) (notFace_of_selects (args := #[]) (mvT hZ (hw _ (List.mem_of_getElem? (i := 7) rfl)))) (mvT hZ (hw _ (List.mem_of_getElem? (i := 7) rfl))) (mvT hZ (hw _ (List.mem_of_getElem? (i := 6) rfl))) (by decide) (backOf (W := 0) (rm_validN l Z a0 hw [] aN v1 h0 n0 Z0 f0_S_com_example_fencing_fencing_protocol_Message_Token) hZ (hw _ (List.mem_of_getElem? (i := 8) rfl)) (hw _ (List.mem_of_getElem? (i := 2) rfl)) (by decide) (by decide)) q15a q15c (g := (mkF m 108 #[.val (.int v0), .val (.long v1), .second, .val (.int v2), .val (.int ((v0 &&& (2147483647 : Int32)) % (3 : Int32))), .val (.long v1), .second, .val (.ref aN), .val (.int (0 : Int32))] [(.long v1), (.ref aN)])) rfl (by rw [hml]; rfl) (Steps.refl _) (argsL := [(.long v1)]) (rest := []) (lenOf pd_0 rfl) rfl (by show 2 * 0 + _ ≤ _; exact Nat.le_of_eq rfl) (hb hby at_108) (fun _ _ => ⟨rfl, e13, (by decide : 0 + 0 ≤ _), (by decide : 0 + 0 ≤ _)⟩)
        dsimp only [Pt.U, Pt.locs, Pt.cells, Pt.slots] at X15 l15 y15 z15 st15 hQ15
        subst l15 y15 z15
        obtain ⟨rfl, N15q, e15⟩ := hQ15
        have N15 := Fr.app N0 N15q
        refine Go.st (fun _ k => st15.trans k) ?_
        show Go p e below s _ _ _ T15 (mkF m 111 #[.val (.int v0), .val (.long v1), .second, .val (.int v2), .val (.int ((v0 &&& (2147483647 : Int32)) % (3 : Int32))), .val (.long v1), .second, .val (.ref aN), .val (.int (0 : Int32))] [(.int (f_validN v1))])
        refine G_iload X15 hx (pc' := 113) rfl (hb hby at_111) rfl ?_
        by_cases hc113_16 : (f_validN v1) = (0 : Int32)
        · refine G_icmpNo X15 hx (pc' := 116) rfl (hb hby at_113) (teq hc113_16).2 ?_
          refine G_iconst X15 hx (pc' := 117) rfl (hb hby at_116) (z := (1 : Int32)) rfl ?_
          refine G_goto X15 hx (pc' := 121) (hb hby at_117)  (by decide) (by decide) ?_
          refine Go.fin X15 hlk (v := some (.int (1 : Int32))) (fun h => by rw [Bd.returns] at h; cases h) (by decide) (by decide) ?_ (fun fs hr => retN X15 hx (t := .boolean) Bd.returns (by simp) (hb hby at_121) hr)
          show Q_law Z v0 v1 v2 aN aK aG h0 n0 _ T15.heap _
          rw [e15]
          exact ⟨congrArg (fun z => some (Value.int z)) (by rw [f_law]; rw [if_neg hc11_1, if_pos hc32_13, if_neg hc44_14, if_pos hc113_16]), N15⟩
        · refine G_icmpYes X15 hx (pc' := 120) (hb hby at_113) (feq hc113_16).2 (by decide) (by decide) ?_
          refine G_iconst X15 hx (pc' := 121) rfl (hb hby at_120) (z := (0 : Int32)) rfl ?_
          refine Go.fin X15 hlk (v := some (.int (0 : Int32))) (fun h => by rw [Bd.returns] at h; cases h) (by decide) (by decide) ?_ (fun fs hr => retN X15 hx (t := .boolean) Bd.returns (by simp) (hb hby at_121) hr)
          show Q_law Z v0 v1 v2 aN aK aG h0 n0 _ T15.heap _
          rw [e15]
          exact ⟨congrArg (fun z => some (Value.int z)) (by rw [f_law]; rw [if_neg hc11_1, if_pos hc32_13, if_neg hc44_14, if_neg hc113_16]), N15⟩
    · refine G_ifYes X0 hx (pc' := 57) (hb hby at_32) ((if0 _ _).trans (feq hc32_13).2) (by decide) (by decide) ?_
      refine G_iload X0 hx (pc' := 59) rfl (hb hby at_57) rfl ?_
      refine G_iconst X0 hx (pc' := 60) rfl (hb hby at_59) (z := (1 : Int32)) rfl ?_
      by_cases hc60_17 : ((v0 &&& (2147483647 : Int32)) % (3 : Int32)) = (1 : Int32)
      · refine G_icmpNo X0 hx (pc' := 63) rfl (hb hby at_60) (teq hc60_17).2 ?_
        obtain ⟨T16, X16, e16, st16⟩ := getS2 X0 hx hZ hown (host := "") (Or.inl (hw _ (List.mem_of_getElem? (i := 10) rfl))) Via.refl e0 f1_S_com_example_fencing_fencing_protocol_Message_Token (g := (mkF m 63 #[.val (.int v0), .val (.long v1), .second, .val (.int v2), .val (.int ((v0 &&& (2147483647 : Int32)) % (3 : Int32))), .val (.long v1), .second, .unset, .unset] [])) rfl (hb hby at_63)
        refine Go.st st16 ?_
        show Go p e below s _ _ _ T16 (mkF m 66 #[.val (.int v0), .val (.long v1), .second, .val (.int v2), .val (.int ((v0 &&& (2147483647 : Int32)) % (3 : Int32))), .val (.long v1), .second, .unset, .unset] [(.ref aK)])
        refine G_astore X16 hx (pc' := 68) rfl (hb hby at_66) rfl (L' := #[.val (.int v0), .val (.long v1), .second, .val (.int v2), .val (.int ((v0 &&& (2147483647 : Int32)) % (3 : Int32))), .val (.long v1), .second, .val (.ref aK), .unset]) rfl ?_
        refine G_lload X16 hx (pc' := 70) rfl (hb hby at_68) rfl ?_
        refine G_lconst X16 hx (pc' := 71) rfl (hb hby at_70) (z := (0 : Int64)) rfl ?_
        refine G_lcmp X16 hx (pc' := 72) rfl (hb hby at_71)  ?_
        by_cases hc72_18 : v1 < (0 : Int64)
        · refine G_ifYes X16 hx (pc' := 79) (hb hby at_72) ((if0 _ _).trans (tlt ((lw_lt _ _).2 hc72_18)).1) (by decide) (by decide) ?_
          refine G_iconst X16 hx (pc' := 80) rfl (hb hby at_79) (z := (0 : Int32)) rfl ?_
          refine G_istore X16 hx (pc' := 82) rfl (hb hby at_80) (L' := #[.val (.int v0), .val (.long v1), .second, .val (.int v2), .val (.int ((v0 &&& (2147483647 : Int32)) % (3 : Int32))), .val (.long v1), .second, .val (.ref aK), .val (.int (0 : Int32))]) rfl ?_
          refine G_goto X16 hx (pc' := 104) (hb hby at_82)  (by decide) (by decide) ?_
          refine G_aload X16 hx (pc' := 106) rfl (hb hby at_104) rfl rfl ?_
          refine G_lload X16 hx (pc' := 108) rfl (hb hby at_106) rfl ?_
          obtain ⟨cq17, kq17, q17a, q17b, q17c⟩ := isOf hZ e16 f4_E_aK
          obtain ⟨_, _, ⟨T17, L17, k17, n17⟩, -, X17, ⟨Lc17, hQ17, l17, y17, z17⟩, st17⟩ := X16.virtualBack hx (y := (⟨"com/example/fencing/fencing/protocol/Message$Token", "isValid", "(J)Z"⟩ : MethodName)) (z := (⟨"com/example/fencing/fencing/protocol/Message$Token", "isValid", "(J)Z"⟩ : MethodName)) hown (mvT hZ (hw _ (List.mem_of_getElem? (i := 4) rfl))) (mvT hZ (hw _ (List.mem_of_getElem? (i := 5) rfl))) (notFace_of_selects (args := #[]) (mvT hZ (hw _ (List.mem_of_getElem? (i := 7) rfl)))) (mvT hZ (hw _ (List.mem_of_getElem? (i := 7) rfl))) (mvT hZ (hw _ (List.mem_of_getElem? (i := 6) rfl))) (by decide) (backOf (W := 0) (rm_validO l Z a0 hw [] aK v1 aN (0 : Int64) h0 n0 Z0 f0_S_com_example_fencing_fencing_protocol_Message_Token ne_aK_aN f6_F_aK) hZ (hw _ (List.mem_of_getElem? (i := 8) rfl)) (hw _ (List.mem_of_getElem? (i := 2) rfl)) (by decide) (by decide)) q17a q17c (g := (mkF m 108 #[.val (.int v0), .val (.long v1), .second, .val (.int v2), .val (.int ((v0 &&& (2147483647 : Int32)) % (3 : Int32))), .val (.long v1), .second, .val (.ref aK), .val (.int (0 : Int32))] [(.long v1), (.ref aK)])) rfl (by rw [hml]; rfl) (Steps.refl _) (argsL := [(.long v1)]) (rest := []) (lenOf pd_0 rfl) rfl (by show 2 * 0 + _ ≤ _; exact Nat.le_of_eq rfl) (hb hby at_108) (fun _ _ => ⟨rfl, e16, (by decide : 0 + 0 ≤ _), (by decide : 0 + 0 ≤ _)⟩)
          dsimp only [Pt.U, Pt.locs, Pt.cells, Pt.slots] at X17 l17 y17 z17 st17 hQ17
          subst l17 y17 z17
          obtain ⟨rfl, N17q, e17⟩ := hQ17
          have N17 := Fr.app N0 N17q
          refine Go.st (fun _ k => st17.trans k) ?_
          show Go p e below s _ _ _ T17 (mkF m 111 #[.val (.int v0), .val (.long v1), .second, .val (.int v2), .val (.int ((v0 &&& (2147483647 : Int32)) % (3 : Int32))), .val (.long v1), .second, .val (.ref aK), .val (.int (0 : Int32))] [(.int (f_validO v1 (0 : Int64)))])
          refine G_iload X17 hx (pc' := 113) rfl (hb hby at_111) rfl ?_
          by_cases hc113_19 : (f_validO v1 (0 : Int64)) = (0 : Int32)
          · refine G_icmpNo X17 hx (pc' := 116) rfl (hb hby at_113) (teq hc113_19).2 ?_
            refine G_iconst X17 hx (pc' := 117) rfl (hb hby at_116) (z := (1 : Int32)) rfl ?_
            refine G_goto X17 hx (pc' := 121) (hb hby at_117)  (by decide) (by decide) ?_
            refine Go.fin X17 hlk (v := some (.int (1 : Int32))) (fun h => by rw [Bd.returns] at h; cases h) (by decide) (by decide) ?_ (fun fs hr => retN X17 hx (t := .boolean) Bd.returns (by simp) (hb hby at_121) hr)
            show Q_law Z v0 v1 v2 aN aK aG h0 n0 _ T17.heap _
            rw [e17]
            exact ⟨congrArg (fun z => some (Value.int z)) (by rw [f_law]; rw [if_neg hc11_1, if_neg hc32_13, if_pos hc60_17, if_pos hc72_18, if_pos hc113_19]), N17⟩
          · refine G_icmpYes X17 hx (pc' := 120) (hb hby at_113) (feq hc113_19).2 (by decide) (by decide) ?_
            refine G_iconst X17 hx (pc' := 121) rfl (hb hby at_120) (z := (0 : Int32)) rfl ?_
            refine Go.fin X17 hlk (v := some (.int (0 : Int32))) (fun h => by rw [Bd.returns] at h; cases h) (by decide) (by decide) ?_ (fun fs hr => retN X17 hx (t := .boolean) Bd.returns (by simp) (hb hby at_121) hr)
            show Q_law Z v0 v1 v2 aN aK aG h0 n0 _ T17.heap _
            rw [e17]
            exact ⟨congrArg (fun z => some (Value.int z)) (by rw [f_law]; rw [if_neg hc11_1, if_neg hc32_13, if_pos hc60_17, if_pos hc72_18, if_neg hc113_19]), N17⟩
        · refine G_ifNo X16 hx (pc' := 75) rfl (hb hby at_72) ((if0 _ _).trans (flt (fun q => hc72_18 ((lw_lt _ _).1 q))).1) ?_
          refine G_iconst X16 hx (pc' := 76) rfl (hb hby at_75) (z := (1 : Int32)) rfl ?_
          refine G_goto X16 hx (pc' := 80) (hb hby at_76)  (by decide) (by decide) ?_
          refine G_istore X16 hx (pc' := 82) rfl (hb hby at_80) (L' := #[.val (.int v0), .val (.long v1), .second, .val (.int v2), .val (.int ((v0 &&& (2147483647 : Int32)) % (3 : Int32))), .val (.long v1), .second, .val (.ref aK), .val (.int (1 : Int32))]) rfl ?_
          refine G_goto X16 hx (pc' := 104) (hb hby at_82)  (by decide) (by decide) ?_
          refine G_aload X16 hx (pc' := 106) rfl (hb hby at_104) rfl rfl ?_
          refine G_lload X16 hx (pc' := 108) rfl (hb hby at_106) rfl ?_
          obtain ⟨cq18, kq18, q18a, q18b, q18c⟩ := isOf hZ e16 f4_E_aK
          obtain ⟨_, _, ⟨T18, L18, k18, n18⟩, -, X18, ⟨Lc18, hQ18, l18, y18, z18⟩, st18⟩ := X16.virtualBack hx (y := (⟨"com/example/fencing/fencing/protocol/Message$Token", "isValid", "(J)Z"⟩ : MethodName)) (z := (⟨"com/example/fencing/fencing/protocol/Message$Token", "isValid", "(J)Z"⟩ : MethodName)) hown (mvT hZ (hw _ (List.mem_of_getElem? (i := 4) rfl))) (mvT hZ (hw _ (List.mem_of_getElem? (i := 5) rfl))) (notFace_of_selects (args := #[]) (mvT hZ (hw _ (List.mem_of_getElem? (i := 7) rfl)))) (mvT hZ (hw _ (List.mem_of_getElem? (i := 7) rfl))) (mvT hZ (hw _ (List.mem_of_getElem? (i := 6) rfl))) (by decide) (backOf (W := 0) (rm_validO l Z a0 hw [] aK v1 aN (0 : Int64) h0 n0 Z0 f0_S_com_example_fencing_fencing_protocol_Message_Token ne_aK_aN f6_F_aK) hZ (hw _ (List.mem_of_getElem? (i := 8) rfl)) (hw _ (List.mem_of_getElem? (i := 2) rfl)) (by decide) (by decide)) q18a q18c (g := (mkF m 108 #[.val (.int v0), .val (.long v1), .second, .val (.int v2), .val (.int ((v0 &&& (2147483647 : Int32)) % (3 : Int32))), .val (.long v1), .second, .val (.ref aK), .val (.int (1 : Int32))] [(.long v1), (.ref aK)])) rfl (by rw [hml]; rfl) (Steps.refl _) (argsL := [(.long v1)]) (rest := []) (lenOf pd_0 rfl) rfl (by show 2 * 0 + _ ≤ _; exact Nat.le_of_eq rfl) (hb hby at_108) (fun _ _ => ⟨rfl, e16, (by decide : 0 + 0 ≤ _), (by decide : 0 + 0 ≤ _)⟩)
          dsimp only [Pt.U, Pt.locs, Pt.cells, Pt.slots] at X18 l18 y18 z18 st18 hQ18
          subst l18 y18 z18
          obtain ⟨rfl, N18q, e18⟩ := hQ18
          have N18 := Fr.app N0 N18q
          refine Go.st (fun _ k => st18.trans k) ?_
          show Go p e below s _ _ _ T18 (mkF m 111 #[.val (.int v0), .val (.long v1), .second, .val (.int v2), .val (.int ((v0 &&& (2147483647 : Int32)) % (3 : Int32))), .val (.long v1), .second, .val (.ref aK), .val (.int (1 : Int32))] [(.int (f_validO v1 (0 : Int64)))])
          refine G_iload X18 hx (pc' := 113) rfl (hb hby at_111) rfl ?_
          by_cases hc113_20 : (f_validO v1 (0 : Int64)) = (1 : Int32)
          · refine G_icmpNo X18 hx (pc' := 116) rfl (hb hby at_113) (teq hc113_20).2 ?_
            refine G_iconst X18 hx (pc' := 117) rfl (hb hby at_116) (z := (1 : Int32)) rfl ?_
            refine G_goto X18 hx (pc' := 121) (hb hby at_117)  (by decide) (by decide) ?_
            refine Go.fin X18 hlk (v := some (.int (1 : Int32))) (fun h => by rw [Bd.returns] at h; cases h) (by decide) (by decide) ?_ (fun fs hr => retN X18 hx (t := .boolean) Bd.returns (by simp) (hb hby at_121) hr)
            show Q_law Z v0 v1 v2 aN aK aG h0 n0 _ T18.heap _
            rw [e18]
            exact ⟨congrArg (fun z => some (Value.int z)) (by rw [f_law]; rw [if_neg hc11_1, if_neg hc32_13, if_pos hc60_17, if_neg hc72_18, if_pos hc113_20]), N18⟩
          · refine G_icmpYes X18 hx (pc' := 120) (hb hby at_113) (feq hc113_20).2 (by decide) (by decide) ?_
            refine G_iconst X18 hx (pc' := 121) rfl (hb hby at_120) (z := (0 : Int32)) rfl ?_
            refine Go.fin X18 hlk (v := some (.int (0 : Int32))) (fun h => by rw [Bd.returns] at h; cases h) (by decide) (by decide) ?_ (fun fs hr => retN X18 hx (t := .boolean) Bd.returns (by simp) (hb hby at_121) hr)
            show Q_law Z v0 v1 v2 aN aK aG h0 n0 _ T18.heap _
            rw [e18]
            exact ⟨congrArg (fun z => some (Value.int z)) (by rw [f_law]; rw [if_neg hc11_1, if_neg hc32_13, if_pos hc60_17, if_neg hc72_18, if_neg hc113_20]), N18⟩
      · refine G_icmpYes X0 hx (pc' := 85) (hb hby at_60) (feq hc60_17).2 (by decide) (by decide) ?_
        obtain ⟨T19, X19, e19, st19⟩ := getS2 X0 hx hZ hown (host := "") (Or.inl (hw _ (List.mem_of_getElem? (i := 14) rfl))) Via.refl e0 f2_S_com_example_fencing_fencing_protocol_Message_Token (g := (mkF m 85 #[.val (.int v0), .val (.long v1), .second, .val (.int v2), .val (.int ((v0 &&& (2147483647 : Int32)) % (3 : Int32))), .val (.long v1), .second, .unset, .unset] [])) rfl (hb hby at_85)
        refine Go.st st19 ?_
        show Go p e below s _ _ _ T19 (mkF m 88 #[.val (.int v0), .val (.long v1), .second, .val (.int v2), .val (.int ((v0 &&& (2147483647 : Int32)) % (3 : Int32))), .val (.long v1), .second, .unset, .unset] [(.ref aG)])
        refine G_astore X19 hx (pc' := 90) rfl (hb hby at_88) rfl (L' := #[.val (.int v0), .val (.long v1), .second, .val (.int v2), .val (.int ((v0 &&& (2147483647 : Int32)) % (3 : Int32))), .val (.long v1), .second, .val (.ref aG), .unset]) rfl ?_
        refine G_lload X19 hx (pc' := 92) rfl (hb hby at_90) rfl ?_
        refine G_lconst X19 hx (pc' := 93) rfl (hb hby at_92) (z := (0 : Int64)) rfl ?_
        refine G_lcmp X19 hx (pc' := 94) rfl (hb hby at_93)  ?_
        by_cases hc94_21 : (0 : Int64) < v1
        · refine G_ifNo X19 hx (pc' := 97) rfl (hb hby at_94) ((if0 _ _).trans (tlt ((lw_gt _ _).2 hc94_21)).2.2.2) ?_
          refine G_iconst X19 hx (pc' := 98) rfl (hb hby at_97) (z := (1 : Int32)) rfl ?_
          refine G_goto X19 hx (pc' := 102) (hb hby at_98)  (by decide) (by decide) ?_
          refine G_istore X19 hx (pc' := 104) rfl (hb hby at_102) (L' := #[.val (.int v0), .val (.long v1), .second, .val (.int v2), .val (.int ((v0 &&& (2147483647 : Int32)) % (3 : Int32))), .val (.long v1), .second, .val (.ref aG), .val (.int (1 : Int32))]) rfl ?_
          refine G_aload X19 hx (pc' := 106) rfl (hb hby at_104) rfl rfl ?_
          refine G_lload X19 hx (pc' := 108) rfl (hb hby at_106) rfl ?_
          obtain ⟨cq20, kq20, q20a, q20b, q20c⟩ := isOf hZ e19 f5_E_aG
          obtain ⟨_, _, ⟨T20, L20, k20, n20⟩, -, X20, ⟨Lc20, hQ20, l20, y20, z20⟩, st20⟩ := X19.virtualBack hx (y := (⟨"com/example/fencing/fencing/protocol/Message$Token", "isValid", "(J)Z"⟩ : MethodName)) (z := (⟨"com/example/fencing/fencing/protocol/Message$Token", "isValid", "(J)Z"⟩ : MethodName)) hown (mvT hZ (hw _ (List.mem_of_getElem? (i := 4) rfl))) (mvT hZ (hw _ (List.mem_of_getElem? (i := 5) rfl))) (notFace_of_selects (args := #[]) (mvT hZ (hw _ (List.mem_of_getElem? (i := 7) rfl)))) (mvT hZ (hw _ (List.mem_of_getElem? (i := 7) rfl))) (mvT hZ (hw _ (List.mem_of_getElem? (i := 6) rfl))) (by decide) (backOf (W := 0) (rm_validO l Z a0 hw [] aG v1 aN (1 : Int64) h0 n0 Z0 f0_S_com_example_fencing_fencing_protocol_Message_Token ne_aG_aN f7_F_aG) hZ (hw _ (List.mem_of_getElem? (i := 8) rfl)) (hw _ (List.mem_of_getElem? (i := 2) rfl)) (by decide) (by decide)) q20a q20c (g := (mkF m 108 #[.val (.int v0), .val (.long v1), .second, .val (.int v2), .val (.int ((v0 &&& (2147483647 : Int32)) % (3 : Int32))), .val (.long v1), .second, .val (.ref aG), .val (.int (1 : Int32))] [(.long v1), (.ref aG)])) rfl (by rw [hml]; rfl) (Steps.refl _) (argsL := [(.long v1)]) (rest := []) (lenOf pd_0 rfl) rfl (by show 2 * 0 + _ ≤ _; exact Nat.le_of_eq rfl) (hb hby at_108) (fun _ _ => ⟨rfl, e19, (by decide : 0 + 0 ≤ _), (by decide : 0 + 0 ≤ _)⟩)
          dsimp only [Pt.U, Pt.locs, Pt.cells, Pt.slots] at X20 l20 y20 z20 st20 hQ20
          subst l20 y20 z20
          obtain ⟨rfl, N20q, e20⟩ := hQ20
          have N20 := Fr.app N0 N20q
          refine Go.st (fun _ k => st20.trans k) ?_
          show Go p e below s _ _ _ T20 (mkF m 111 #[.val (.int v0), .val (.long v1), .second, .val (.int v2), .val (.int ((v0 &&& (2147483647 : Int32)) % (3 : Int32))), .val (.long v1), .second, .val (.ref aG), .val (.int (1 : Int32))] [(.int (f_validO v1 (1 : Int64)))])
          refine G_iload X20 hx (pc' := 113) rfl (hb hby at_111) rfl ?_
          by_cases hc113_22 : (f_validO v1 (1 : Int64)) = (1 : Int32)
          · refine G_icmpNo X20 hx (pc' := 116) rfl (hb hby at_113) (teq hc113_22).2 ?_
            refine G_iconst X20 hx (pc' := 117) rfl (hb hby at_116) (z := (1 : Int32)) rfl ?_
            refine G_goto X20 hx (pc' := 121) (hb hby at_117)  (by decide) (by decide) ?_
            refine Go.fin X20 hlk (v := some (.int (1 : Int32))) (fun h => by rw [Bd.returns] at h; cases h) (by decide) (by decide) ?_ (fun fs hr => retN X20 hx (t := .boolean) Bd.returns (by simp) (hb hby at_121) hr)
            show Q_law Z v0 v1 v2 aN aK aG h0 n0 _ T20.heap _
            rw [e20]
            exact ⟨congrArg (fun z => some (Value.int z)) (by rw [f_law]; rw [if_neg hc11_1, if_neg hc32_13, if_neg hc60_17, if_pos hc94_21, if_pos hc113_22]), N20⟩
          · refine G_icmpYes X20 hx (pc' := 120) (hb hby at_113) (feq hc113_22).2 (by decide) (by decide) ?_
            refine G_iconst X20 hx (pc' := 121) rfl (hb hby at_120) (z := (0 : Int32)) rfl ?_
            refine Go.fin X20 hlk (v := some (.int (0 : Int32))) (fun h => by rw [Bd.returns] at h; cases h) (by decide) (by decide) ?_ (fun fs hr => retN X20 hx (t := .boolean) Bd.returns (by simp) (hb hby at_121) hr)
            show Q_law Z v0 v1 v2 aN aK aG h0 n0 _ T20.heap _
            rw [e20]
            exact ⟨congrArg (fun z => some (Value.int z)) (by rw [f_law]; rw [if_neg hc11_1, if_neg hc32_13, if_neg hc60_17, if_pos hc94_21, if_neg hc113_22]), N20⟩
        · refine G_ifYes X19 hx (pc' := 101) (hb hby at_94) ((if0 _ _).trans (flt (fun q => hc94_21 ((lw_gt _ _).1 q))).2.2.2) (by decide) (by decide) ?_
          refine G_iconst X19 hx (pc' := 102) rfl (hb hby at_101) (z := (0 : Int32)) rfl ?_
          refine G_istore X19 hx (pc' := 104) rfl (hb hby at_102) (L' := #[.val (.int v0), .val (.long v1), .second, .val (.int v2), .val (.int ((v0 &&& (2147483647 : Int32)) % (3 : Int32))), .val (.long v1), .second, .val (.ref aG), .val (.int (0 : Int32))]) rfl ?_
          refine G_aload X19 hx (pc' := 106) rfl (hb hby at_104) rfl rfl ?_
          refine G_lload X19 hx (pc' := 108) rfl (hb hby at_106) rfl ?_
          obtain ⟨cq21, kq21, q21a, q21b, q21c⟩ := isOf hZ e19 f5_E_aG
          obtain ⟨_, _, ⟨T21, L21, k21, n21⟩, -, X21, ⟨Lc21, hQ21, l21, y21, z21⟩, st21⟩ := X19.virtualBack hx (y := (⟨"com/example/fencing/fencing/protocol/Message$Token", "isValid", "(J)Z"⟩ : MethodName)) (z := (⟨"com/example/fencing/fencing/protocol/Message$Token", "isValid", "(J)Z"⟩ : MethodName)) hown (mvT hZ (hw _ (List.mem_of_getElem? (i := 4) rfl))) (mvT hZ (hw _ (List.mem_of_getElem? (i := 5) rfl))) (notFace_of_selects (args := #[]) (mvT hZ (hw _ (List.mem_of_getElem? (i := 7) rfl)))) (mvT hZ (hw _ (List.mem_of_getElem? (i := 7) rfl))) (mvT hZ (hw _ (List.mem_of_getElem? (i := 6) rfl))) (by decide) (backOf (W := 0) (rm_validO l Z a0 hw [] aG v1 aN (1 : Int64) h0 n0 Z0 f0_S_com_example_fencing_fencing_protocol_Message_Token ne_aG_aN f7_F_aG) hZ (hw _ (List.mem_of_getElem? (i := 8) rfl)) (hw _ (List.mem_of_getElem? (i := 2) rfl)) (by decide) (by decide)) q21a q21c (g := (mkF m 108 #[.val (.int v0), .val (.long v1), .second, .val (.int v2), .val (.int ((v0 &&& (2147483647 : Int32)) % (3 : Int32))), .val (.long v1), .second, .val (.ref aG), .val (.int (0 : Int32))] [(.long v1), (.ref aG)])) rfl (by rw [hml]; rfl) (Steps.refl _) (argsL := [(.long v1)]) (rest := []) (lenOf pd_0 rfl) rfl (by show 2 * 0 + _ ≤ _; exact Nat.le_of_eq rfl) (hb hby at_108) (fun _ _ => ⟨rfl, e19, (by decide : 0 + 0 ≤ _), (by decide : 0 + 0 ≤ _)⟩)
          dsimp only [Pt.U, Pt.locs, Pt.cells, Pt.slots] at X21 l21 y21 z21 st21 hQ21
          subst l21 y21 z21
          obtain ⟨rfl, N21q, e21⟩ := hQ21
          have N21 := Fr.app N0 N21q
          refine Go.st (fun _ k => st21.trans k) ?_
          show Go p e below s _ _ _ T21 (mkF m 111 #[.val (.int v0), .val (.long v1), .second, .val (.int v2), .val (.int ((v0 &&& (2147483647 : Int32)) % (3 : Int32))), .val (.long v1), .second, .val (.ref aG), .val (.int (0 : Int32))] [(.int (f_validO v1 (1 : Int64)))])
          refine G_iload X21 hx (pc' := 113) rfl (hb hby at_111) rfl ?_
          by_cases hc113_23 : (f_validO v1 (1 : Int64)) = (0 : Int32)
          · refine G_icmpNo X21 hx (pc' := 116) rfl (hb hby at_113) (teq hc113_23).2 ?_
            refine G_iconst X21 hx (pc' := 117) rfl (hb hby at_116) (z := (1 : Int32)) rfl ?_
            refine G_goto X21 hx (pc' := 121) (hb hby at_117)  (by decide) (by decide) ?_
            refine Go.fin X21 hlk (v := some (.int (1 : Int32))) (fun h => by rw [Bd.returns] at h; cases h) (by decide) (by decide) ?_ (fun fs hr => retN X21 hx (t := .boolean) Bd.returns (by simp) (hb hby at_121) hr)
            show Q_law Z v0 v1 v2 aN aK aG h0 n0 _ T21.heap _
            rw [e21]
            exact ⟨congrArg (fun z => some (Value.int z)) (by rw [f_law]; rw [if_neg hc11_1, if_neg hc32_13, if_neg hc60_17, if_neg hc94_21, if_pos hc113_23]), N21⟩
          · refine G_icmpYes X21 hx (pc' := 120) (hb hby at_113) (feq hc113_23).2 (by decide) (by decide) ?_
            refine G_iconst X21 hx (pc' := 121) rfl (hb hby at_120) (z := (0 : Int32)) rfl ?_
            refine Go.fin X21 hlk (v := some (.int (0 : Int32))) (fun h => by rw [Bd.returns] at h; cases h) (by decide) (by decide) ?_ (fun fs hr => retN X21 hx (t := .boolean) Bd.returns (by simp) (hb hby at_121) hr)
            show Q_law Z v0 v1 v2 aN aK aG h0 n0 _ T21.heap _
            rw [e21]
            exact ⟨congrArg (fun z => some (Value.int z)) (by rw [f_law]; rw [if_neg hc11_1, if_neg hc32_13, if_neg hc60_17, if_neg hc94_21, if_neg hc113_23]), N21⟩
theorem own_core (k : Int32) (t : Int64) : (if k = (0 : Int32) then (if t = (0 : Int64) then (if (f_validN t) = (1 : Int32) then (1 : Int32) else (0 : Int32)) else (if (f_validN t) = (0 : Int32) then (1 : Int32) else (0 : Int32))) else (if k = (1 : Int32) then (if t < (0 : Int64) then (if (f_validO t (0 : Int64)) = (0 : Int32) then (1 : Int32) else (0 : Int32)) else (if (f_validO t (0 : Int64)) = (1 : Int32) then (1 : Int32) else (0 : Int32))) else (if (0 : Int64) < t then (if (f_validO t (1 : Int64)) = (1 : Int32) then (1 : Int32) else (0 : Int32)) else (if (f_validO t (1 : Int64)) = (0 : Int32) then (1 : Int32) else (0 : Int32))))) = 1 := by
  have l0 : (0 : Int64).toInt = 0 := by decide
  have l1 : (1 : Int64).toInt = 1 := by decide
  have a1 : f_validN t = if t = 0 then 1 else 0 := rfl
  have a2 : f_validO t 0 = if t < 0 then 0 else 1 := rfl
  have a3 : f_validO t 1 = if t < 1 then 0 else 1 := rfl
  rw [a1, a2, a3]
  by_cases h0 : k = 0
  · rw [if_pos h0]
    by_cases h : t = 0
    · rw [if_pos h, if_pos h]; rfl
    · rw [if_neg h, if_neg h]; rfl
  · rw [if_neg h0]
    by_cases h1 : k = 1
    · rw [if_pos h1]
      by_cases h : t < 0
      · rw [if_pos h, if_pos h]; rfl
      · rw [if_neg h, if_neg h]; rfl
    · rw [if_neg h1]
      by_cases h : 0 < t
      · have h2 : ¬ t < 1 := by rw [Int64.lt_iff_toInt_lt] at *; omega
        rw [if_pos h, if_neg h2]; rfl
      · have h2 : t < 1 := by rw [Int64.lt_iff_toInt_lt] at *; omega
        rw [if_neg h, if_pos h2]; rfl
theorem own_law (a : Int32) (b : Int64) (c : Int32) : f_law a b c = 1 := by
  unfold f_law
  split <;> exact own_core _ _

set_option maxRecDepth 65536 in
set_option maxHeartbeats 40000000 in
theorem comes_1 {Post : Tables → Env → Array Value → State → Outcome → State → Prop} (hpost : ∀ tb e args s v u, (limb_1_1.after args s (.returned v) u = true ∧ limb_1_2.after args s (.returned v) u = true ∧ True) → FrameEnd s (.returned v) u (Jvm.fieldLocs frame_1_writes args s ++ Jvm.arrayLocs frame_1_arrays args s ++ Jvm.staticLocs frame_1_statics s) 0 0 → Post tb e args s (.returned v) u) :
    ArmFor flags0 classFile x code maxLocals ret World_1 tables_1 room_1 Calls_1 rest_1 Pre_1 Post := by
  intro l hfl _ _ p e ha hc hk s m args below hf hA hF happ hP
  obtain ⟨hcalls, hrest, hpre⟩ := hP
  obtain ⟨-, -, -, hnamed, -, -, -, hat⟩ := (Spec.applies_iff hf).mp happ
  obtain ⟨hg, hn⟩ := and_e (Cond.before_iff.mp (show (Jvm.Cond.and given_1 narrow_1).before args s = true from hpre))
  obtain ⟨hcnt, hg0⟩ := and_e hg
  obtain ⟨ha0, hg1⟩ := and_e hg0
  obtain ⟨ha1, hg2⟩ := and_e hg1
  have ha2 := hg2
  obtain ⟨w0, w1, w2, rfl⟩ : ∃ w0 w1 w2 : Value, args = #[w0, w1, w2] := by
    have hs : args.size = 3 := by simpa [Cond.value, given_1] using hcnt
    obtain ⟨L⟩ := args
    match L, hs with
    | [w0, w1, w2], _ => exact ⟨w0, w1, w2, rfl⟩
  have hw := fun d (hd : d ∈ tables_1) => atoms_spec (ws := Jvm.Cond.code x code maxLocals ret :: tables_1) hat d (List.mem_cons_of_mem _ hd)
  have hfit : Fit s := fun {y c} hc i hi => by
    obtain ⟨ha, rfl⟩ := Array.getElem?_eq_some_iff.mp hc
    have q := List.all_eq_true.mp ((Array.all_eq_true_iff_forall_mem.mp hF) _ (Array.getElem_mem ha)) i (List.mem_range.mpr hi)
    simpa [Array.getElem?_eq_getElem hi] using q
  obtain ⟨i0, ei0⟩ := is_v ha0
  obtain rfl : w0 = (.int i0) := Option.some.inj ei0
  obtain ⟨i1, ei1⟩ := isL_v ha1
  obtain rfl : w1 = (.long i1) := Option.some.inj ei1
  obtain ⟨i2, ei2⟩ := is_v ha2
  obtain rfl : w2 = (.int i2) := Option.some.inj ei2
  obtain ⟨n0, hn1⟩ := and_e hn
  obtain ⟨n1, hn2⟩ := and_e hn1
  obtain ⟨n2, hn3⟩ := and_e hn2
  obtain ⟨n3, hn4⟩ := and_e hn3
  obtain ⟨n4, hn5⟩ := and_e hn4
  obtain ⟨n5, hn6⟩ := and_e hn5
  obtain ⟨n6, hn7⟩ := and_e hn6
  obtain ⟨n7, n8⟩ := and_e hn7
  obtain ⟨aN, evN⟩ := own_ref n0
  obtain ⟨aK, evK⟩ := own_ref n1
  obtain ⟨aG, evG⟩ := own_ref n5
  have SN := Sta.start evN (Or.inr ⟨(hw _ (List.mem_of_getElem? (i := 2) rfl)), (hw _ (List.mem_of_getElem? (i := 3) rfl))⟩)
  have SK := Sta.start evK (Or.inr ⟨(hw _ (List.mem_of_getElem? (i := 2) rfl)), (hw _ (List.mem_of_getElem? (i := 11) rfl))⟩)
  have SG := Sta.start evG (Or.inr ⟨(hw _ (List.mem_of_getElem? (i := 2) rfl)), (hw _ (List.mem_of_getElem? (i := 15) rfl))⟩)
  have neK := (own_fldI evK n2).ne (own_fldI evN n3) (by decide)
  have neG := (own_fldI evG n6).ne (own_fldI evN n3) (by decide)
  obtain ⟨n, o, h1, h2, h3, v, L, rfl, ⟨hv, N⟩, hq⟩ := rm_law l s _ hw tables_1 i0 i1 i2 aN aK aG s.heap s.heap.size (Nat.le_refl _) SN SK SG (Exa.start evN n0) (Exa.start evK n1) (Exa.start evG n5) (own_fldJ evK n4) (own_fldJ evG n7) neK neG p e ha hc hk s m _ below hf ((Spec.applies_iff_loose hf).mp happ).1 ⟨rfl, State.Warmed39.refl s, rfl⟩ trivial
  rw [own_law i0 i1 i2] at hv
  subst hv
  refine ⟨n, _, h1, h2, h3, hpost _ _ _ _ _ _ ⟨Cond.after_iff.mpr rfl, Cond.after_iff.mpr (eq_i res_at (Term.int_eval (1)) rfl), trivial⟩ ⟨hq.1, hq.2.1, (hq.2.2.sift fun y hy => Or.inr (N y hy)).mono (by decide) (by decide)⟩⟩
theorem main_1_1 : Claimed_1_1 := comes_1 fun _ _ _ _ _ _ h hF => ⟨h.1, hF⟩
theorem main_1_2 : Claimed_1_2 := comes_1 fun _ _ _ _ _ _ h hF => ⟨h.2.1, hF⟩
end Jvm.Pilot.@@N@@
namespace Jvm.Pilot.@@N@@
open Jvm Jvm.ClassFile Sem Op Lib Jvm.Free Jvm.Stand Jvm.Pilot.@@N@@.Jvm.D
/-! MADE BY PROGRAM (witnessworld.py) out of the Statement's table words and the real class files: 12 classes; the members and pool entries that the words name. The judged class is class 1, her method 1. -/
namespace start1
open Jvm.ClassFile
def u (s : String) : CpInfo := .utf8 (stringToUtf16 s)
/-- a pool by its gaps: so many unusable entries, then the entry; so many at the end -/
def gap : Nat → List CpInfo → List CpInfo
  | 0, r => r
  | n + 1, r => .unusable :: gap n r
def poolList (es : List (Nat × CpInfo)) (last : Nat) : List CpInfo := es.foldr (fun e r => gap e.1 (e.2 :: r)) (gap last [])
def pool (es : List (Nat × CpInfo)) (last : Nat) : Array CpInfo := ⟨poolList es last⟩
def fileOf (pool : Array CpInfo) (this : Nat) (attrs : Array Attribute := #[]) (ms : Array MethodInfo := #[]) (fl : Nat := 33) (sup : Nat := 0) (ifs : Array Nat := #[]) (fds : Array FieldInfo := #[]) : ClassFile where
  minorVersion := 0
  majorVersion := 65
  constantPool := pool
  accessFlags := fl
  thisClass := this
  superClass := sup
  interfaces := ifs
  fields := fds
  methods := ms
  attributes := attrs
def plain (name : String) (sup : Option ClassId) : Class where
  name := name
  kind := .ordinary
  loader := none
  accessFlags := 33
  super := sup
  interfaces := #[]
  cf := none
  fields := #[]
  methods := #[]
  instanceTypes := #[]
  staticTypes := #[]
  resolved := #[]
  callSites := []
  init := .initialized
  statics := none
  mirror := none

def pool0 : Array CpInfo := pool [(5, u "<init>"), (0, u "()V"), (1, .class_ 10), (1, u "java/lang/Object")] 113

def k0m0 : Method := { name := "<init>", desc := "()V", sig := { parameters := [], returnType := none }, accessFlags := 1, code := none }
/-- java/lang/Object -/
def k0 : Class := { plain "java/lang/Object" none with
  accessFlags := 33
  interfaces := #[]
  cf := some (fileOf pool0 8 #[] #[{ accessFlags := 1, nameIndex := 5, descriptorIndex := 6, attributes := #[] }] 33 0 #[] #[])
  fields := #[]
  methods := #[k0m0]
  instanceTypes := #[]
  staticTypes := #[]
  resolved := Array.replicate 124 none
  statics := none }

def pool1 : Array CpInfo := pool [(2, .class_ 4), (1, u "java/lang/Object"), (0, u "<init>"), (0, u "()V"), (0, .integer 2147483647), (0, .fieldref 9 10), (0, .class_ 11), (0, .nameAndType 12 13), (0, u "com/example/fencing/fencing/protocol/Message$Token"), (0, u "NONE"), (0, u "Lcom/example/fencing/fencing/protocol/Message$Token;"), (0, .fieldref 9 15), (0, .nameAndType 16 13), (0, u "KNOWN"), (0, .fieldref 9 18), (0, .nameAndType 19 13), (0, u "GRANT"), (0, .methodref 9 21), (0, .nameAndType 22 23), (0, u "isValid"), (0, u "(J)Z"), (0, .class_ 25), (0, u "com/example/fencing/fencing/protocol/TokenIsValidPinLaw"), (2, u "law"), (0, u "(IJI)Z")] 7

def k1m0 : Method := { name := "<init>", desc := "()V", sig := { parameters := [], returnType := none }, accessFlags := 1, code := none }
def k1c1 : Code := { maxStack := 4, maxLocals := 9, code := code, exceptionTable := #[], attributes := #[] }
def k1m1 : Method := { name := "law", desc := "(IJI)Z", sig := { parameters := [.int, .long, .int], returnType := some .boolean }, accessFlags := 9, code := some k1c1 }
/-- com/example/fencing/fencing/protocol/TokenIsValidPinLaw -/
def k1 : Class := { plain "com/example/fencing/fencing/protocol/TokenIsValidPinLaw" (some 0) with
  accessFlags := 49
  interfaces := #[]
  cf := some (fileOf pool1 24 #[] #[{ accessFlags := 1, nameIndex := 5, descriptorIndex := 6, attributes := #[] }, { accessFlags := 9, nameIndex := 28, descriptorIndex := 29, attributes := #[] }] 49 2 #[] #[])
  fields := #[]
  methods := #[k1m0, k1m1]
  instanceTypes := #[]
  staticTypes := #[]
  resolved := Array.replicate 37 none
  statics := none }

def pool2 : Array CpInfo := pool [(1, .class_ 2), (0, u "java/lang/constant/Constable"), (0, .class_ 4), (0, u "java/lang/Object")] 6

/-- java/lang/constant/Constable -/
def k2 : Class := { plain "java/lang/constant/Constable" (some 0) with
  accessFlags := 1537
  interfaces := #[]
  cf := some (fileOf pool2 1 #[] #[] 1537 3 #[] #[])
  fields := #[]
  methods := #[]
  instanceTypes := #[]
  staticTypes := #[]
  resolved := Array.replicate 11 none
  statics := none }

def pool3 : Array CpInfo := pool [(1, .class_ 2), (0, u "java/lang/Comparable"), (0, .class_ 4), (0, u "java/lang/Object")] 7

/-- java/lang/Comparable -/
def k3 : Class := { plain "java/lang/Comparable" (some 0) with
  accessFlags := 1537
  interfaces := #[]
  cf := some (fileOf pool3 1 #[] #[] 1537 3 #[] #[])
  fields := #[]
  methods := #[]
  instanceTypes := #[]
  staticTypes := #[]
  resolved := Array.replicate 12 none
  statics := none }

def pool4 : Array CpInfo := pool [(1, .class_ 2), (0, u "java/io/Serializable"), (0, .class_ 4), (0, u "java/lang/Object")] 2

/-- java/io/Serializable -/
def k4 : Class := { plain "java/io/Serializable" (some 0) with
  accessFlags := 1537
  interfaces := #[]
  cf := some (fileOf pool4 1 #[] #[] 1537 3 #[] #[])
  fields := #[]
  methods := #[]
  instanceTypes := #[]
  staticTypes := #[]
  resolved := Array.replicate 7 none
  statics := none }

def pool5 : Array CpInfo := pool [(2, .class_ 4), (1, u "java/lang/Enum"), (0, u "name"), (0, u "Ljava/lang/String;"), (2, u "ordinal"), (0, u "I"), (1, .class_ 14), (1, u "java/lang/Object"), (4, u "hash"), (86, .class_ 108), (1, u "java/lang/Enum$EnumDesc"), (2, .class_ 112), (0, u "java/lang/constant/Constable"), (0, .class_ 114), (0, u "java/lang/Comparable"), (0, .class_ 116), (0, u "java/io/Serializable")] 87

/-- java/lang/Enum -/
def k5 : Class := { plain "java/lang/Enum" (some 0) with
  accessFlags := 1057
  interfaces := #[2, 3, 4]
  cf := some (fileOf pool5 2 #[.nestMembers #[106]] #[] 1057 12 #[111, 113, 115] #[{ accessFlags := 18, nameIndex := 5, descriptorIndex := 6, attributes := #[] }, { accessFlags := 18, nameIndex := 9, descriptorIndex := 10, attributes := #[] }, { accessFlags := 2, nameIndex := 19, descriptorIndex := 10, attributes := #[] }])
  fields := #[{ name := "name", type := (.object "java/lang/String"), accessFlags := 18, slot := 0, constantValue := 0 }, { name := "ordinal", type := .int, accessFlags := 18, slot := 1, constantValue := 0 }, { name := "hash", type := .int, accessFlags := 2, slot := 2, constantValue := 0 }]
  methods := #[]
  instanceTypes := #[(.object "java/lang/String"), .int, .int]
  staticTypes := #[]
  resolved := Array.replicate 204 none
  statics := none }

def pool6 : Array CpInfo := pool [(1, .class_ 2), (0, u "com/example/fencing/fencing/protocol/Message$Token"), (0, .fieldref 1 4), (0, .nameAndType 5 6), (0, u "NONE"), (0, u "Lcom/example/fencing/fencing/protocol/Message$Token;"), (2, u "KNOWN"), (2, u "GRANT"), (2, u "$VALUES"), (0, u "[Lcom/example/fencing/fencing/protocol/Message$Token;"), (6, .class_ 25), (1, u "java/lang/Enum"), (6, .fieldref 1 33), (0, .nameAndType 34 35), (0, u "least"), (0, u "J"), (17, u "isValid"), (0, u "(J)Z"), (7, .class_ 63), (0, u "com/example/fencing/fencing/protocol/Message")] 2

def k6c0 : Code := { maxStack := 4, maxLocals := 3, code := prog_12_method_4_code, exceptionTable := #[], attributes := #[] }
def k6m0 : Method := { name := "isValid", desc := "(J)Z", sig := { parameters := [.long], returnType := some .boolean }, accessFlags := 1, code := some k6c0 }
/-- com/example/fencing/fencing/protocol/Message$Token -/
def k6 : Class := { plain "com/example/fencing/fencing/protocol/Message$Token" (some 5) with
  accessFlags := 16433
  interfaces := #[]
  cf := some (fileOf pool6 1 #[.nestHost 62] #[{ accessFlags := 1, nameIndex := 53, descriptorIndex := 54, attributes := #[] }] 16433 23 #[] #[{ accessFlags := 16409, nameIndex := 5, descriptorIndex := 6, attributes := #[] }, { accessFlags := 16409, nameIndex := 9, descriptorIndex := 6, attributes := #[] }, { accessFlags := 16409, nameIndex := 12, descriptorIndex := 6, attributes := #[] }, { accessFlags := 18, nameIndex := 34, descriptorIndex := 35, attributes := #[] }, { accessFlags := 4122, nameIndex := 15, descriptorIndex := 16, attributes := #[] }])
  fields := #[{ name := "NONE", type := (.object "com/example/fencing/fencing/protocol/Message$Token"), accessFlags := 16409, slot := 0, constantValue := 0 }, { name := "KNOWN", type := (.object "com/example/fencing/fencing/protocol/Message$Token"), accessFlags := 16409, slot := 1, constantValue := 0 }, { name := "GRANT", type := (.object "com/example/fencing/fencing/protocol/Message$Token"), accessFlags := 16409, slot := 2, constantValue := 0 }, { name := "least", type := .long, accessFlags := 18, slot := 3, constantValue := 0 }, { name := "$VALUES", type := (.array (.object "com/example/fencing/fencing/protocol/Message$Token")), accessFlags := 4122, slot := 3, constantValue := 0 }]
  methods := #[k6m0]
  instanceTypes := #[(.object "java/lang/String"), .int, .int, .long]
  staticTypes := #[(.object "com/example/fencing/fencing/protocol/Message$Token"), (.object "com/example/fencing/fencing/protocol/Message$Token"), (.object "com/example/fencing/fencing/protocol/Message$Token"), (.array (.object "com/example/fencing/fencing/protocol/Message$Token"))]
  resolved := Array.replicate 66 none
  statics := some 0 }

def pool7 : Array CpInfo := pool [(1, u "java/lang/Cloneable"), (0, .class_ 1), (0, u "java/lang/Object"), (0, .class_ 3)] 3

/-- java/lang/Cloneable -/
def k7 : Class := { plain "java/lang/Cloneable" (some 0) with
  accessFlags := 1537
  interfaces := #[]
  cf := some (fileOf pool7 2 #[] #[] 1537 4 #[] #[])
  fields := #[]
  methods := #[]
  instanceTypes := #[]
  staticTypes := #[]
  resolved := Array.replicate 8 none
  statics := none }

/-- the primitive byte -/
def k8 : Class := { plain "byte" none with kind := .primitive 'B', accessFlags := 0x411 }
/-- [B -/
def k9 : Class := { plain "[B" (some 0) with kind := .array 8 .byte, interfaces := #[7, 4], accessFlags := 1041 }

/-- the primitive int -/
def k10 : Class := { plain "int" none with kind := .primitive 'I', accessFlags := 0x411 }
/-- [I -/
def k11 : Class := { plain "[I" (some 0) with kind := .array 10 .int, interfaces := #[7, 4], accessFlags := 1041 }

def heap : Heap := #[{ cls := 6, slots := #[.ref 1, .ref 2, .ref 3, .null], vm := .statics 6 },
  { cls := 6, slots := #[.null, .int 0, .int 0, .long 0], vm := .none },
  { cls := 6, slots := #[.null, .int 1, .int 0, .long 0], vm := .none },
  { cls := 6, slots := #[.null, .int 2, .int 0, .long 1], vm := .none }]
def classes : Array Class := #[k0, k1, k2, k3, k4, k5, k6, k7, k8, k9, k10, k11]
def interned : List (Array UInt16 × Addr) := []
def slotsUsed : Nat := 16
def theMethod : MethodId := ⟨1, 1⟩
def args0 : Array Value := #[.int 5, .long 7, .int 1]
def aboutOver (below : List Frame) : State where
  vm := { classes := classes, interned := interned.toArray }
  heap := heap
  slotsUsed := slotsUsed
  threads := #[{ frames := .invoking theMethod args0 :: below }]
def below0 : List Frame := [.native { method := ⟨0, 0⟩, args := #[] }]
def about1 : State := aboutOver below0
def p0 : Program := .bare "" "" ""
def e0 : Env := launch0.env 0 0 0
theorem w_frames : about1.frames = Frame.invoking theMethod args0 :: below0 := rfl
set_option maxRecDepth 65536 in
theorem w_args : argsFit about1.vm theMethod args0 = true := by decide +kernel
set_option maxRecDepth 65536 in
theorem w_heap : heapFits about1 = true := by decide +kernel
set_option maxRecDepth 65536 in
theorem w_runnable : about1.curStatus? = some .runnable := by decide +kernel
set_option maxRecDepth 65536 in
theorem w_alone : about1.alone = true := by decide +kernel
set_option maxRecDepth 65536 in
theorem w_named : about1.methodNamed? x = some theMethod := by decide +kernel
set_option maxRecDepth 65536 in
theorem w_hears : about1.hears theMethod below0 = true := by decide +kernel
set_option maxRecDepth 65536 in
theorem w_ripe : about1.ripe theMethod args0 below0 = true := by decide +kernel
theorem w_running : about1.status = .running := rfl
set_option maxRecDepth 65536 in
theorem w_room : about1.hasRoom e0.platform room_1 = true :=
  launch0.hasRoom_least _ room_1 (by decide +kernel) (by decide +kernel) (by decide +kernel) (by decide +kernel) (by decide +kernel) (by decide +kernel)
theorem allAtoms_all (ts : List Jvm.Cond) (a : Array Jvm.Value) (st : Jvm.State) : (allAtoms ts).before a st = ts.all (fun c => c.before a st) := by
  induction ts with
  | nil => rfl
  | cons c t ih =>
    show (Jvm.Cond.and c (allAtoms t)).before a st = _
    rw [Jvm.Cond.before_and, ih, List.all_cons]
def words1 : List Jvm.Cond := Jvm.Cond.code x code maxLocals ret :: tables_1
/-- a 'code' word, met by the world's own term for the bytes: nothing is compared byte by byte -/
theorem code_word {y : MethodName} {bytes : ByteArray} {mx : Nat} {rt : Option FieldType} {a : Array Value} {s : State} {m : MethodId} {meth : Method} {c : Code} (h1 : s.methodNamed? y = some m) (h2 : s.vm.method? m = some meth) (h3 : meth.code = some c) (h4 : c.code = bytes)
    (h5 : (c.maxLocals == mx && c.exceptionTable.isEmpty && decide (c.maxStack ≤ mostOperands) && decide (meth.sig.returnType = rt) && !meth.locks && decide (parseMethodDescriptor y.desc = some meth.sig)) = true) : (Jvm.Cond.code y bytes mx rt).before a s = true := by
  simp only [Bool.and_eq_true, beq_iff_eq, Bool.not_eq_true', decide_eq_true_eq] at h5
  obtain ⟨⟨⟨⟨⟨g1, g2⟩, g3⟩, g4⟩, g5⟩, g6⟩ := h5
  simp [Cond.before, Cond.holds, Cond.value, h1, h2, h3, h4, g1, g2, g3, g4, g5, g6]
def isCode : Jvm.Cond → Bool
  | .code _ _ _ _ => true
  | _ => false
theorem all_split {L : List Jvm.Cond} {P : Jvm.Cond → Bool} (h1 : L.all (fun c => isCode c || P c) = true) (h2 : ∀ c ∈ L.filter isCode, P c = true) : L.all P = true := by
  refine List.all_eq_true.mpr fun c hc => ?_
  have h := List.all_eq_true.mp h1 c hc
  rcases Bool.eq_false_or_eq_true (isCode c) with hi | hi
  · exact h2 c (List.mem_filter.mpr ⟨hc, hi⟩)
  · simpa [hi] using h
set_option maxRecDepth 65536 in
theorem w_c0 : (Jvm.Cond.code x code maxLocals ret).before args0 about1 = true := code_word (m := ⟨1, 1⟩) (meth := k1m1) (c := k1c1) (by decide +kernel) rfl rfl rfl (by decide +kernel)
set_option maxRecDepth 65536 in
theorem w_c1 : (Jvm.Cond.code ({ cls := "com/example/fencing/fencing/protocol/Message$Token", name := "isValid", desc := "(J)Z" } : Jvm.MethodName) prog_12_method_4_code (3 : Nat) (Option.some Jvm.ClassFile.FieldType.boolean)).before args0 about1 = true := code_word (m := ⟨6, 0⟩) (meth := k6m0) (c := k6c0) (by decide +kernel) rfl rfl rfl (by decide +kernel)
def codes1 : List Jvm.Cond := [Jvm.Cond.code x code maxLocals ret, Jvm.Cond.code ({ cls := "com/example/fencing/fencing/protocol/Message$Token", name := "isValid", desc := "(J)Z" } : Jvm.MethodName) prog_12_method_4_code (3 : Nat) (Option.some Jvm.ClassFile.FieldType.boolean)]
set_option maxRecDepth 65536 in
theorem codes_eq : words1.filter isCode = codes1 := rfl
theorem w_codes : ∀ c ∈ words1.filter isCode, c.before args0 about1 = true := by
  rw [codes_eq]
  intro c hc
  simp only [codes1, List.mem_cons, List.not_mem_nil, or_false] at hc
  rcases hc with rfl | rfl
  · exact w_c0
  · exact w_c1
set_option maxRecDepth 65536 in
theorem w_t1 : words1.all (fun c => isCode c || c.before args0 about1) = true := by decide +kernel
theorem w_tables : (allAtoms (Jvm.Cond.code x code maxLocals ret :: tables_1)).before args0 about1 = true := by
  rw [allAtoms_all]
  show words1.all (fun c => c.before args0 about1) = true
  refine all_split ?_ w_codes
  rw [w_t1]
set_option maxRecDepth 65536 in
theorem w_case : (Jvm.Cond.and given_1 narrow_1).before args0 about1 = true := by decide +kernel
theorem w_applies : (headSpec (Jvm.Cond.code x code maxLocals ret :: tables_1) room_1).applies x e0.platform about1 = true :=
  (Spec.applies_iff w_frames).mpr ⟨w_running, w_runnable, w_alone, w_named, w_hears, w_ripe, w_room, w_tables⟩
theorem atStart : AtStart classFile x code maxLocals ret World_1 tables_1 room_1 Calls_1 rest_1 Pre_1 launch0 p0 e0 about1 theMethod args0 below0 :=
  ⟨lists_1, trivial, launch0.admits_env _ _ _, launch0.least_env, fairChoices_fair.cas, fairChoices_fair.clock, w_frames, w_args, w_heap, w_applies, trivial, trivial, w_case⟩
end start1
theorem witness_1 : WitnessClaimed_1 := ⟨start1.p0, start1.e0, start1.about1, start1.theMethod, start1.args0, start1.below0, start1.atStart⟩
end Jvm.Pilot.@@N@@
