import JvmDerived
import JvmDerived.Pilot.@@N@@Statement
import JvmDerived.Pilot.@@N@@Code
set_option linter.unusedVariables false
set_option linter.unusedSimpArgs false
namespace Jvm.Pilot.@@N@@
open Jvm Jvm.ClassFile Sem Op Lib Jvm.Free Jvm.Stand Jvm.LawKit Jvm.RoadKit Bundle Jvm.Pilot.@@N@@.Jvm.D
section Own
variable {p : Program} {l : Launch} {e : Env} {R : Room} {s : State} {m : MethodId} {args : Array Value} {below : List Frame} {meth : Method} {c : Code} {T T' : State} {locs : List Loc} {cells slots C N : Nat} {Q : Option Value → Heap → List Loc → Prop} {g g' : JFrame}
/-- from T with the frame g on top the invocation of s comes to its end: it returns, and Q holds of what it returns, of the heap and of the places written -/
def Go (p : Program) (e : Env) (below : List Frame) (s : State) (C N : Nat) (Q : Option Value → Heap → List Loc → Prop) (T : State) (g : JFrame) : Prop :=
  ∃ s₂ o, Steps p.tables e below (T.setTop g) s₂ ∧ s₂.status = .running ∧ Ended s₂ below o ∧ ∃ v L, o = .returned v ∧ Q v s₂.heap L ∧ FrameEnd s o s₂ L C N
theorem Go.st (h : ∀ t, Steps p.tables e below (T'.setTop g') t → Steps p.tables e below (T.setTop g) t) (k : Go p e below s C N Q T' g') : Go p e below s C N Q T g := by
  obtain ⟨s2, o, h1, h2⟩ := k
  exact ⟨s2, o, h _ h1, h2⟩
theorem Go.enter (q : g = g') (k : Go p e below s C N Q T g') : ∃ s₂ o, Steps p.tables e below (T.setTop g) s₂ ∧ s₂.status = .running ∧ Ended s₂ below o ∧ ∃ v L, o = .returned v ∧ Q v s₂.heap L ∧ FrameEnd s o s₂ L C N := by
  subst q; exact k
theorem Go.fin (X : Stand p l e R s m args below meth c T locs cells slots) (hlk : meth.locks = false) {v : Option Value} (hv : meth.sig.returnType = none → v = none) (hC : cells ≤ C) (hN : slots ≤ N) (hq : Q v T.heap locs)
    (hs : ∀ fs, (∀ (f : JFrame) (acts : List Action), f.method = m → f.locked = none → f.entered = [] → (doReturn e (T.setTop f) acts v).1 = T.setFrames fs) → Steps p.tables e below (T.setTop g) (T.setFrames fs)) : Go p e below s C N Q T g := by
  obtain ⟨fs, hr, hrun, hended, hW, hsame⟩ := X.leave hv hlk
  exact ⟨_, _, hs fs hr, hrun, hended, _, _, rfl, hq, ⟨_, rfl⟩, hW, hsame.mono hC hN⟩
end Own

section OwnG
variable {p : Program} {l : Launch} {e : Env} {R : Room} {s : State} {m : MethodId} {args : Array Value} {below : List Frame} {meth : Method} {c : Code} {T : State} {locs : List Loc} {cells slots C N : Nat} {Q : Option Value → Heap → List Loc → Prop} {pc pc' : Nat} {L L' : Array Slot} {S : List Value}
theorem G_iloadN (X : Stand p l e R s m args below meth c T locs cells slots) (hx : p.tables.exec = Jvm.exec) {k : Fin 4} {v : Int32} (hp : pc + 1 = pc') (hd : decode c.code pc = .ok (.iload_n k, 1)) (hl : L[k.val]? = some (.val (.int v))) (h : Go p e below s C N Q T (mkF m pc' L (.int v :: S))) : Go p e below s C N Q T (mkF m pc L S) := by
  subst hp; exact Go.st (fun _ k => XS.iloadN X.here hx rfl hd hl k) h
theorem G_iload (X : Stand p l e R s m args below meth c T locs cells slots) (hx : p.tables.exec = Jvm.exec) {k : Nat} {v : Int32} (hp : pc + 2 = pc') (hd : decode c.code pc = .ok (.iload k, 2)) (hl : L[k]? = some (.val (.int v))) (h : Go p e below s C N Q T (mkF m pc' L (.int v :: S))) : Go p e below s C N Q T (mkF m pc L S) := by
  subst hp; exact Go.st (fun _ k => XS.iload X.here hx rfl hd hl k) h
theorem G_istoreN (X : Stand p l e R s m args below meth c T locs cells slots) (hx : p.tables.exec = Jvm.exec) {k : Fin 4} {v : Int32} (hp : pc + 1 = pc') (hd : decode c.code pc = .ok (.istore_n k, 1)) (hl : storeLocals L k.val (.int v) = some L') (h : Go p e below s C N Q T (mkF m pc' L' S)) : Go p e below s C N Q T (mkF m pc L (.int v :: S)) := by
  subst hp; exact Go.st (fun _ k => XS.istoreN X.here hx rfl hd rfl hl k) h
theorem G_istore (X : Stand p l e R s m args below meth c T locs cells slots) (hx : p.tables.exec = Jvm.exec) {k : Nat} {v : Int32} (hp : pc + 2 = pc') (hd : decode c.code pc = .ok (.istore k, 2)) (hl : storeLocals L k (.int v) = some L') (h : Go p e below s C N Q T (mkF m pc' L' S)) : Go p e below s C N Q T (mkF m pc L (.int v :: S)) := by
  subst hp; exact Go.st (fun _ k => XS.istore X.here hx rfl hd rfl hl k) h
theorem G_lloadN (X : Stand p l e R s m args below meth c T locs cells slots) (hx : p.tables.exec = Jvm.exec) {k : Fin 4} {v : Int64} (hp : pc + 1 = pc') (hd : decode c.code pc = .ok (.lload_n k, 1)) (hl : L[k.val]? = some (.val (.long v))) (h : Go p e below s C N Q T (mkF m pc' L (.long v :: S))) : Go p e below s C N Q T (mkF m pc L S) := by
  subst hp; exact Go.st (fun _ k => XS.lloadN X.here hx rfl hd hl k) h
theorem G_lload (X : Stand p l e R s m args below meth c T locs cells slots) (hx : p.tables.exec = Jvm.exec) {k : Nat} {v : Int64} (hp : pc + 2 = pc') (hd : decode c.code pc = .ok (.lload k, 2)) (hl : L[k]? = some (.val (.long v))) (h : Go p e below s C N Q T (mkF m pc' L (.long v :: S))) : Go p e below s C N Q T (mkF m pc L S) := by
  subst hp; exact Go.st (fun _ k => XS.lload X.here hx rfl hd hl k) h
theorem G_lstoreN (X : Stand p l e R s m args below meth c T locs cells slots) (hx : p.tables.exec = Jvm.exec) {k : Fin 4} {v : Int64} (hp : pc + 1 = pc') (hd : decode c.code pc = .ok (.lstore_n k, 1)) (hl : storeLocals L k.val (.long v) = some L') (h : Go p e below s C N Q T (mkF m pc' L' S)) : Go p e below s C N Q T (mkF m pc L (.long v :: S)) := by
  subst hp; exact Go.st (fun _ k => XS.lstoreN X.here hx rfl hd rfl hl k) h
theorem G_lstore (X : Stand p l e R s m args below meth c T locs cells slots) (hx : p.tables.exec = Jvm.exec) {k : Nat} {v : Int64} (hp : pc + 2 = pc') (hd : decode c.code pc = .ok (.lstore k, 2)) (hl : storeLocals L k (.long v) = some L') (h : Go p e below s C N Q T (mkF m pc' L' S)) : Go p e below s C N Q T (mkF m pc L (.long v :: S)) := by
  subst hp; exact Go.st (fun _ k => XS.lstore X.here hx rfl hd rfl hl k) h
theorem G_aloadN (X : Stand p l e R s m args below meth c T locs cells slots) (hx : p.tables.exec = Jvm.exec) {k : Fin 4} {v : Value} (hp : pc + 1 = pc') (hd : decode c.code pc = .ok (.aload_n k, 1)) (hl : L[k.val]? = some (.val v)) (hv : v.isRef = true) (h : Go p e below s C N Q T (mkF m pc' L (v :: S))) : Go p e below s C N Q T (mkF m pc L S) := by
  subst hp; exact Go.st (fun _ k => XS.aloadN X.here hx rfl hd hl hv k) h
theorem G_aload (X : Stand p l e R s m args below meth c T locs cells slots) (hx : p.tables.exec = Jvm.exec) {k : Nat} {v : Value} (hp : pc + 2 = pc') (hd : decode c.code pc = .ok (.aload k, 2)) (hl : L[k]? = some (.val v)) (hv : v.isRef = true) (h : Go p e below s C N Q T (mkF m pc' L (v :: S))) : Go p e below s C N Q T (mkF m pc L S) := by
  subst hp; exact Go.st (fun _ k => XS.aload X.here hx rfl hd hl hv k) h
theorem G_astoreN (X : Stand p l e R s m args below meth c T locs cells slots) (hx : p.tables.exec = Jvm.exec) {k : Fin 4} {v : Value} (hp : pc + 1 = pc') (hd : decode c.code pc = .ok (.astore_n k, 1)) (hv : v.isRef = true) (hl : storeLocals L k.val v = some L') (h : Go p e below s C N Q T (mkF m pc' L' S)) : Go p e below s C N Q T (mkF m pc L (v :: S)) := by
  subst hp; exact Go.st (fun _ k => XS.astoreN X.here hx rfl hd rfl hv hl k) h
theorem G_astore (X : Stand p l e R s m args below meth c T locs cells slots) (hx : p.tables.exec = Jvm.exec) {k : Nat} {v : Value} (hp : pc + 2 = pc') (hd : decode c.code pc = .ok (.astore k, 2)) (hv : v.isRef = true) (hl : storeLocals L k v = some L') (h : Go p e below s C N Q T (mkF m pc' L' S)) : Go p e below s C N Q T (mkF m pc L (v :: S)) := by
  subst hp; exact Go.st (fun _ k => XS.astore X.here hx rfl hd rfl hv hl k) h
theorem G_iconst (X : Stand p l e R s m args below meth c T locs cells slots) (hx : p.tables.exec = Jvm.exec) {i : Int} {z : Int32} (hp : pc + 1 = pc') (hd : decode c.code pc = .ok (.iconst i, 1)) (hz : Int32.ofInt i = z) (h : Go p e below s C N Q T (mkF m pc' L (.int z :: S))) : Go p e below s C N Q T (mkF m pc L S) := by
  subst hp; exact Go.st (fun _ k => XS.iconst X.here hx rfl hd (by rw [hz]; exact k)) h
theorem G_bipush (X : Stand p l e R s m args below meth c T locs cells slots) (hx : p.tables.exec = Jvm.exec) {i : Int} {z : Int32} (hp : pc + 2 = pc') (hd : decode c.code pc = .ok (.bipush i, 2)) (hz : (Int8.ofInt i).toInt32 = z) (h : Go p e below s C N Q T (mkF m pc' L (.int z :: S))) : Go p e below s C N Q T (mkF m pc L S) := by
  subst hp; exact Go.st (fun _ k => XS.bipush X.here hx rfl hd (by rw [hz]; exact k)) h
theorem G_sipush (X : Stand p l e R s m args below meth c T locs cells slots) (hx : p.tables.exec = Jvm.exec) {i : Int} {z : Int32} (hp : pc + 3 = pc') (hd : decode c.code pc = .ok (.sipush i, 3)) (hz : (Int16.ofInt i).toInt32 = z) (h : Go p e below s C N Q T (mkF m pc' L (.int z :: S))) : Go p e below s C N Q T (mkF m pc L S) := by
  subst hp; exact Go.st (fun _ k => XS.sipush X.here hx rfl hd (by rw [hz]; exact k)) h
theorem G_lconst (X : Stand p l e R s m args below meth c T locs cells slots) (hx : p.tables.exec = Jvm.exec) {i : Fin 2} {z : Int64} (hp : pc + 1 = pc') (hd : decode c.code pc = .ok (.lconst i, 1)) (hz : Int64.ofNat i = z) (h : Go p e below s C N Q T (mkF m pc' L (.long z :: S))) : Go p e below s C N Q T (mkF m pc L S) := by
  subst hp; exact Go.st (fun _ k => XS.lconst X.here hx rfl hd (by rw [hz]; exact k)) h
theorem G_aconstNull (X : Stand p l e R s m args below meth c T locs cells slots) (hx : p.tables.exec = Jvm.exec)  (hp : pc + 1 = pc') (hd : decode c.code pc = .ok (.aconst_null, 1))  (h : Go p e below s C N Q T (mkF m pc' L (.null :: S))) : Go p e below s C N Q T (mkF m pc L S) := by
  subst hp; exact Go.st (fun _ k => XS.aconstNull X.here hx rfl hd k) h
theorem G_iadd (X : Stand p l e R s m args below meth c T locs cells slots) (hx : p.tables.exec = Jvm.exec) {x y : Int32} (hp : pc + 1 = pc') (hd : decode c.code pc = .ok (.iadd, 1))  (h : Go p e below s C N Q T (mkF m pc' L (.int (x + y) :: S))) : Go p e below s C N Q T (mkF m pc L (.int y :: .int x :: S)) := by
  subst hp; exact Go.st (fun _ k => XS.iadd X.here hx rfl hd rfl k) h
theorem G_isub (X : Stand p l e R s m args below meth c T locs cells slots) (hx : p.tables.exec = Jvm.exec) {x y : Int32} (hp : pc + 1 = pc') (hd : decode c.code pc = .ok (.isub, 1))  (h : Go p e below s C N Q T (mkF m pc' L (.int (x - y) :: S))) : Go p e below s C N Q T (mkF m pc L (.int y :: .int x :: S)) := by
  subst hp; exact Go.st (fun _ k => XS.isub X.here hx rfl hd rfl k) h
theorem G_imul (X : Stand p l e R s m args below meth c T locs cells slots) (hx : p.tables.exec = Jvm.exec) {x y : Int32} (hp : pc + 1 = pc') (hd : decode c.code pc = .ok (.imul, 1))  (h : Go p e below s C N Q T (mkF m pc' L (.int (x * y) :: S))) : Go p e below s C N Q T (mkF m pc L (.int y :: .int x :: S)) := by
  subst hp; exact Go.st (fun _ k => XS.imul X.here hx rfl hd rfl k) h
theorem G_iand (X : Stand p l e R s m args below meth c T locs cells slots) (hx : p.tables.exec = Jvm.exec) {x y : Int32} (hp : pc + 1 = pc') (hd : decode c.code pc = .ok (.iand, 1))  (h : Go p e below s C N Q T (mkF m pc' L (.int (x &&& y) :: S))) : Go p e below s C N Q T (mkF m pc L (.int y :: .int x :: S)) := by
  subst hp; exact Go.st (fun _ k => XS.iand X.here hx rfl hd rfl k) h
theorem G_ior (X : Stand p l e R s m args below meth c T locs cells slots) (hx : p.tables.exec = Jvm.exec) {x y : Int32} (hp : pc + 1 = pc') (hd : decode c.code pc = .ok (.ior, 1))  (h : Go p e below s C N Q T (mkF m pc' L (.int (x ||| y) :: S))) : Go p e below s C N Q T (mkF m pc L (.int y :: .int x :: S)) := by
  subst hp; exact Go.st (fun _ k => XS.ior X.here hx rfl hd rfl k) h
theorem G_ixor (X : Stand p l e R s m args below meth c T locs cells slots) (hx : p.tables.exec = Jvm.exec) {x y : Int32} (hp : pc + 1 = pc') (hd : decode c.code pc = .ok (.ixor, 1))  (h : Go p e below s C N Q T (mkF m pc' L (.int (x ^^^ y) :: S))) : Go p e below s C N Q T (mkF m pc L (.int y :: .int x :: S)) := by
  subst hp; exact Go.st (fun _ k => XS.ixor X.here hx rfl hd rfl k) h
theorem G_ishl (X : Stand p l e R s m args below meth c T locs cells slots) (hx : p.tables.exec = Jvm.exec) {x y : Int32} (hp : pc + 1 = pc') (hd : decode c.code pc = .ok (.ishl, 1))  (h : Go p e below s C N Q T (mkF m pc' L (.int (x <<< (y &&& 31)) :: S))) : Go p e below s C N Q T (mkF m pc L (.int y :: .int x :: S)) := by
  subst hp; exact Go.st (fun _ k => XS.ishl X.here hx rfl hd rfl k) h
theorem G_ishr (X : Stand p l e R s m args below meth c T locs cells slots) (hx : p.tables.exec = Jvm.exec) {x y : Int32} (hp : pc + 1 = pc') (hd : decode c.code pc = .ok (.ishr, 1))  (h : Go p e below s C N Q T (mkF m pc' L (.int (x >>> (y &&& 31)) :: S))) : Go p e below s C N Q T (mkF m pc L (.int y :: .int x :: S)) := by
  subst hp; exact Go.st (fun _ k => XS.ishr X.here hx rfl hd rfl k) h
theorem G_iushr (X : Stand p l e R s m args below meth c T locs cells slots) (hx : p.tables.exec = Jvm.exec) {x y : Int32} (hp : pc + 1 = pc') (hd : decode c.code pc = .ok (.iushr, 1))  (h : Go p e below s C N Q T (mkF m pc' L (.int ((x.toUInt32 >>> (y &&& 31).toUInt32).toInt32) :: S))) : Go p e below s C N Q T (mkF m pc L (.int y :: .int x :: S)) := by
  subst hp; exact Go.st (fun _ k => XS.iushr X.here hx rfl hd rfl k) h
theorem G_ladd (X : Stand p l e R s m args below meth c T locs cells slots) (hx : p.tables.exec = Jvm.exec) {x y : Int64} (hp : pc + 1 = pc') (hd : decode c.code pc = .ok (.ladd, 1))  (h : Go p e below s C N Q T (mkF m pc' L (.long (x + y) :: S))) : Go p e below s C N Q T (mkF m pc L (.long y :: .long x :: S)) := by
  subst hp; exact Go.st (fun _ k => XS.ladd X.here hx rfl hd rfl k) h
theorem G_lsub (X : Stand p l e R s m args below meth c T locs cells slots) (hx : p.tables.exec = Jvm.exec) {x y : Int64} (hp : pc + 1 = pc') (hd : decode c.code pc = .ok (.lsub, 1))  (h : Go p e below s C N Q T (mkF m pc' L (.long (x - y) :: S))) : Go p e below s C N Q T (mkF m pc L (.long y :: .long x :: S)) := by
  subst hp; exact Go.st (fun _ k => XS.lsub X.here hx rfl hd rfl k) h
theorem G_lmul (X : Stand p l e R s m args below meth c T locs cells slots) (hx : p.tables.exec = Jvm.exec) {x y : Int64} (hp : pc + 1 = pc') (hd : decode c.code pc = .ok (.lmul, 1))  (h : Go p e below s C N Q T (mkF m pc' L (.long (x * y) :: S))) : Go p e below s C N Q T (mkF m pc L (.long y :: .long x :: S)) := by
  subst hp; exact Go.st (fun _ k => XS.lmul X.here hx rfl hd rfl k) h
theorem G_land (X : Stand p l e R s m args below meth c T locs cells slots) (hx : p.tables.exec = Jvm.exec) {x y : Int64} (hp : pc + 1 = pc') (hd : decode c.code pc = .ok (.land, 1))  (h : Go p e below s C N Q T (mkF m pc' L (.long (x &&& y) :: S))) : Go p e below s C N Q T (mkF m pc L (.long y :: .long x :: S)) := by
  subst hp; exact Go.st (fun _ k => XS.land X.here hx rfl hd rfl k) h
theorem G_lor (X : Stand p l e R s m args below meth c T locs cells slots) (hx : p.tables.exec = Jvm.exec) {x y : Int64} (hp : pc + 1 = pc') (hd : decode c.code pc = .ok (.lor, 1))  (h : Go p e below s C N Q T (mkF m pc' L (.long (x ||| y) :: S))) : Go p e below s C N Q T (mkF m pc L (.long y :: .long x :: S)) := by
  subst hp; exact Go.st (fun _ k => XS.lor X.here hx rfl hd rfl k) h
theorem G_lxor (X : Stand p l e R s m args below meth c T locs cells slots) (hx : p.tables.exec = Jvm.exec) {x y : Int64} (hp : pc + 1 = pc') (hd : decode c.code pc = .ok (.lxor, 1))  (h : Go p e below s C N Q T (mkF m pc' L (.long (x ^^^ y) :: S))) : Go p e below s C N Q T (mkF m pc L (.long y :: .long x :: S)) := by
  subst hp; exact Go.st (fun _ k => XS.lxor X.here hx rfl hd rfl k) h
theorem G_lshl (X : Stand p l e R s m args below meth c T locs cells slots) (hx : p.tables.exec = Jvm.exec) {x : Int64} {y : Int32} (hp : pc + 1 = pc') (hd : decode c.code pc = .ok (.lshl, 1))  (h : Go p e below s C N Q T (mkF m pc' L (.long (x <<< (y &&& 0x3f).toInt64) :: S))) : Go p e below s C N Q T (mkF m pc L (.int y :: .long x :: S)) := by
  subst hp; exact Go.st (fun _ k => XS.lshl X.here hx rfl hd rfl k) h
theorem G_lshr (X : Stand p l e R s m args below meth c T locs cells slots) (hx : p.tables.exec = Jvm.exec) {x : Int64} {y : Int32} (hp : pc + 1 = pc') (hd : decode c.code pc = .ok (.lshr, 1))  (h : Go p e below s C N Q T (mkF m pc' L (.long (x >>> (y &&& 0x3f).toInt64) :: S))) : Go p e below s C N Q T (mkF m pc L (.int y :: .long x :: S)) := by
  subst hp; exact Go.st (fun _ k => XS.lshr X.here hx rfl hd rfl k) h
theorem G_lushr (X : Stand p l e R s m args below meth c T locs cells slots) (hx : p.tables.exec = Jvm.exec) {x : Int64} {y : Int32} (hp : pc + 1 = pc') (hd : decode c.code pc = .ok (.lushr, 1))  (h : Go p e below s C N Q T (mkF m pc' L (.long ((x.toUInt64 >>> (y &&& 0x3f).toInt64.toUInt64).toInt64) :: S))) : Go p e below s C N Q T (mkF m pc L (.int y :: .long x :: S)) := by
  subst hp; exact Go.st (fun _ k => XS.lushr X.here hx rfl hd rfl k) h
theorem G_idiv (X : Stand p l e R s m args below meth c T locs cells slots) (hx : p.tables.exec = Jvm.exec) {x y : Int32} (hp : pc + 1 = pc') (hd : decode c.code pc = .ok (.idiv, 1)) (hy : y ≠ 0) (h : Go p e below s C N Q T (mkF m pc' L (.int (x / y) :: S))) : Go p e below s C N Q T (mkF m pc L (.int y :: .int x :: S)) := by
  subst hp; exact Go.st (fun _ k => XS.idiv X.here hx rfl hd rfl hy k) h
theorem G_irem (X : Stand p l e R s m args below meth c T locs cells slots) (hx : p.tables.exec = Jvm.exec) {x y : Int32} (hp : pc + 1 = pc') (hd : decode c.code pc = .ok (.irem, 1)) (hy : y ≠ 0) (h : Go p e below s C N Q T (mkF m pc' L (.int (x % y) :: S))) : Go p e below s C N Q T (mkF m pc L (.int y :: .int x :: S)) := by
  subst hp; exact Go.st (fun _ k => iremM X hx rfl hd rfl hy k) h
theorem G_ldiv (X : Stand p l e R s m args below meth c T locs cells slots) (hx : p.tables.exec = Jvm.exec) {x y : Int64} (hp : pc + 1 = pc') (hd : decode c.code pc = .ok (.ldiv, 1)) (hy : y ≠ 0) (h : Go p e below s C N Q T (mkF m pc' L (.long (x / y) :: S))) : Go p e below s C N Q T (mkF m pc L (.long y :: .long x :: S)) := by
  subst hp; exact Go.st (fun _ k => XS.ldiv X.here hx rfl hd rfl hy k) h
theorem G_lrem (X : Stand p l e R s m args below meth c T locs cells slots) (hx : p.tables.exec = Jvm.exec) {x y : Int64} (hp : pc + 1 = pc') (hd : decode c.code pc = .ok (.lrem, 1)) (hy : y ≠ 0) (h : Go p e below s C N Q T (mkF m pc' L (.long (x % y) :: S))) : Go p e below s C N Q T (mkF m pc L (.long y :: .long x :: S)) := by
  subst hp; exact Go.st (fun _ k => XS.lrem X.here hx rfl hd rfl hy (by rw [lrem_mod]; exact k)) h
theorem G_ineg (X : Stand p l e R s m args below meth c T locs cells slots) (hx : p.tables.exec = Jvm.exec) {x : Int32} (hp : pc + 1 = pc') (hd : decode c.code pc = .ok (.ineg, 1))  (h : Go p e below s C N Q T (mkF m pc' L (.int (-x) :: S))) : Go p e below s C N Q T (mkF m pc L (.int x :: S)) := by
  subst hp; exact Go.st (fun _ k => XS.ineg X.here hx rfl hd rfl k) h
theorem G_lneg (X : Stand p l e R s m args below meth c T locs cells slots) (hx : p.tables.exec = Jvm.exec) {x : Int64} (hp : pc + 1 = pc') (hd : decode c.code pc = .ok (.lneg, 1))  (h : Go p e below s C N Q T (mkF m pc' L (.long (-x) :: S))) : Go p e below s C N Q T (mkF m pc L (.long x :: S)) := by
  subst hp; exact Go.st (fun _ k => XS.lneg X.here hx rfl hd rfl k) h
theorem G_i2l (X : Stand p l e R s m args below meth c T locs cells slots) (hx : p.tables.exec = Jvm.exec) {x : Int32} (hp : pc + 1 = pc') (hd : decode c.code pc = .ok (.i2l, 1))  (h : Go p e below s C N Q T (mkF m pc' L (.long (x.toInt64) :: S))) : Go p e below s C N Q T (mkF m pc L (.int x :: S)) := by
  subst hp; exact Go.st (fun _ k => XS.i2l X.here hx rfl hd rfl k) h
theorem G_l2i (X : Stand p l e R s m args below meth c T locs cells slots) (hx : p.tables.exec = Jvm.exec) {x : Int64} (hp : pc + 1 = pc') (hd : decode c.code pc = .ok (.l2i, 1))  (h : Go p e below s C N Q T (mkF m pc' L (.int (x.toInt32) :: S))) : Go p e below s C N Q T (mkF m pc L (.long x :: S)) := by
  subst hp; exact Go.st (fun _ k => XS.l2i X.here hx rfl hd rfl k) h
theorem G_i2b (X : Stand p l e R s m args below meth c T locs cells slots) (hx : p.tables.exec = Jvm.exec) {x : Int32} (hp : pc + 1 = pc') (hd : decode c.code pc = .ok (.i2b, 1))  (h : Go p e below s C N Q T (mkF m pc' L (.int (x.toInt8.toInt32) :: S))) : Go p e below s C N Q T (mkF m pc L (.int x :: S)) := by
  subst hp; exact Go.st (fun _ k => XS.i2b X.here hx rfl hd rfl k) h
theorem G_i2s (X : Stand p l e R s m args below meth c T locs cells slots) (hx : p.tables.exec = Jvm.exec) {x : Int32} (hp : pc + 1 = pc') (hd : decode c.code pc = .ok (.i2s, 1))  (h : Go p e below s C N Q T (mkF m pc' L (.int (x.toInt16.toInt32) :: S))) : Go p e below s C N Q T (mkF m pc L (.int x :: S)) := by
  subst hp; exact Go.st (fun _ k => XS.i2s X.here hx rfl hd rfl k) h
theorem G_i2c (X : Stand p l e R s m args below meth c T locs cells slots) (hx : p.tables.exec = Jvm.exec) {x : Int32} (hp : pc + 1 = pc') (hd : decode c.code pc = .ok (.i2c, 1))  (h : Go p e below s C N Q T (mkF m pc' L (.int (x.toUInt32.toUInt16.toUInt32.toInt32) :: S))) : Go p e below s C N Q T (mkF m pc L (.int x :: S)) := by
  subst hp; exact Go.st (fun _ k => XS.i2c X.here hx rfl hd rfl k) h
theorem G_lcmp (X : Stand p l e R s m args below meth c T locs cells slots) (hx : p.tables.exec = Jvm.exec) {x y : Int64} (hp : pc + 1 = pc') (hd : decode c.code pc = .ok (.lcmp, 1))  (h : Go p e below s C N Q T (mkF m pc' L (.int (lcmpW x y) :: S))) : Go p e below s C N Q T (mkF m pc L (.long y :: .long x :: S)) := by
  subst hp; exact Go.st (fun _ k => XS.lcmp X.here hx rfl hd rfl k) h
theorem G_iinc (X : Stand p l e R s m args below meth c T locs cells slots) (hx : p.tables.exec = Jvm.exec) {k : Nat} {cst : Int} {x z : Int32} (hp : pc + 3 = pc') (hd : decode c.code pc = .ok (.iinc k cst, 3)) (hl : L[k]? = some (.val (.int x))) (hz : x + Int32.ofInt cst = z) (hl' : storeLocals L k (.int z) = some L') (h : Go p e below s C N Q T (mkF m pc' L' S)) : Go p e below s C N Q T (mkF m pc L S) := by
  subst hp; exact Go.st (fun _ k => XS.iinc X.here hx rfl hd hl (by rw [hz]; exact hl') k) h
theorem G_dup (X : Stand p l e R s m args below meth c T locs cells slots) (hx : p.tables.exec = Jvm.exec) {x : Value} (hp : pc + 1 = pc') (hd : decode c.code pc = .ok (.dup, 1)) (hc : x.category = 1) (h : Go p e below s C N Q T (mkF m pc' L (x :: x :: S))) : Go p e below s C N Q T (mkF m pc L (x :: S)) := by
  subst hp; exact Go.st (fun _ k => XS.dup X.here hx rfl hd rfl hc k) h
theorem G_pop (X : Stand p l e R s m args below meth c T locs cells slots) (hx : p.tables.exec = Jvm.exec) {x : Value} (hp : pc + 1 = pc') (hd : decode c.code pc = .ok (.pop, 1)) (hc : x.category = 1) (h : Go p e below s C N Q T (mkF m pc' L S)) : Go p e below s C N Q T (mkF m pc L (x :: S)) := by
  subst hp; exact Go.st (fun _ k => XS.pop X.here hx rfl hd rfl hc k) h
theorem G_dupX1 (X : Stand p l e R s m args below meth c T locs cells slots) (hx : p.tables.exec = Jvm.exec) {x y : Value} (hp : pc + 1 = pc') (hd : decode c.code pc = .ok (.dup_x1, 1)) (hc : x.category = 1) (hc' : y.category = 1) (h : Go p e below s C N Q T (mkF m pc' L (x :: y :: x :: S))) : Go p e below s C N Q T (mkF m pc L (x :: y :: S)) := by
  subst hp; exact Go.st (fun _ k => XS.dupX1 X.here hx rfl hd rfl hc hc' k) h
theorem G_goto (X : Stand p l e R s m args below meth c T locs cells slots) (hx : p.tables.exec = Jvm.exec)  {o : Int} (hd : decode c.code pc = .ok (.goto o, 3))  (ho : 0 ≤ (pc : Int) + o) (hp : ((pc : Int) + o).toNat = pc') (h : Go p e below s C N Q T (mkF m pc' L S)) : Go p e below s C N Q T (mkF m pc L S) :=
  Go.st (fun _ k => XS.goto X.here hx rfl rfl hd ho hp k) h
theorem G_ifYes (X : Stand p l e R s m args below meth c T locs cells slots) (hx : p.tables.exec = Jvm.exec) {cd : ClassFile.Cond} {x : Int32} {o : Int} (hd : decode c.code pc = .ok (.ifCond cd o, 3)) (hc : ifCond.holds cd x = true) (ho : 0 ≤ (pc : Int) + o) (hp : ((pc : Int) + o).toNat = pc') (h : Go p e below s C N Q T (mkF m pc' L S)) : Go p e below s C N Q T (mkF m pc L (.int x :: S)) :=
  Go.st (fun _ k => XS.ifYes X.here hx rfl rfl hd rfl hc ho hp k) h
theorem G_icmpYes (X : Stand p l e R s m args below meth c T locs cells slots) (hx : p.tables.exec = Jvm.exec) {cd : ClassFile.Cond} {x y : Int32} {o : Int} (hd : decode c.code pc = .ok (.if_icmp cd o, 3)) (hc : if_icmp.holds cd x y = true) (ho : 0 ≤ (pc : Int) + o) (hp : ((pc : Int) + o).toNat = pc') (h : Go p e below s C N Q T (mkF m pc' L S)) : Go p e below s C N Q T (mkF m pc L (.int y :: .int x :: S)) :=
  Go.st (fun _ k => XS.icmpYes X.here hx rfl rfl hd rfl hc ho hp k) h
theorem G_ifnullYes (X : Stand p l e R s m args below meth c T locs cells slots) (hx : p.tables.exec = Jvm.exec)  {o : Int} (hd : decode c.code pc = .ok (.ifnull o, 3))  (ho : 0 ≤ (pc : Int) + o) (hp : ((pc : Int) + o).toNat = pc') (h : Go p e below s C N Q T (mkF m pc' L S)) : Go p e below s C N Q T (mkF m pc L (.null :: S)) :=
  Go.st (fun _ k => XS.ifnullYes X.here hx rfl rfl hd rfl ho hp k) h
theorem G_ifnonnullYes (X : Stand p l e R s m args below meth c T locs cells slots) (hx : p.tables.exec = Jvm.exec) {b : Addr} {o : Int} (hd : decode c.code pc = .ok (.ifnonnull o, 3))  (ho : 0 ≤ (pc : Int) + o) (hp : ((pc : Int) + o).toNat = pc') (h : Go p e below s C N Q T (mkF m pc' L S)) : Go p e below s C N Q T (mkF m pc L (.ref b :: S)) :=
  Go.st (fun _ k => XS.ifnonnullYes X.here hx rfl rfl hd rfl ho hp k) h
theorem G_ifNo (X : Stand p l e R s m args below meth c T locs cells slots) (hx : p.tables.exec = Jvm.exec) {cd : ClassFile.Cond} {x : Int32} {o : Int} (hp : pc + 3 = pc') (hd : decode c.code pc = .ok (.ifCond cd o, 3)) (hc : ifCond.holds cd x = false) (h : Go p e below s C N Q T (mkF m pc' L S)) : Go p e below s C N Q T (mkF m pc L (.int x :: S)) := by
  subst hp; exact Go.st (fun _ k => XS.ifNo X.here hx rfl hd rfl hc k) h
theorem G_icmpNo (X : Stand p l e R s m args below meth c T locs cells slots) (hx : p.tables.exec = Jvm.exec) {cd : ClassFile.Cond} {x y : Int32} {o : Int} (hp : pc + 3 = pc') (hd : decode c.code pc = .ok (.if_icmp cd o, 3)) (hc : if_icmp.holds cd x y = false) (h : Go p e below s C N Q T (mkF m pc' L S)) : Go p e below s C N Q T (mkF m pc L (.int y :: .int x :: S)) := by
  subst hp; exact Go.st (fun _ k => XS.icmpNo X.here hx rfl hd rfl hc k) h
theorem G_ifnullNo (X : Stand p l e R s m args below meth c T locs cells slots) (hx : p.tables.exec = Jvm.exec) {b : Addr} {o : Int} (hp : pc + 3 = pc') (hd : decode c.code pc = .ok (.ifnull o, 3))  (h : Go p e below s C N Q T (mkF m pc' L S)) : Go p e below s C N Q T (mkF m pc L (.ref b :: S)) := by
  subst hp; exact Go.st (fun _ k => XS.ifnullNo X.here hx rfl hd rfl k) h
theorem G_ifnonnullNo (X : Stand p l e R s m args below meth c T locs cells slots) (hx : p.tables.exec = Jvm.exec) {o : Int} (hp : pc + 3 = pc') (hd : decode c.code pc = .ok (.ifnonnull o, 3))  (h : Go p e below s C N Q T (mkF m pc' L S)) : Go p e below s C N Q T (mkF m pc L (.null :: S)) := by
  subst hp; exact Go.st (fun _ k => XS.ifnonnullNo X.here hx rfl hd rfl k) h
theorem G_ldc (X : Stand p l e R s m args below meth c T locs cells slots) (hx : p.tables.exec = Jvm.exec) (hp : pc + 2 = pc') {own : String} {index : Nat} {v : Int32} (hown : s.vm.findClass own = some m.cls) (hw : (Cond.constant own index v).before args s = true) (hd : decode c.code pc = .ok (.ldc index, 2)) (h : Go p e below s C N Q T (mkF m pc' L (.int v :: S))) : Go p e below s C N Q T (mkF m pc L S) := by
  subst hp; exact Go.st (X.ldcInt hx hown hw (g := mkF m pc L S) rfl hd) h
theorem G_ldc2 (X : Stand p l e R s m args below meth c T locs cells slots) (hx : p.tables.exec = Jvm.exec) (hp : pc + 3 = pc') {own : String} {index : Nat} {v : Int64} (hown : s.vm.findClass own = some m.cls) (hw : (Cond.constantLong own index v).before args s = true) (hd : decode c.code pc = .ok (.ldc2_w index, 3)) (h : Go p e below s C N Q T (mkF m pc' L (.long v :: S))) : Go p e below s C N Q T (mkF m pc L S) := by
  subst hp; exact Go.st (X.ldc2Long hx hown hw (g := mkF m pc L S) rfl hd) h
end OwnG


theorem own_neg64 (x : Int64) : x < 0 ↔ x.toBitVec.msb = true := by
  rw [Int64.lt_iff_toInt_lt, BitVec.msb_eq_toInt]
  show x.toBitVec.toInt < 0 ↔ _
  simp
theorem own_noov {t : Int64} (h : t ≠ 9223372036854775807) : ¬ (((t ^^^ (t + (1 : Int64))) &&& ((1 : Int64) ^^^ (t + (1 : Int64)))) < (0 : Int64)) := by
  rw [own_neg64]
  have h1 : (1 : Int64).toBitVec.msb = false := by decide
  rw [Int64.toBitVec_and, Int64.toBitVec_xor, Int64.toBitVec_xor, BitVec.msb_and, BitVec.msb_xor, BitVec.msb_xor, h1]
  have e : (t + 1).toBitVec.msb = true → t.toBitVec.msb = true := by
    intro q
    rw [← own_neg64] at q ⊢
    rw [Int64.lt_iff_toInt_lt] at q ⊢
    have r := rng64 t
    have k := c_ladd t 1
    have r2 := rng64 (t + 1)
    have e0 : (0 : Int64).toInt = 0 := rfl
    have e1 : (1 : Int64).toInt = 1 := by decide
    have ne : t.toInt ≠ 9223372036854775807 := fun z => h (Int64.toInt_inj.mp (z.trans (by decide)))
    rw [e0] at q ⊢
    rw [e1] at k
    omega
  cases ht : t.toBitVec.msb <;> cases hs : (t + 1).toBitVec.msb <;> simp_all

theorem d_max_0 : decode jdk_29_method_66_code 0 = .ok (.lload_n 0, 1) := by decide +kernel
theorem d_max_1 : decode jdk_29_method_66_code 1 = .ok (.lload_n 2, 1) := by decide +kernel
theorem d_max_2 : decode jdk_29_method_66_code 2 = .ok (.lcmp, 1) := by decide +kernel
theorem d_max_3 : decode jdk_29_method_66_code 3 = .ok (.ifCond .lt 7, 3) := by decide +kernel
theorem d_max_10 : decode jdk_29_method_66_code 10 = .ok (.lload_n 2, 1) := by decide +kernel
theorem d_max_11 : decode jdk_29_method_66_code 11 = .ok (.lreturn, 1) := by decide +kernel
theorem d_max_6 : decode jdk_29_method_66_code 6 = .ok (.lload_n 0, 1) := by decide +kernel
theorem d_max_7 : decode jdk_29_method_66_code 7 = .ok (.goto 4, 3) := by decide +kernel
def f_max (v0 : Int64) (v1 : Int64) : Int64 := (if v0 < v1 then v1 else v0)
theorem ef_max (m : MethodId) (v0 : Int64) (v1 : Int64) : entryFrame m #[(.long v0), (.long v1)] 4 = mkF m 0 #[.val (.long v0), .second, .val (.long v1), .second] [] := by first | (simp [entryFrame, mkF, argsToLocals, Value.category]; done) | rfl
def Q_max (Z : State) (v0 : Int64) (v1 : Int64) (h0 : Heap) (n0 : Nat) (v : Option Value) (h : Heap) (L : List Loc) : Prop := v = some (.long (f_max v0 v1)) ∧ Fr n0 L ∧ h = h0
set_option maxRecDepth 65536 in
set_option maxHeartbeats 40000000 in
theorem rm_max (l : Launch) (Z : State) (a0 : Array Value) (hw : ∀ d ∈ tables_1, d.before a0 Z = true) (ws : List Jvm.Cond) (v0 : Int64) (v1 : Int64) (h0 : Heap) (n0 : Nat) (Z0 : n0 ≤ h0.size) :
    MetFree l (⟨"java/lang/Math", "max", "(JJ)J"⟩ : MethodName) (head1 (Jvm.Cond.code (⟨"java/lang/Math", "max", "(JJ)J"⟩ : MethodName) jdk_29_method_66_code 4 (some .long) :: ws) ({ frames := 0, cells := 0, slots := 0, locals := 0 } : Room)) (fun a U => a = #[(.long v0), (.long v1)] ∧ Z.Warmed39 U.vm ∧ U.heap = h0) (fun _ _ _ _ _ => True) (fun _ U o U' => ∃ v L, o = .returned v ∧ Q_max Z v0 v1 h0 n0 v U'.heap L ∧ FrameEnd U o U' L ({ frames := 0, cells := 0, slots := 0, locals := 0 } : Room).cells ({ frames := 0, cells := 0, slots := 0, locals := 0 } : Room).slots) := by
  refine MetFree.of_bodySF (Jvm.Free.JP.mathPlain rfl (by decide +kernel)) hisR ?_
  intro p e s m args below meth c s₁ Bd hml0 hP hK
  obtain ⟨rfl, hZ, hh⟩ := hP
  have hx := Bd.exec
  have hby := Bd.bytes
  have hml : c.maxLocals = 4 := hml0
  have hown : s.vm.findClass "java/lang/Math" = some m.cls := findClass_of_methodNamed Bd.named
  have hnm := (name_of_methodNamed Bd.named Bd.method).1
  have hlk : meth.locks = false := Bd.notSynchronized
  have X0 : Stand p l e ({ frames := 0, cells := 0, slots := 0, locals := 0 } : Room) s m #[(.long v0), (.long v1)] below meth c s₁ [] 0 0 := Stand.of_body Bd
  have e0 : s₁.heap = h0 := by rw [← hh, Bd.state]; rfl
  have N0 := Fr.nil n0
  refine Go.enter (Q := Q_max Z v0 v1 h0 n0) (C := ({ frames := 0, cells := 0, slots := 0, locals := 0 } : Room).cells) (N := ({ frames := 0, cells := 0, slots := 0, locals := 0 } : Room).slots) (ef_max m v0 v1) ?_
  show Go p e below s _ _ _ s₁ (mkF m 0 #[.val (.long v0), .second, .val (.long v1), .second] [])
  refine G_lloadN X0 hx (pc' := 1) rfl (hb hby d_max_0) rfl ?_
  refine G_lloadN X0 hx (pc' := 2) rfl (hb hby d_max_1) rfl ?_
  refine G_lcmp X0 hx (pc' := 3) rfl (hb hby d_max_2)  ?_
  by_cases hc3_1 : v0 < v1
  · refine G_ifYes X0 hx (pc' := 10) (hb hby d_max_3) ((if0 _ _).trans (tlt ((lw_lt _ _).2 hc3_1)).1) (by decide) (by decide) ?_
    refine G_lloadN X0 hx (pc' := 11) rfl (hb hby d_max_10) rfl ?_
    refine Go.fin X0 hlk (v := some (.long v1)) (fun h => by rw [Bd.returns] at h; cases h) (by decide) (by decide) ?_ (fun fs hr => retOut X0 hx Bd.returns rfl (Or.inr (Or.inl ⟨rfl, rfl, _, rfl⟩)) (hb hby d_max_11) hr)
    show Q_max Z v0 v1 h0 n0 _ s₁.heap _
    rw [e0]
    exact ⟨congrArg (fun z => some (Value.long z)) (by rw [f_max]; rw [if_pos hc3_1]), N0, rfl⟩
  · refine G_ifNo X0 hx (pc' := 6) rfl (hb hby d_max_3) ((if0 _ _).trans (flt (fun q => hc3_1 ((lw_lt _ _).1 q))).1) ?_
    refine G_lloadN X0 hx (pc' := 7) rfl (hb hby d_max_6) rfl ?_
    refine G_goto X0 hx (pc' := 11) (hb hby d_max_7)  (by decide) (by decide) ?_
    refine Go.fin X0 hlk (v := some (.long v0)) (fun h => by rw [Bd.returns] at h; cases h) (by decide) (by decide) ?_ (fun fs hr => retOut X0 hx Bd.returns rfl (Or.inr (Or.inl ⟨rfl, rfl, _, rfl⟩)) (hb hby d_max_11) hr)
    show Q_max Z v0 v1 h0 n0 _ s₁.heap _
    rw [e0]
    exact ⟨congrArg (fun z => some (Value.long z)) (by rw [f_max]; rw [if_neg hc3_1]), N0, rfl⟩
theorem d_addx_0 : decode jdk_29_method_25_code 0 = .ok (.lload_n 0, 1) := by decide +kernel
theorem d_addx_1 : decode jdk_29_method_25_code 1 = .ok (.lload_n 2, 1) := by decide +kernel
theorem d_addx_2 : decode jdk_29_method_25_code 2 = .ok (.ladd, 1) := by decide +kernel
theorem d_addx_3 : decode jdk_29_method_25_code 3 = .ok (.lstore 4, 2) := by decide +kernel
theorem d_addx_5 : decode jdk_29_method_25_code 5 = .ok (.lload_n 0, 1) := by decide +kernel
theorem d_addx_6 : decode jdk_29_method_25_code 6 = .ok (.lload 4, 2) := by decide +kernel
theorem d_addx_8 : decode jdk_29_method_25_code 8 = .ok (.lxor, 1) := by decide +kernel
theorem d_addx_9 : decode jdk_29_method_25_code 9 = .ok (.lload_n 2, 1) := by decide +kernel
theorem d_addx_10 : decode jdk_29_method_25_code 10 = .ok (.lload 4, 2) := by decide +kernel
theorem d_addx_12 : decode jdk_29_method_25_code 12 = .ok (.lxor, 1) := by decide +kernel
theorem d_addx_13 : decode jdk_29_method_25_code 13 = .ok (.land, 1) := by decide +kernel
theorem d_addx_14 : decode jdk_29_method_25_code 14 = .ok (.lconst 0, 1) := by decide +kernel
theorem d_addx_15 : decode jdk_29_method_25_code 15 = .ok (.lcmp, 1) := by decide +kernel
theorem d_addx_16 : decode jdk_29_method_25_code 16 = .ok (.ifCond .ge 13, 3) := by decide +kernel
theorem d_addx_29 : decode jdk_29_method_25_code 29 = .ok (.lload 4, 2) := by decide +kernel
theorem d_addx_31 : decode jdk_29_method_25_code 31 = .ok (.lreturn, 1) := by decide +kernel
theorem ef_addx (m : MethodId) (v0 : Int64) (v1 : Int64) : entryFrame m #[(.long v0), (.long v1)] 6 = mkF m 0 #[.val (.long v0), .second, .val (.long v1), .second, .unset, .unset] [] := by first | (simp [entryFrame, mkF, argsToLocals, Value.category]; done) | rfl
def Q_addx (Z : State) (v0 : Int64) (v1 : Int64) (h0 : Heap) (n0 : Nat) (v : Option Value) (h : Heap) (L : List Loc) : Prop := v = some (.long (v0 + v1)) ∧ Fr n0 L ∧ h = h0
set_option maxRecDepth 65536 in
set_option maxHeartbeats 40000000 in
theorem rm_addx (l : Launch) (Z : State) (a0 : Array Value) (hw : ∀ d ∈ tables_1, d.before a0 Z = true) (ws : List Jvm.Cond) (v0 : Int64) (v1 : Int64) (h0 : Heap) (n0 : Nat) (Z0 : n0 ≤ h0.size) (hov : ¬ (((v0 ^^^ (v0 + v1)) &&& (v1 ^^^ (v0 + v1))) < (0 : Int64))) :
    MetFree l (⟨"java/lang/Math", "addExact", "(JJ)J"⟩ : MethodName) (head1 (Jvm.Cond.code (⟨"java/lang/Math", "addExact", "(JJ)J"⟩ : MethodName) jdk_29_method_25_code 6 (some .long) :: ws) ({ frames := 0, cells := 0, slots := 0, locals := 0 } : Room)) (fun a U => a = #[(.long v0), (.long v1)] ∧ Z.Warmed39 U.vm ∧ U.heap = h0) (fun _ _ _ _ _ => True) (fun _ U o U' => ∃ v L, o = .returned v ∧ Q_addx Z v0 v1 h0 n0 v U'.heap L ∧ FrameEnd U o U' L ({ frames := 0, cells := 0, slots := 0, locals := 0 } : Room).cells ({ frames := 0, cells := 0, slots := 0, locals := 0 } : Room).slots) := by
  refine MetFree.of_bodySF (Jvm.Free.JP.mathPlain rfl (by decide +kernel)) hisR ?_
  intro p e s m args below meth c s₁ Bd hml0 hP hK
  obtain ⟨rfl, hZ, hh⟩ := hP
  have hx := Bd.exec
  have hby := Bd.bytes
  have hml : c.maxLocals = 6 := hml0
  have hown : s.vm.findClass "java/lang/Math" = some m.cls := findClass_of_methodNamed Bd.named
  have hnm := (name_of_methodNamed Bd.named Bd.method).1
  have hlk : meth.locks = false := Bd.notSynchronized
  have X0 : Stand p l e ({ frames := 0, cells := 0, slots := 0, locals := 0 } : Room) s m #[(.long v0), (.long v1)] below meth c s₁ [] 0 0 := Stand.of_body Bd
  have e0 : s₁.heap = h0 := by rw [← hh, Bd.state]; rfl
  have N0 := Fr.nil n0
  refine Go.enter (Q := Q_addx Z v0 v1 h0 n0) (C := ({ frames := 0, cells := 0, slots := 0, locals := 0 } : Room).cells) (N := ({ frames := 0, cells := 0, slots := 0, locals := 0 } : Room).slots) (ef_addx m v0 v1) ?_
  show Go p e below s _ _ _ s₁ (mkF m 0 #[.val (.long v0), .second, .val (.long v1), .second, .unset, .unset] [])
  refine G_lloadN X0 hx (pc' := 1) rfl (hb hby d_addx_0) rfl ?_
  refine G_lloadN X0 hx (pc' := 2) rfl (hb hby d_addx_1) rfl ?_
  refine G_ladd X0 hx (pc' := 3) rfl (hb hby d_addx_2)  ?_
  refine G_lstore X0 hx (pc' := 5) rfl (hb hby d_addx_3) (L' := #[.val (.long v0), .second, .val (.long v1), .second, .val (.long (v0 + v1)), .second]) rfl ?_
  refine G_lloadN X0 hx (pc' := 6) rfl (hb hby d_addx_5) rfl ?_
  refine G_lload X0 hx (pc' := 8) rfl (hb hby d_addx_6) rfl ?_
  refine G_lxor X0 hx (pc' := 9) rfl (hb hby d_addx_8)  ?_
  refine G_lloadN X0 hx (pc' := 10) rfl (hb hby d_addx_9) rfl ?_
  refine G_lload X0 hx (pc' := 12) rfl (hb hby d_addx_10) rfl ?_
  refine G_lxor X0 hx (pc' := 13) rfl (hb hby d_addx_12)  ?_
  refine G_land X0 hx (pc' := 14) rfl (hb hby d_addx_13)  ?_
  refine G_lconst X0 hx (pc' := 15) rfl (hb hby d_addx_14) (z := (0 : Int64)) rfl ?_
  refine G_lcmp X0 hx (pc' := 16) rfl (hb hby d_addx_15)  ?_
  refine G_ifYes X0 hx (pc' := 29) (hb hby d_addx_16) ((if0 _ _).trans (flt (fun q => (hov : ¬ (((v0 ^^^ (v0 + v1)) &&& (v1 ^^^ (v0 + v1))) < (0 : Int64))) ((lw_lt _ _).1 q))).2.1) (by decide) (by decide) ?_
  refine G_lload X0 hx (pc' := 31) rfl (hb hby d_addx_29) rfl ?_
  refine Go.fin X0 hlk (v := some (.long (v0 + v1))) (fun h => by rw [Bd.returns] at h; cases h) (by decide) (by decide) ?_ (fun fs hr => retOut X0 hx Bd.returns rfl (Or.inr (Or.inl ⟨rfl, rfl, _, rfl⟩)) (hb hby d_addx_31) hr)
  show Q_addx Z v0 v1 h0 n0 _ s₁.heap _
  rw [e0]
  exact ⟨rfl, N0, rfl⟩
theorem d_init_0 : decode prog_9_method_1_code 0 = .ok (.aload_n 0, 1) := by decide +kernel
theorem d_init_1 : decode prog_9_method_1_code 1 = .ok (.invokespecial 1, 3) := by decide +kernel
theorem d_init_4 : decode prog_9_method_1_code 4 = .ok (.return_, 1) := by decide +kernel
theorem ef_init (m : MethodId) (v0 : Addr) : entryFrame m #[(.ref v0)] 1 = mkF m 0 #[.val (.ref v0)] [] := by first | (simp [entryFrame, mkF, argsToLocals, Value.category]; done) | rfl
def Q_init (Z : State) (v0 : Addr) (h0 : Heap) (n0 : Nat) (v : Option Value) (h : Heap) (L : List Loc) : Prop := v = none ∧ Fr n0 L ∧ h = h0
set_option maxRecDepth 65536 in
set_option maxHeartbeats 40000000 in
theorem rm_init (l : Launch) (Z : State) (a0 : Array Value) (hw : ∀ d ∈ tables_1, d.before a0 Z = true) (ws : List Jvm.Cond) (v0 : Addr) (h0 : Heap) (n0 : Nat) (Z0 : n0 ≤ h0.size) (f0_E_v0 : Exa Z h0 v0 "com/example/fencing/fencing/protocol/LamportClock") :
    MetFree l (⟨"com/example/fencing/fencing/protocol/LamportClock", "<init>", "()V"⟩ : MethodName) (head1 (Jvm.Cond.code (⟨"com/example/fencing/fencing/protocol/LamportClock", "<init>", "()V"⟩ : MethodName) prog_9_method_1_code 1 none :: ws) ({ frames := 1, cells := 0, slots := 0, locals := 12 } : Room)) (fun a U => a = #[(.ref v0)] ∧ Z.Warmed39 U.vm ∧ U.heap = h0) (fun _ _ _ _ _ => True) (fun _ U o U' => ∃ v L, o = .returned v ∧ Q_init Z v0 h0 n0 v U'.heap L ∧ FrameEnd U o U' L ({ frames := 1, cells := 0, slots := 0, locals := 12 } : Room).cells ({ frames := 1, cells := 0, slots := 0, locals := 12 } : Room).slots) := by
  refine MetFree.of_bodySF (plainFor_of_name (by first | (simp [plainName, overriddenIn]; done) | decide +kernel)) hisR ?_
  intro p e s m args below meth c s₁ Bd hml0 hP hK
  obtain ⟨rfl, hZ, hh⟩ := hP
  have hx := Bd.exec
  have hby := Bd.bytes
  have hml : c.maxLocals = 1 := hml0
  have hown : s.vm.findClass "com/example/fencing/fencing/protocol/LamportClock" = some m.cls := findClass_of_methodNamed Bd.named
  have hnm := (name_of_methodNamed Bd.named Bd.method).1
  have hlk : meth.locks = false := Bd.notSynchronized
  have X0 : Stand p l e ({ frames := 1, cells := 0, slots := 0, locals := 12 } : Room) s m #[(.ref v0)] below meth c s₁ [] 0 0 := Stand.of_body Bd
  have e0 : s₁.heap = h0 := by rw [← hh, Bd.state]; rfl
  have N0 := Fr.nil n0
  refine Go.enter (Q := Q_init Z v0 h0 n0) (C := ({ frames := 1, cells := 0, slots := 0, locals := 12 } : Room).cells) (N := ({ frames := 1, cells := 0, slots := 0, locals := 12 } : Room).slots) (ef_init m v0) ?_
  show Go p e below s _ _ _ s₁ (mkF m 0 #[.val (.ref v0)] [])
  refine G_aloadN X0 hx (pc' := 1) rfl (hb hby d_init_0) rfl rfl ?_
  obtain ⟨T1, X1, e1, st1⟩ := initO X0 hx hZ hown (hw _ (List.mem_of_getElem? (i := 7) rfl)) (hw _ (List.mem_of_getElem? (i := 8) rfl)) (hw _ (List.mem_of_getElem? (i := 9) rfl)) e0 (g := (mkF m 1 #[.val (.ref v0)] [(.ref v0)])) rfl (by rw [hml]; rfl) rfl (hb hby d_init_1) (by decide) (W := 0) (by show 2 * 0 + _ ≤ _; exact Nat.le_of_eq rfl) (by decide)
  refine Go.st st1 ?_
  show Go p e below s _ _ _ T1 (mkF m 4 #[.val (.ref v0)] [])
  refine Go.fin X1 hlk (v := none) (fun _ => rfl) (by decide) (by decide) ?_ (fun fs hr => X1.returnOut hx Bd.returns (hb hby d_init_4) hr)
  show Q_init Z v0 h0 n0 _ T1.heap _
  rw [e1]
  exact ⟨rfl, N0, rfl⟩
theorem d_time_0 : decode prog_9_method_2_code 0 = .ok (.aload_n 0, 1) := by decide +kernel
theorem d_time_1 : decode prog_9_method_2_code 1 = .ok (.getfield 7, 3) := by decide +kernel
theorem d_time_4 : decode prog_9_method_2_code 4 = .ok (.lreturn, 1) := by decide +kernel
theorem ef_time (m : MethodId) (v0 : Addr) : entryFrame m #[(.ref v0)] 1 = mkF m 0 #[.val (.ref v0)] [] := by first | (simp [entryFrame, mkF, argsToLocals, Value.category]; done) | rfl
def Q_time (Z : State) (v0 : Addr) (t : Int64) (h0 : Heap) (n0 : Nat) (v : Option Value) (h : Heap) (L : List Loc) : Prop := v = some (.long t) ∧ Fr n0 L ∧ h = h0
set_option maxRecDepth 65536 in
set_option maxHeartbeats 40000000 in
theorem rm_time (l : Launch) (Z : State) (a0 : Array Value) (hw : ∀ d ∈ tables_1, d.before a0 Z = true) (ws : List Jvm.Cond) (v0 : Addr) (t : Int64) (h0 : Heap) (n0 : Nat) (Z0 : n0 ≤ h0.size) (f0_F_v0 : Fld Z h0 v0 "com/example/fencing/fencing/protocol/LamportClock" "time" "J" (.long t)) :
    MetFree l (⟨"com/example/fencing/fencing/protocol/LamportClock", "time", "()J"⟩ : MethodName) (head1 (Jvm.Cond.code (⟨"com/example/fencing/fencing/protocol/LamportClock", "time", "()J"⟩ : MethodName) prog_9_method_2_code 1 (some .long) :: ws) ({ frames := 0, cells := 0, slots := 0, locals := 0 } : Room)) (fun a U => a = #[(.ref v0)] ∧ Z.Warmed39 U.vm ∧ U.heap = h0) (fun _ _ _ _ _ => True) (fun _ U o U' => ∃ v L, o = .returned v ∧ Q_time Z v0 t h0 n0 v U'.heap L ∧ FrameEnd U o U' L ({ frames := 0, cells := 0, slots := 0, locals := 0 } : Room).cells ({ frames := 0, cells := 0, slots := 0, locals := 0 } : Room).slots) := by
  refine MetFree.of_bodySF (plainFor_of_name (by first | (simp [plainName, overriddenIn]; done) | decide +kernel)) hisR ?_
  intro p e s m args below meth c s₁ Bd hml0 hP hK
  obtain ⟨rfl, hZ, hh⟩ := hP
  have hx := Bd.exec
  have hby := Bd.bytes
  have hml : c.maxLocals = 1 := hml0
  have hown : s.vm.findClass "com/example/fencing/fencing/protocol/LamportClock" = some m.cls := findClass_of_methodNamed Bd.named
  have hnm := (name_of_methodNamed Bd.named Bd.method).1
  have hlk : meth.locks = false := Bd.notSynchronized
  have X0 : Stand p l e ({ frames := 0, cells := 0, slots := 0, locals := 0 } : Room) s m #[(.ref v0)] below meth c s₁ [] 0 0 := Stand.of_body Bd
  have e0 : s₁.heap = h0 := by rw [← hh, Bd.state]; rfl
  have N0 := Fr.nil n0
  refine Go.enter (Q := Q_time Z v0 t h0 n0) (C := ({ frames := 0, cells := 0, slots := 0, locals := 0 } : Room).cells) (N := ({ frames := 0, cells := 0, slots := 0, locals := 0 } : Room).slots) (ef_time m v0) ?_
  show Go p e below s _ _ _ s₁ (mkF m 0 #[.val (.ref v0)] [])
  refine G_aloadN X0 hx (pc' := 1) rfl (hb hby d_time_0) rfl rfl ?_
  obtain ⟨T2, X2, e2, st2⟩ := getF X0 hx hZ hown (host := "") (Or.inl (hw _ (List.mem_of_getElem? (i := 15) rfl))) Via.refl e0 f0_F_v0 (g := (mkF m 1 #[.val (.ref v0)] [(.ref v0)])) rfl rfl (hb hby d_time_1)
  refine Go.st st2 ?_
  show Go p e below s _ _ _ T2 (mkF m 4 #[.val (.ref v0)] [(.long t)])
  refine Go.fin X2 hlk (v := some (.long t)) (fun h => by rw [Bd.returns] at h; cases h) (by decide) (by decide) ?_ (fun fs hr => retOut X2 hx Bd.returns rfl (Or.inr (Or.inl ⟨rfl, rfl, _, rfl⟩)) (hb hby d_time_4) hr)
  show Q_time Z v0 t h0 n0 _ T2.heap _
  rw [e2]
  exact ⟨rfl, N0, rfl⟩
theorem d_tick_0 : decode prog_9_method_3_code 0 = .ok (.aload_n 0, 1) := by decide +kernel
theorem d_tick_1 : decode prog_9_method_3_code 1 = .ok (.aload_n 0, 1) := by decide +kernel
theorem d_tick_2 : decode prog_9_method_3_code 2 = .ok (.getfield 7, 3) := by decide +kernel
theorem d_tick_5 : decode prog_9_method_3_code 5 = .ok (.lconst 1, 1) := by decide +kernel
theorem d_tick_6 : decode prog_9_method_3_code 6 = .ok (.invokestatic 13, 3) := by decide +kernel
theorem pd_0 : parseMethodDescriptor "(JJ)J" = some ⟨[.long, .long], some .long⟩ := by decide +kernel
theorem d_tick_9 : decode prog_9_method_3_code 9 = .ok (.putfield 7, 3) := by decide +kernel
theorem d_tick_12 : decode prog_9_method_3_code 12 = .ok (.aload_n 0, 1) := by decide +kernel
theorem d_tick_13 : decode prog_9_method_3_code 13 = .ok (.getfield 7, 3) := by decide +kernel
theorem d_tick_16 : decode prog_9_method_3_code 16 = .ok (.lreturn, 1) := by decide +kernel
theorem ef_tick (m : MethodId) (v0 : Addr) : entryFrame m #[(.ref v0)] 1 = mkF m 0 #[.val (.ref v0)] [] := by first | (simp [entryFrame, mkF, argsToLocals, Value.category]; done) | rfl
def Q_tick (Z : State) (v0 : Addr) (t : Int64) (h0 : Heap) (n0 : Nat) (v : Option Value) (h : Heap) (L : List Loc) : Prop := v = some (.long (t + (1 : Int64))) ∧ Fr n0 L ∧ Keep h0 h [v0] ∧ Exa Z h v0 "com/example/fencing/fencing/protocol/LamportClock" ∧ Fld Z h v0 "com/example/fencing/fencing/protocol/LamportClock" "time" "J" (.long (t + (1 : Int64)))
set_option maxRecDepth 65536 in
set_option maxHeartbeats 40000000 in
theorem rm_tick (l : Launch) (Z : State) (a0 : Array Value) (hw : ∀ d ∈ tables_1, d.before a0 Z = true) (ws : List Jvm.Cond) (v0 : Addr) (t : Int64) (h0 : Heap) (n0 : Nat) (Z0 : n0 ≤ h0.size) (f0_E_v0 : Exa Z h0 v0 "com/example/fencing/fencing/protocol/LamportClock") (f1_F_v0 : Fld Z h0 v0 "com/example/fencing/fencing/protocol/LamportClock" "time" "J" (.long t)) (g_v0 : n0 ≤ v0) (ht : t ≠ (9223372036854775807 : Int64)) :
    MetFree l (⟨"com/example/fencing/fencing/protocol/LamportClock", "tick", "()J"⟩ : MethodName) (head1 (Jvm.Cond.code (⟨"com/example/fencing/fencing/protocol/LamportClock", "tick", "()J"⟩ : MethodName) prog_9_method_3_code 1 (some .long) :: ws) ({ frames := 1, cells := 0, slots := 0, locals := 18 } : Room)) (fun a U => a = #[(.ref v0)] ∧ Z.Warmed39 U.vm ∧ U.heap = h0) (fun _ _ _ _ _ => True) (fun _ U o U' => ∃ v L, o = .returned v ∧ Q_tick Z v0 t h0 n0 v U'.heap L ∧ FrameEnd U o U' L ({ frames := 1, cells := 0, slots := 0, locals := 18 } : Room).cells ({ frames := 1, cells := 0, slots := 0, locals := 18 } : Room).slots) := by
  refine MetFree.of_bodySF (plainFor_of_name (by first | (simp [plainName, overriddenIn]; done) | decide +kernel)) hisR ?_
  intro p e s m args below meth c s₁ Bd hml0 hP hK
  obtain ⟨rfl, hZ, hh⟩ := hP
  have hx := Bd.exec
  have hby := Bd.bytes
  have hml : c.maxLocals = 1 := hml0
  have hown : s.vm.findClass "com/example/fencing/fencing/protocol/LamportClock" = some m.cls := findClass_of_methodNamed Bd.named
  have hnm := (name_of_methodNamed Bd.named Bd.method).1
  have hlk : meth.locks = false := Bd.notSynchronized
  have X0 : Stand p l e ({ frames := 1, cells := 0, slots := 0, locals := 18 } : Room) s m #[(.ref v0)] below meth c s₁ [] 0 0 := Stand.of_body Bd
  have e0 : s₁.heap = h0 := by rw [← hh, Bd.state]; rfl
  have N0 := Fr.nil n0
  refine Go.enter (Q := Q_tick Z v0 t h0 n0) (C := ({ frames := 1, cells := 0, slots := 0, locals := 18 } : Room).cells) (N := ({ frames := 1, cells := 0, slots := 0, locals := 18 } : Room).slots) (ef_tick m v0) ?_
  show Go p e below s _ _ _ s₁ (mkF m 0 #[.val (.ref v0)] [])
  refine G_aloadN X0 hx (pc' := 1) rfl (hb hby d_tick_0) rfl rfl ?_
  refine G_aloadN X0 hx (pc' := 2) rfl (hb hby d_tick_1) rfl rfl ?_
  obtain ⟨T3, X3, e3, st3⟩ := getF X0 hx hZ hown (host := "") (Or.inl (hw _ (List.mem_of_getElem? (i := 15) rfl))) Via.refl e0 f1_F_v0 (g := (mkF m 2 #[.val (.ref v0)] [(.ref v0), (.ref v0)])) rfl rfl (hb hby d_tick_2)
  refine Go.st st3 ?_
  show Go p e below s _ _ _ T3 (mkF m 5 #[.val (.ref v0)] [(.long t), (.ref v0)])
  refine G_lconst X3 hx (pc' := 6) rfl (hb hby d_tick_5) (z := (1 : Int64)) rfl ?_
  obtain ⟨_, _, ⟨T4, L4, k4, n4⟩, -, X4, ⟨Lc4, hQ4, l4, y4, z4⟩, st4⟩ := Jvm.LawKit.callS X3 hx (y := (⟨"java/lang/Math", "addExact", "(JJ)J"⟩ : MethodName)) hown (mvT hZ (hw _ (List.mem_of_getElem? (i := 22) rfl))) (mvT hZ (hw _ (List.mem_of_getElem? (i := 23) rfl))) (mvT hZ (hw _ (List.mem_of_getElem? (i := 24) rfl))) (mvT hZ (hw _ (List.mem_of_getElem? (i := 25) rfl))) (by decide) (backOf (W := 1) (rm_addx l Z a0 hw [] t (1 : Int64) h0 n0 Z0 (own_noov ht)) hZ (hw _ (List.mem_of_getElem? (i := 25) rfl)) (hw _ (List.mem_of_getElem? (i := 24) rfl)) (by decide) (by decide)) (g := (mkF m 6 #[.val (.ref v0)] [(.long (1 : Int64)), (.long t), (.ref v0)])) rfl (by rw [hml]; rfl) (argsL := [(.long t), (.long (1 : Int64))]) (rest := [(.ref v0)]) (lenOf pd_0 rfl) rfl (by show 2 * 0 + _ ≤ _; exact Nat.le_of_eq rfl) (hb hby d_tick_6) (fun _ _ => ⟨rfl, e3, (by decide : 0 + 0 ≤ _), (by decide : 0 + 0 ≤ _)⟩)
  dsimp only [Pt.U, Pt.locs, Pt.cells, Pt.slots] at X4 l4 y4 z4 st4 hQ4
  subst l4 y4 z4
  obtain ⟨rfl, N4q, e4⟩ := hQ4
  have N4 := Fr.app N0 N4q
  refine Go.st st4 ?_
  show Go p e below s _ _ _ T4 (mkF m 9 #[.val (.ref v0)] [(.long (t + (1 : Int64))), (.ref v0)])
  obtain ⟨T5, h5, X5, e5, W5, st5⟩ := putF X4 hx hZ hown (host := "") (Or.inl (hw _ (List.mem_of_getElem? (i := 15) rfl))) Via.refl e4 f1_F_v0 f0_E_v0 (Or.inl (hw _ (List.mem_of_getElem? (i := 16) rfl))) (hw _ (List.mem_of_getElem? (i := 2) rfl)) (ty := .long) (by decide) rfl rfl (g := (mkF m 9 #[.val (.ref v0)] [(.long (t + (1 : Int64))), (.ref v0)])) rfl rfl (hb hby d_tick_9)
  refine Go.st st5 ?_
  have F_v0_w5 := f1_F_v0.same W5
  have E_v0_5 := f0_E_v0.wr W5
  have K_5 : Keep h0 h5 [v0] := (Keep.refl h0 [v0]).wr W5 (Or.inl (List.mem_of_getElem? (i := 0) rfl))
  have Z_5 : n0 ≤ h5.size := Nat.le_trans Z0 K_5.1
  have N5 := Fr.snoc X5 N4 g_v0
  show Go p e below s _ _ _ T5 (mkF m 12 #[.val (.ref v0)] [])
  refine G_aloadN X5 hx (pc' := 13) rfl (hb hby d_tick_12) rfl rfl ?_
  obtain ⟨T6, X6, e6, st6⟩ := getF X5 hx hZ hown (host := "") (Or.inl (hw _ (List.mem_of_getElem? (i := 15) rfl))) Via.refl e5 F_v0_w5 (g := (mkF m 13 #[.val (.ref v0)] [(.ref v0)])) rfl rfl (hb hby d_tick_13)
  refine Go.st st6 ?_
  show Go p e below s _ _ _ T6 (mkF m 16 #[.val (.ref v0)] [(.long (t + (1 : Int64)))])
  refine Go.fin X6 hlk (v := some (.long (t + (1 : Int64)))) (fun h => by rw [Bd.returns] at h; cases h) (by decide) (by decide) ?_ (fun fs hr => retOut X6 hx Bd.returns rfl (Or.inr (Or.inl ⟨rfl, rfl, _, rfl⟩)) (hb hby d_tick_16) hr)
  show Q_tick Z v0 t h0 n0 _ T6.heap _
  rw [e6]
  exact ⟨rfl, N5, K_5, E_v0_5, F_v0_w5⟩
theorem d_recv_0 : decode prog_9_method_4_code 0 = .ok (.aload_n 0, 1) := by decide +kernel
theorem d_recv_1 : decode prog_9_method_4_code 1 = .ok (.aload_n 0, 1) := by decide +kernel
theorem d_recv_2 : decode prog_9_method_4_code 2 = .ok (.getfield 7, 3) := by decide +kernel
theorem d_recv_5 : decode prog_9_method_4_code 5 = .ok (.lload_n 1, 1) := by decide +kernel
theorem d_recv_6 : decode prog_9_method_4_code 6 = .ok (.invokestatic 19, 3) := by decide +kernel
theorem d_recv_9 : decode prog_9_method_4_code 9 = .ok (.lconst 1, 1) := by decide +kernel
theorem d_recv_10 : decode prog_9_method_4_code 10 = .ok (.invokestatic 13, 3) := by decide +kernel
theorem d_recv_13 : decode prog_9_method_4_code 13 = .ok (.putfield 7, 3) := by decide +kernel
theorem d_recv_16 : decode prog_9_method_4_code 16 = .ok (.return_, 1) := by decide +kernel
theorem ef_recv (m : MethodId) (v0 : Addr) (v1 : Int64) : entryFrame m #[(.ref v0), (.long v1)] 3 = mkF m 0 #[.val (.ref v0), .val (.long v1), .second] [] := by first | (simp [entryFrame, mkF, argsToLocals, Value.category]; done) | rfl
def Q_recv (Z : State) (v0 : Addr) (v1 : Int64) (t : Int64) (h0 : Heap) (n0 : Nat) (v : Option Value) (h : Heap) (L : List Loc) : Prop := v = none ∧ Fr n0 L ∧ Keep h0 h [v0] ∧ Exa Z h v0 "com/example/fencing/fencing/protocol/LamportClock" ∧ Fld Z h v0 "com/example/fencing/fencing/protocol/LamportClock" "time" "J" (.long ((f_max t v1) + (1 : Int64)))
set_option maxRecDepth 65536 in
set_option maxHeartbeats 40000000 in
theorem rm_recv (l : Launch) (Z : State) (a0 : Array Value) (hw : ∀ d ∈ tables_1, d.before a0 Z = true) (ws : List Jvm.Cond) (v0 : Addr) (v1 : Int64) (t : Int64) (h0 : Heap) (n0 : Nat) (Z0 : n0 ≤ h0.size) (f0_E_v0 : Exa Z h0 v0 "com/example/fencing/fencing/protocol/LamportClock") (f1_F_v0 : Fld Z h0 v0 "com/example/fencing/fencing/protocol/LamportClock" "time" "J" (.long t)) (g_v0 : n0 ≤ v0) (ht : (f_max t v1) ≠ (9223372036854775807 : Int64)) :
    MetFree l (⟨"com/example/fencing/fencing/protocol/LamportClock", "receive", "(J)V"⟩ : MethodName) (head1 (Jvm.Cond.code (⟨"com/example/fencing/fencing/protocol/LamportClock", "receive", "(J)V"⟩ : MethodName) prog_9_method_4_code 3 none :: ws) ({ frames := 1, cells := 0, slots := 0, locals := 18 } : Room)) (fun a U => a = #[(.ref v0), (.long v1)] ∧ Z.Warmed39 U.vm ∧ U.heap = h0) (fun _ _ _ _ _ => True) (fun _ U o U' => ∃ v L, o = .returned v ∧ Q_recv Z v0 v1 t h0 n0 v U'.heap L ∧ FrameEnd U o U' L ({ frames := 1, cells := 0, slots := 0, locals := 18 } : Room).cells ({ frames := 1, cells := 0, slots := 0, locals := 18 } : Room).slots) := by
  refine MetFree.of_bodySF (plainFor_of_name (by first | (simp [plainName, overriddenIn]; done) | decide +kernel)) hisR ?_
  intro p e s m args below meth c s₁ Bd hml0 hP hK
  obtain ⟨rfl, hZ, hh⟩ := hP
  have hx := Bd.exec
  have hby := Bd.bytes
  have hml : c.maxLocals = 3 := hml0
  have hown : s.vm.findClass "com/example/fencing/fencing/protocol/LamportClock" = some m.cls := findClass_of_methodNamed Bd.named
  have hnm := (name_of_methodNamed Bd.named Bd.method).1
  have hlk : meth.locks = false := Bd.notSynchronized
  have X0 : Stand p l e ({ frames := 1, cells := 0, slots := 0, locals := 18 } : Room) s m #[(.ref v0), (.long v1)] below meth c s₁ [] 0 0 := Stand.of_body Bd
  have e0 : s₁.heap = h0 := by rw [← hh, Bd.state]; rfl
  have N0 := Fr.nil n0
  refine Go.enter (Q := Q_recv Z v0 v1 t h0 n0) (C := ({ frames := 1, cells := 0, slots := 0, locals := 18 } : Room).cells) (N := ({ frames := 1, cells := 0, slots := 0, locals := 18 } : Room).slots) (ef_recv m v0 v1) ?_
  show Go p e below s _ _ _ s₁ (mkF m 0 #[.val (.ref v0), .val (.long v1), .second] [])
  refine G_aloadN X0 hx (pc' := 1) rfl (hb hby d_recv_0) rfl rfl ?_
  refine G_aloadN X0 hx (pc' := 2) rfl (hb hby d_recv_1) rfl rfl ?_
  obtain ⟨T7, X7, e7, st7⟩ := getF X0 hx hZ hown (host := "") (Or.inl (hw _ (List.mem_of_getElem? (i := 15) rfl))) Via.refl e0 f1_F_v0 (g := (mkF m 2 #[.val (.ref v0), .val (.long v1), .second] [(.ref v0), (.ref v0)])) rfl rfl (hb hby d_recv_2)
  refine Go.st st7 ?_
  show Go p e below s _ _ _ T7 (mkF m 5 #[.val (.ref v0), .val (.long v1), .second] [(.long t), (.ref v0)])
  refine G_lloadN X7 hx (pc' := 6) rfl (hb hby d_recv_5) rfl ?_
  obtain ⟨_, _, ⟨T8, L8, k8, n8⟩, -, X8, ⟨Lc8, hQ8, l8, y8, z8⟩, st8⟩ := Jvm.LawKit.callS X7 hx (y := (⟨"java/lang/Math", "max", "(JJ)J"⟩ : MethodName)) hown (mvT hZ (hw _ (List.mem_of_getElem? (i := 33) rfl))) (mvT hZ (hw _ (List.mem_of_getElem? (i := 34) rfl))) (mvT hZ (hw _ (List.mem_of_getElem? (i := 24) rfl))) (mvT hZ (hw _ (List.mem_of_getElem? (i := 35) rfl))) (by decide) (backOf (W := 1) (rm_max l Z a0 hw [] t v1 h0 n0 Z0 ) hZ (hw _ (List.mem_of_getElem? (i := 35) rfl)) (hw _ (List.mem_of_getElem? (i := 24) rfl)) (by decide) (by decide)) (g := (mkF m 6 #[.val (.ref v0), .val (.long v1), .second] [(.long v1), (.long t), (.ref v0)])) rfl (by rw [hml]; rfl) (argsL := [(.long t), (.long v1)]) (rest := [(.ref v0)]) (lenOf pd_0 rfl) rfl (by show 2 * 0 + _ ≤ _; exact Nat.le_of_eq rfl) (hb hby d_recv_6) (fun _ _ => ⟨rfl, e7, (by decide : 0 + 0 ≤ _), (by decide : 0 + 0 ≤ _)⟩)
  dsimp only [Pt.U, Pt.locs, Pt.cells, Pt.slots] at X8 l8 y8 z8 st8 hQ8
  subst l8 y8 z8
  obtain ⟨rfl, N8q, e8⟩ := hQ8
  have N8 := Fr.app N0 N8q
  refine Go.st st8 ?_
  show Go p e below s _ _ _ T8 (mkF m 9 #[.val (.ref v0), .val (.long v1), .second] [(.long (f_max t v1)), (.ref v0)])
  refine G_lconst X8 hx (pc' := 10) rfl (hb hby d_recv_9) (z := (1 : Int64)) rfl ?_
  obtain ⟨_, _, ⟨T9, L9, k9, n9⟩, -, X9, ⟨Lc9, hQ9, l9, y9, z9⟩, st9⟩ := Jvm.LawKit.callS X8 hx (y := (⟨"java/lang/Math", "addExact", "(JJ)J"⟩ : MethodName)) hown (mvT hZ (hw _ (List.mem_of_getElem? (i := 22) rfl))) (mvT hZ (hw _ (List.mem_of_getElem? (i := 23) rfl))) (mvT hZ (hw _ (List.mem_of_getElem? (i := 24) rfl))) (mvT hZ (hw _ (List.mem_of_getElem? (i := 25) rfl))) (by decide) (backOf (W := 1) (rm_addx l Z a0 hw [] (f_max t v1) (1 : Int64) h0 n0 Z0 (own_noov ht)) hZ (hw _ (List.mem_of_getElem? (i := 25) rfl)) (hw _ (List.mem_of_getElem? (i := 24) rfl)) (by decide) (by decide)) (g := (mkF m 10 #[.val (.ref v0), .val (.long v1), .second] [(.long (1 : Int64)), (.long (f_max t v1)), (.ref v0)])) rfl (by rw [hml]; rfl) (argsL := [(.long (f_max t v1)), (.long (1 : Int64))]) (rest := [(.ref v0)]) (lenOf pd_0 rfl) rfl (by show 2 * 0 + _ ≤ _; exact Nat.le_of_eq rfl) (hb hby d_recv_10) (fun _ _ => ⟨rfl, e8, (by decide : 0 + 0 ≤ _), (by decide : 0 + 0 ≤ _)⟩)
  dsimp only [Pt.U, Pt.locs, Pt.cells, Pt.slots] at X9 l9 y9 z9 st9 hQ9
  subst l9 y9 z9
  obtain ⟨rfl, N9q, e9⟩ := hQ9
  have N9 := Fr.app N8 N9q
  refine Go.st st9 ?_
  show Go p e below s _ _ _ T9 (mkF m 13 #[.val (.ref v0), .val (.long v1), .second] [(.long ((f_max t v1) + (1 : Int64))), (.ref v0)])
  obtain ⟨T10, h10, X10, e10, W10, st10⟩ := putF X9 hx hZ hown (host := "") (Or.inl (hw _ (List.mem_of_getElem? (i := 15) rfl))) Via.refl e9 f1_F_v0 f0_E_v0 (Or.inl (hw _ (List.mem_of_getElem? (i := 16) rfl))) (hw _ (List.mem_of_getElem? (i := 2) rfl)) (ty := .long) (by decide) rfl rfl (g := (mkF m 13 #[.val (.ref v0), .val (.long v1), .second] [(.long ((f_max t v1) + (1 : Int64))), (.ref v0)])) rfl rfl (hb hby d_recv_13)
  refine Go.st st10 ?_
  have F_v0_w10 := f1_F_v0.same W10
  have E_v0_10 := f0_E_v0.wr W10
  have K_10 : Keep h0 h10 [v0] := (Keep.refl h0 [v0]).wr W10 (Or.inl (List.mem_of_getElem? (i := 0) rfl))
  have Z_10 : n0 ≤ h10.size := Nat.le_trans Z0 K_10.1
  have N10 := Fr.snoc X10 N9 g_v0
  show Go p e below s _ _ _ T10 (mkF m 16 #[.val (.ref v0), .val (.long v1), .second] [])
  refine Go.fin X10 hlk (v := none) (fun _ => rfl) (by decide) (by decide) ?_ (fun fs hr => X10.returnOut hx Bd.returns (hb hby d_recv_16) hr)
  show Q_recv Z v0 v1 t h0 n0 _ T10.heap _
  rw [e10]
  exact ⟨rfl, N10, K_10, E_v0_10, F_v0_w10⟩
theorem own_mxI (r : Int64) : (f_max (0 : Int64) r).toInt = if 0 < r.toInt then r.toInt else 0 := by
  unfold f_max
  have l0 : (0 : Int64).toInt = 0 := rfl
  by_cases h : (0 : Int64) < r
  · rw [if_pos h]; rw [Int64.lt_iff_toInt_lt, l0] at h; rw [if_pos h]
  · rw [if_neg h]; rw [Int64.lt_iff_toInt_lt, l0] at h; rw [if_neg h]; rfl
theorem own_ne64 {x : Int64} (h : x.toInt < 9223372036854775807) : x ≠ 9223372036854775807 := fun q => by
  rw [q] at h; revert h; decide
theorem own_b1 {r : Int64} (h : r < 9223372036854775806) : (f_max (0 : Int64) r).toInt < 9223372036854775806 := by
  rw [own_mxI]
  rw [Int64.lt_iff_toInt_lt] at h
  have e : (9223372036854775806 : Int64).toInt = 9223372036854775806 := by decide
  rw [e] at h
  split <;> omega
theorem own_b2 {r : Int64} (h : ¬ r < 9223372036854775806) : (f_max (0 : Int64) (r - (2 : Int64))).toInt < 9223372036854775806 := by
  rw [own_mxI]
  rw [Int64.lt_iff_toInt_lt] at h
  have e : (9223372036854775806 : Int64).toInt = 9223372036854775806 := by decide
  have e2 : (2 : Int64).toInt = 2 := by decide
  have k := c_lsub r 2
  have r1 := rng64 r
  have r2 := rng64 (r - 2)
  rw [e] at h
  rw [e2] at k
  split <;> omega
theorem own_nn64 (r : Int64) : 0 ≤ (f_max (0 : Int64) r).toInt := by
  rw [own_mxI]; split <;> omega
theorem own_up {x : Int64} (h0 : 0 ≤ x.toInt) (h : x.toInt < 9223372036854775806) : x + (1 : Int64) ≠ 9223372036854775807 := by
  apply own_ne64
  have k := c_ladd x 1
  have e1 : (1 : Int64).toInt = 1 := by decide
  have r := rng64 (x + 1)
  rw [e1] at k
  omega
theorem own_rec1 {r : Int64} (h : r < 9223372036854775806) : f_max (0 : Int64) r ≠ 9223372036854775807 := own_ne64 (by have := own_b1 h; omega)
theorem own_rec2 {r : Int64} (h : ¬ r < 9223372036854775806) : f_max (0 : Int64) (r - (2 : Int64)) ≠ 9223372036854775807 := own_ne64 (by have := own_b2 h; omega)
theorem own_tk1 {r : Int64} (h : r < 9223372036854775806) : f_max (0 : Int64) r + (1 : Int64) ≠ 9223372036854775807 := own_up (own_nn64 _) (own_b1 h)
theorem own_tk2 {r : Int64} (h : ¬ r < 9223372036854775806) : f_max (0 : Int64) (r - (2 : Int64)) + (1 : Int64) ≠ 9223372036854775807 := own_up (own_nn64 _) (own_b2 h)

theorem pd_1 : parseMethodDescriptor "()V" = some ⟨[], none⟩ := by decide +kernel
theorem pd_2 : parseMethodDescriptor "()J" = some ⟨[], some .long⟩ := by decide +kernel
theorem pd_3 : parseMethodDescriptor "(J)V" = some ⟨[.long], none⟩ := by decide +kernel
def f_law (v0 : Int64) (v1 : Int32) : Int32 := (if v0 < (9223372036854775806 : Int64) then (if (v1 &&& (1 : Int32)) = (0 : Int32) then (if (v1 &&& (2 : Int32)) = (0 : Int32) then (1 : Int32) else (if ((0 : Int64) + (1 : Int64)) = (9223372036854775807 : Int64) then (1 : Int32) else (if (((0 : Int64) + (1 : Int64)) + (1 : Int64)) = ((0 : Int64) + (2 : Int64)) then (1 : Int32) else (0 : Int32)))) else (if (v1 &&& (2 : Int32)) = (0 : Int32) then (if (0 : Int64) < v0 then (if ((f_max (0 : Int64) v0) + (1 : Int64)) = (v0 + (1 : Int64)) then (if (((f_max (0 : Int64) v0) + (1 : Int64)) + (1 : Int64)) = ((v0 + (1 : Int64)) + (1 : Int64)) then (1 : Int32) else (0 : Int32)) else (0 : Int32)) else (if ((f_max (0 : Int64) v0) + (1 : Int64)) = ((0 : Int64) + (1 : Int64)) then (if (((f_max (0 : Int64) v0) + (1 : Int64)) + (1 : Int64)) = (((0 : Int64) + (1 : Int64)) + (1 : Int64)) then (1 : Int32) else (0 : Int32)) else (0 : Int32))) else (if (0 : Int64) < v0 then (if ((f_max (0 : Int64) v0) + (1 : Int64)) = (v0 + (1 : Int64)) then (if (((f_max (0 : Int64) v0) + (1 : Int64)) + (1 : Int64)) = ((v0 + (1 : Int64)) + (1 : Int64)) then (if (((f_max (0 : Int64) v0) + (1 : Int64)) + (1 : Int64)) = (9223372036854775807 : Int64) then (1 : Int32) else (if ((((f_max (0 : Int64) v0) + (1 : Int64)) + (1 : Int64)) + (1 : Int64)) = ((v0 + (1 : Int64)) + (2 : Int64)) then (1 : Int32) else (0 : Int32))) else (0 : Int32)) else (0 : Int32)) else (if ((f_max (0 : Int64) v0) + (1 : Int64)) = ((0 : Int64) + (1 : Int64)) then (if (((f_max (0 : Int64) v0) + (1 : Int64)) + (1 : Int64)) = (((0 : Int64) + (1 : Int64)) + (1 : Int64)) then (if (((f_max (0 : Int64) v0) + (1 : Int64)) + (1 : Int64)) = (9223372036854775807 : Int64) then (1 : Int32) else (if ((((f_max (0 : Int64) v0) + (1 : Int64)) + (1 : Int64)) + (1 : Int64)) = (((0 : Int64) + (1 : Int64)) + (2 : Int64)) then (1 : Int32) else (0 : Int32))) else (0 : Int32)) else (0 : Int32))))) else (if (v1 &&& (1 : Int32)) = (0 : Int32) then (if (v1 &&& (2 : Int32)) = (0 : Int32) then (1 : Int32) else (if ((0 : Int64) + (1 : Int64)) = (9223372036854775807 : Int64) then (1 : Int32) else (if (((0 : Int64) + (1 : Int64)) + (1 : Int64)) = ((0 : Int64) + (2 : Int64)) then (1 : Int32) else (0 : Int32)))) else (if (v1 &&& (2 : Int32)) = (0 : Int32) then (if (0 : Int64) < (v0 - (2 : Int64)) then (if ((f_max (0 : Int64) (v0 - (2 : Int64))) + (1 : Int64)) = ((v0 - (2 : Int64)) + (1 : Int64)) then (if (((f_max (0 : Int64) (v0 - (2 : Int64))) + (1 : Int64)) + (1 : Int64)) = (((v0 - (2 : Int64)) + (1 : Int64)) + (1 : Int64)) then (1 : Int32) else (0 : Int32)) else (0 : Int32)) else (if ((f_max (0 : Int64) (v0 - (2 : Int64))) + (1 : Int64)) = ((0 : Int64) + (1 : Int64)) then (if (((f_max (0 : Int64) (v0 - (2 : Int64))) + (1 : Int64)) + (1 : Int64)) = (((0 : Int64) + (1 : Int64)) + (1 : Int64)) then (1 : Int32) else (0 : Int32)) else (0 : Int32))) else (if (0 : Int64) < (v0 - (2 : Int64)) then (if ((f_max (0 : Int64) (v0 - (2 : Int64))) + (1 : Int64)) = ((v0 - (2 : Int64)) + (1 : Int64)) then (if (((f_max (0 : Int64) (v0 - (2 : Int64))) + (1 : Int64)) + (1 : Int64)) = (((v0 - (2 : Int64)) + (1 : Int64)) + (1 : Int64)) then (if (((f_max (0 : Int64) (v0 - (2 : Int64))) + (1 : Int64)) + (1 : Int64)) = (9223372036854775807 : Int64) then (1 : Int32) else (if ((((f_max (0 : Int64) (v0 - (2 : Int64))) + (1 : Int64)) + (1 : Int64)) + (1 : Int64)) = (((v0 - (2 : Int64)) + (1 : Int64)) + (2 : Int64)) then (1 : Int32) else (0 : Int32))) else (0 : Int32)) else (0 : Int32)) else (if ((f_max (0 : Int64) (v0 - (2 : Int64))) + (1 : Int64)) = ((0 : Int64) + (1 : Int64)) then (if (((f_max (0 : Int64) (v0 - (2 : Int64))) + (1 : Int64)) + (1 : Int64)) = (((0 : Int64) + (1 : Int64)) + (1 : Int64)) then (if (((f_max (0 : Int64) (v0 - (2 : Int64))) + (1 : Int64)) + (1 : Int64)) = (9223372036854775807 : Int64) then (1 : Int32) else (if ((((f_max (0 : Int64) (v0 - (2 : Int64))) + (1 : Int64)) + (1 : Int64)) + (1 : Int64)) = (((0 : Int64) + (1 : Int64)) + (2 : Int64)) then (1 : Int32) else (0 : Int32))) else (0 : Int32)) else (0 : Int32))))))
theorem ef_law (m : MethodId) (v0 : Int64) (v1 : Int32) : entryFrame m #[(.long v0), (.int v1)] maxLocals = mkF m 0 #[.val (.long v0), .second, .val (.int v1), .unset, .unset, .unset, .unset, .unset, .unset, .unset, .unset, .unset, .unset, .unset] [] := by first | (simp [entryFrame, mkF, argsToLocals, Value.category, maxLocals]; done) | rfl
def Q_law (Z : State) (v0 : Int64) (v1 : Int32) (h0 : Heap) (n0 : Nat) (v : Option Value) (h : Heap) (L : List Loc) : Prop := v = some (.int (f_law v0 v1)) ∧ Fr n0 L
set_option maxRecDepth 65536 in
set_option maxHeartbeats 40000000 in
theorem rm_law (l : Launch) (Z : State) (a0 : Array Value) (hw : ∀ d ∈ tables_1, d.before a0 Z = true) (ws : List Jvm.Cond) (v0 : Int64) (v1 : Int32) (h0 : Heap) (n0 : Nat) (Z0 : n0 ≤ h0.size) :
    MetFree l x (head1 (Jvm.Cond.code x code maxLocals ret :: ws) room_1) (fun a U => a = #[(.long v0), (.int v1)] ∧ Z.Warmed39 U.vm ∧ U.heap = h0) (fun _ _ _ _ _ => True) (fun _ U o U' => ∃ v L, o = .returned v ∧ Q_law Z v0 v1 h0 n0 v U'.heap L ∧ FrameEnd U o U' L room_1.cells room_1.slots) := by
  refine MetFree.of_bodySF (plainFor_of_name (by first | (simp [plainName, overriddenIn]; done) | decide +kernel)) hisR ?_
  intro p e s m args below meth c s₁ Bd hml0 hP hK
  obtain ⟨rfl, hZ, hh⟩ := hP
  have hx := Bd.exec
  have hby := Bd.bytes
  have hml : c.maxLocals = 14 := hml0
  have hown : s.vm.findClass "com/example/fencing/fencing/protocol/LamportClockTickPinLaw" = some m.cls := findClass_of_methodNamed Bd.named
  have hnm := (name_of_methodNamed Bd.named Bd.method).1
  have hlk : meth.locks = false := Bd.notSynchronized
  have X0 : Stand p l e room_1 s m #[(.long v0), (.int v1)] below meth c s₁ [] 0 0 := Stand.of_body Bd
  have e0 : s₁.heap = h0 := by rw [← hh, Bd.state]; rfl
  have N0 := Fr.nil n0
  refine Go.enter (Q := Q_law Z v0 v1 h0 n0) (C := room_1.cells) (N := room_1.slots) (ef_law m v0 v1) ?_
  show Go p e below s _ _ _ s₁ (mkF m 0 #[.val (.long v0), .second, .val (.int v1), .unset, .unset, .unset, .unset, .unset, .unset, .unset, .unset, .unset, .unset, .unset] [])
  refine G_lloadN X0 hx (pc' := 1) rfl (hb hby at_0) rfl ?_
  refine G_ldc2 X0 hx (pc' := 4) rfl hown (mvT hZ (hw _ (List.mem_of_getElem? (i := 0) rfl))) (hb hby at_1) ?_
  refine G_lcmp X0 hx (pc' := 5) rfl (hb hby at_4)  ?_
  by_cases hc5_1 : v0 < (9223372036854775806 : Int64)
  · refine G_ifYes X0 hx (pc' := 16) (hb hby at_5) ((if0 _ _).trans (tlt ((lw_lt _ _).2 hc5_1)).1) (by decide) (by decide) ?_
    refine G_lloadN X0 hx (pc' := 17) rfl (hb hby at_16) rfl ?_
    refine G_lstoreN X0 hx (pc' := 18) rfl (hb hby at_17) (L' := #[.val (.long v0), .second, .val (.int v1), .val (.long v0), .second, .unset, .unset, .unset, .unset, .unset, .unset, .unset, .unset, .unset]) rfl ?_
    refine G_iloadN X0 hx (pc' := 19) rfl (hb hby at_18) rfl ?_
    refine G_iconst X0 hx (pc' := 20) rfl (hb hby at_19) (z := (1 : Int32)) rfl ?_
    refine G_iand X0 hx (pc' := 21) rfl (hb hby at_20)  ?_
    by_cases hc21_2 : (v1 &&& (1 : Int32)) = (0 : Int32)
    · refine G_ifYes X0 hx (pc' := 28) (hb hby at_21) ((if0 _ _).trans (teq hc21_2).1) (by decide) (by decide) ?_
      refine G_iconst X0 hx (pc' := 29) rfl (hb hby at_28) (z := (0 : Int32)) rfl ?_
      refine G_istore X0 hx (pc' := 31) rfl (hb hby at_29) (L' := #[.val (.long v0), .second, .val (.int v1), .val (.long v0), .second, .val (.int (0 : Int32)), .unset, .unset, .unset, .unset, .unset, .unset, .unset, .unset]) rfl ?_
      refine G_iloadN X0 hx (pc' := 32) rfl (hb hby at_31) rfl ?_
      refine G_iconst X0 hx (pc' := 33) rfl (hb hby at_32) (z := (2 : Int32)) rfl ?_
      refine G_iand X0 hx (pc' := 34) rfl (hb hby at_33)  ?_
      by_cases hc34_3 : (v1 &&& (2 : Int32)) = (0 : Int32)
      · refine G_ifYes X0 hx (pc' := 41) (hb hby at_34) ((if0 _ _).trans (teq hc34_3).1) (by decide) (by decide) ?_
        refine G_iconst X0 hx (pc' := 42) rfl (hb hby at_41) (z := (0 : Int32)) rfl ?_
        refine G_istore X0 hx (pc' := 44) rfl (hb hby at_42) (L' := #[.val (.long v0), .second, .val (.int v1), .val (.long v0), .second, .val (.int (0 : Int32)), .val (.int (0 : Int32)), .unset, .unset, .unset, .unset, .unset, .unset, .unset]) rfl ?_
        obtain ⟨T11, h11, X11, e11, E11, A11, D11, -, st11⟩ := newO X0 hx hZ hown (hw _ (List.mem_of_getElem? (i := 1) rfl)) (hw _ (List.mem_of_getElem? (i := 2) rfl)) (hw _ (List.mem_of_getElem? (i := 3) rfl)) e0 (g := (mkF m 44 #[.val (.long v0), .second, .val (.int v1), .val (.long v0), .second, .val (.int (0 : Int32)), .val (.int (0 : Int32)), .unset, .unset, .unset, .unset, .unset, .unset, .unset] [])) rfl (hb hby at_44) (by decide) (by decide)
        obtain ⟨b11, q11⟩ : ∃ z, z = h0.size := ⟨_, rfl⟩
        rw [← q11] at A11 D11 st11
        refine Go.st st11 ?_
        have g_b11 : n0 ≤ b11 := Nat.le_trans Z0 (Nat.le_of_eq q11.symm)
        have sz_b11 : h0.size ≤ b11 := Nat.le_trans (Nat.le_refl _) (Nat.le_of_eq q11.symm)
        have F_b11_time : Fld Z h11 b11 "com/example/fencing/fencing/protocol/LamportClock" "time" "J" (.long (0 : Int64)) := D11 (Or.inl (hw _ (List.mem_of_getElem? (i := 16) rfl))) (ty := .long) (by decide)
        have K_11 : Keep h0 h11 [] := (Keep.refl h0 []).ext E11
        have Z_11 : n0 ≤ h11.size := Nat.le_trans Z0 K_11.1
        show Go p e below s _ _ _ T11 (mkF m 47 #[.val (.long v0), .second, .val (.int v1), .val (.long v0), .second, .val (.int (0 : Int32)), .val (.int (0 : Int32)), .unset, .unset, .unset, .unset, .unset, .unset, .unset] [(.ref b11)])
        refine G_dup X11 hx (pc' := 48) rfl (hb hby at_47) rfl ?_
        obtain ⟨_, _, ⟨T12, L12, k12, n12⟩, -, X12, ⟨Lc12, hQ12, l12, y12, z12⟩, st12⟩ := X11.specialBack hx (y := (⟨"com/example/fencing/fencing/protocol/LamportClock", "<init>", "()V"⟩ : MethodName)) rfl hown (mvT hZ (hw _ (List.mem_of_getElem? (i := 4) rfl))) (mvT hZ (hw _ (List.mem_of_getElem? (i := 5) rfl))) (mvT hZ (hw _ (List.mem_of_getElem? (i := 6) rfl))) (by decide) (backOf (W := 1) (rm_init l Z a0 hw [] b11 h11 n0 Z_11 A11) hZ (hw _ (List.mem_of_getElem? (i := 6) rfl)) (hw _ (List.mem_of_getElem? (i := 3) rfl)) (by decide) (by decide)) (g := (mkF m 48 #[.val (.long v0), .second, .val (.int v1), .val (.long v0), .second, .val (.int (0 : Int32)), .val (.int (0 : Int32)), .unset, .unset, .unset, .unset, .unset, .unset, .unset] [(.ref b11), (.ref b11)])) rfl (by rw [hml]; rfl) (Steps.refl _) (a := b11) (argsL := []) (rest := [(.ref b11)]) (lenOf pd_1 rfl) rfl (by show 2 * 0 + _ ≤ _; exact Nat.le_of_eq rfl) (hb hby at_48) (fun _ _ => ⟨rfl, e11, (by decide : 1 + 0 ≤ _), (by decide : 1 + 0 ≤ _)⟩)
        dsimp only [Pt.U, Pt.locs, Pt.cells, Pt.slots] at X12 l12 y12 z12 st12 hQ12
        subst l12 y12 z12
        obtain ⟨rfl, N12q, e12⟩ := hQ12
        have N12 := Fr.app N0 N12q
        refine Go.st (fun _ k => st12.trans k) ?_
        show Go p e below s _ _ _ T12 (mkF m 51 #[.val (.long v0), .second, .val (.int v1), .val (.long v0), .second, .val (.int (0 : Int32)), .val (.int (0 : Int32)), .unset, .unset, .unset, .unset, .unset, .unset, .unset] [(.ref b11)])
        refine G_astore X12 hx (pc' := 53) rfl (hb hby at_51) rfl (L' := #[.val (.long v0), .second, .val (.int v1), .val (.long v0), .second, .val (.int (0 : Int32)), .val (.int (0 : Int32)), .val (.ref b11), .unset, .unset, .unset, .unset, .unset, .unset]) rfl ?_
        refine G_lconst X12 hx (pc' := 54) rfl (hb hby at_53) (z := (0 : Int64)) rfl ?_
        refine G_lstore X12 hx (pc' := 56) rfl (hb hby at_54) (L' := #[.val (.long v0), .second, .val (.int v1), .val (.long v0), .second, .val (.int (0 : Int32)), .val (.int (0 : Int32)), .val (.ref b11), .val (.long (0 : Int64)), .second, .unset, .unset, .unset, .unset]) rfl ?_
        refine G_iload X12 hx (pc' := 58) rfl (hb hby at_56) rfl ?_
        refine G_ifYes X12 hx (pc' := 82) (hb hby at_58) ((if0 _ _).trans (teq (by decide : (0 : Int32) = (0 : Int32))).1) (by decide) (by decide) ?_
        refine G_aload X12 hx (pc' := 84) rfl (hb hby at_82) rfl rfl ?_
        obtain ⟨cq13, kq13, q13a, q13b, q13c⟩ := isOf hZ e12 A11
        obtain ⟨_, _, ⟨T13, L13, k13, n13⟩, -, X13, ⟨Lc13, hQ13, l13, y13, z13⟩, st13⟩ := X12.virtualBack hx (y := (⟨"com/example/fencing/fencing/protocol/LamportClock", "time", "()J"⟩ : MethodName)) (z := (⟨"com/example/fencing/fencing/protocol/LamportClock", "time", "()J"⟩ : MethodName)) hown (mvT hZ (hw _ (List.mem_of_getElem? (i := 10) rfl))) (mvT hZ (hw _ (List.mem_of_getElem? (i := 11) rfl))) (notFace_of_selects (args := #[]) (mvT hZ (hw _ (List.mem_of_getElem? (i := 13) rfl)))) (mvT hZ (hw _ (List.mem_of_getElem? (i := 13) rfl))) (mvT hZ (hw _ (List.mem_of_getElem? (i := 12) rfl))) (by decide) (backOf (W := 0) (rm_time l Z a0 hw [] b11 (0 : Int64) h11 n0 Z_11 F_b11_time) hZ (hw _ (List.mem_of_getElem? (i := 14) rfl)) (hw _ (List.mem_of_getElem? (i := 3) rfl)) (by decide) (by decide)) q13a q13c (g := (mkF m 84 #[.val (.long v0), .second, .val (.int v1), .val (.long v0), .second, .val (.int (0 : Int32)), .val (.int (0 : Int32)), .val (.ref b11), .val (.long (0 : Int64)), .second, .unset, .unset, .unset, .unset] [(.ref b11)])) rfl (by rw [hml]; rfl) (Steps.refl _) (argsL := []) (rest := []) (lenOf pd_2 rfl) rfl (by show 2 * 0 + _ ≤ _; exact Nat.le_of_eq rfl) (hb hby at_84) (fun _ _ => ⟨rfl, e12, (by decide : 1 + 0 ≤ _), (by decide : 1 + 0 ≤ _)⟩)
        dsimp only [Pt.U, Pt.locs, Pt.cells, Pt.slots] at X13 l13 y13 z13 st13 hQ13
        subst l13 y13 z13
        obtain ⟨rfl, N13q, e13⟩ := hQ13
        have N13 := Fr.app N12 N13q
        refine Go.st (fun _ k => st13.trans k) ?_
        show Go p e below s _ _ _ T13 (mkF m 87 #[.val (.long v0), .second, .val (.int v1), .val (.long v0), .second, .val (.int (0 : Int32)), .val (.int (0 : Int32)), .val (.ref b11), .val (.long (0 : Int64)), .second, .unset, .unset, .unset, .unset] [(.long (0 : Int64))])
        refine G_lload X13 hx (pc' := 89) rfl (hb hby at_87) rfl ?_
        refine G_lcmp X13 hx (pc' := 90) rfl (hb hby at_89)  ?_
        refine G_ifYes X13 hx (pc' := 95) (hb hby at_90) ((if0 _ _).trans (teq ((lw_eq _ _).2 (by decide : (0 : Int64) = (0 : Int64)))).1) (by decide) (by decide) ?_
        refine G_aload X13 hx (pc' := 97) rfl (hb hby at_95) rfl rfl ?_
        obtain ⟨cq14, kq14, q14a, q14b, q14c⟩ := isOf hZ e13 A11
        obtain ⟨_, _, ⟨T14, L14, k14, n14⟩, -, X14, ⟨Lc14, hQ14, l14, y14, z14⟩, st14⟩ := X13.virtualBack hx (y := (⟨"com/example/fencing/fencing/protocol/LamportClock", "tick", "()J"⟩ : MethodName)) (z := (⟨"com/example/fencing/fencing/protocol/LamportClock", "tick", "()J"⟩ : MethodName)) hown (mvT hZ (hw _ (List.mem_of_getElem? (i := 17) rfl))) (mvT hZ (hw _ (List.mem_of_getElem? (i := 18) rfl))) (notFace_of_selects (args := #[]) (mvT hZ (hw _ (List.mem_of_getElem? (i := 20) rfl)))) (mvT hZ (hw _ (List.mem_of_getElem? (i := 20) rfl))) (mvT hZ (hw _ (List.mem_of_getElem? (i := 19) rfl))) (by decide) (backOf (W := 0) (rm_tick l Z a0 hw [] b11 (0 : Int64) h11 n0 Z_11 A11 F_b11_time g_b11 (by first | decide | exact own_tk1 (by assumption) | exact own_tk2 (by assumption))) hZ (hw _ (List.mem_of_getElem? (i := 21) rfl)) (hw _ (List.mem_of_getElem? (i := 3) rfl)) (by decide) (by decide)) q14a q14c (g := (mkF m 97 #[.val (.long v0), .second, .val (.int v1), .val (.long v0), .second, .val (.int (0 : Int32)), .val (.int (0 : Int32)), .val (.ref b11), .val (.long (0 : Int64)), .second, .unset, .unset, .unset, .unset] [(.ref b11)])) rfl (by rw [hml]; rfl) (Steps.refl _) (argsL := []) (rest := []) (lenOf pd_2 rfl) rfl (by show 2 * 0 + _ ≤ _; exact Nat.le_of_eq rfl) (hb hby at_97) (fun _ _ => ⟨rfl, e13, (by decide : 1 + 0 ≤ _), (by decide : 1 + 0 ≤ _)⟩)
        dsimp only [Pt.U, Pt.locs, Pt.cells, Pt.slots] at X14 l14 y14 z14 st14 hQ14
        subst l14 y14 z14
        obtain ⟨rfl, N14q, K14, p14_0, p14_1⟩ := hQ14
        have N14 := Fr.app N13 N14q
        refine Go.st (fun _ k => st14.trans k) ?_
        have K_14 : Keep h0 T14.heap [] := K_11.trans K14 (allS (Or.inr sz_b11) all0)
        have Z_14 : n0 ≤ T14.heap.size := Nat.le_trans Z0 K_14.1
        show Go p e below s _ _ _ T14 (mkF m 100 #[.val (.long v0), .second, .val (.int v1), .val (.long v0), .second, .val (.int (0 : Int32)), .val (.int (0 : Int32)), .val (.ref b11), .val (.long (0 : Int64)), .second, .unset, .unset, .unset, .unset] [(.long ((0 : Int64) + (1 : Int64)))])
        refine G_lstore X14 hx (pc' := 102) rfl (hb hby at_100) (L' := #[.val (.long v0), .second, .val (.int v1), .val (.long v0), .second, .val (.int (0 : Int32)), .val (.int (0 : Int32)), .val (.ref b11), .val (.long (0 : Int64)), .second, .val (.long ((0 : Int64) + (1 : Int64))), .second, .unset, .unset]) rfl ?_
        refine G_lload X14 hx (pc' := 104) rfl (hb hby at_102) rfl ?_
        refine G_lload X14 hx (pc' := 106) rfl (hb hby at_104) rfl ?_
        refine G_lconst X14 hx (pc' := 107) rfl (hb hby at_106) (z := (1 : Int64)) rfl ?_
        refine G_ladd X14 hx (pc' := 108) rfl (hb hby at_107)  ?_
        refine G_lcmp X14 hx (pc' := 109) rfl (hb hby at_108)  ?_
        refine G_ifNo X14 hx (pc' := 112) rfl (hb hby at_109) ((if0 _ _).trans (teq ((lw_eq _ _).2 (rfl : ((0 : Int64) + (1 : Int64)) = ((0 : Int64) + (1 : Int64))))).2) ?_
        refine G_aload X14 hx (pc' := 114) rfl (hb hby at_112) rfl rfl ?_
        obtain ⟨cq15, kq15, q15a, q15b, q15c⟩ := isOf hZ rfl p14_0
        obtain ⟨_, _, ⟨T15, L15, k15, n15⟩, -, X15, ⟨Lc15, hQ15, l15, y15, z15⟩, st15⟩ := X14.virtualBack hx (y := (⟨"com/example/fencing/fencing/protocol/LamportClock", "time", "()J"⟩ : MethodName)) (z := (⟨"com/example/fencing/fencing/protocol/LamportClock", "time", "()J"⟩ : MethodName)) hown (mvT hZ (hw _ (List.mem_of_getElem? (i := 10) rfl))) (mvT hZ (hw _ (List.mem_of_getElem? (i := 11) rfl))) (notFace_of_selects (args := #[]) (mvT hZ (hw _ (List.mem_of_getElem? (i := 13) rfl)))) (mvT hZ (hw _ (List.mem_of_getElem? (i := 13) rfl))) (mvT hZ (hw _ (List.mem_of_getElem? (i := 12) rfl))) (by decide) (backOf (W := 0) (rm_time l Z a0 hw [] b11 ((0 : Int64) + (1 : Int64)) T14.heap n0 Z_14 p14_1) hZ (hw _ (List.mem_of_getElem? (i := 14) rfl)) (hw _ (List.mem_of_getElem? (i := 3) rfl)) (by decide) (by decide)) q15a q15c (g := (mkF m 114 #[.val (.long v0), .second, .val (.int v1), .val (.long v0), .second, .val (.int (0 : Int32)), .val (.int (0 : Int32)), .val (.ref b11), .val (.long (0 : Int64)), .second, .val (.long ((0 : Int64) + (1 : Int64))), .second, .unset, .unset] [(.ref b11)])) rfl (by rw [hml]; rfl) (Steps.refl _) (argsL := []) (rest := []) (lenOf pd_2 rfl) rfl (by show 2 * 0 + _ ≤ _; exact Nat.le_of_eq rfl) (hb hby at_114) (fun _ _ => ⟨rfl, rfl, (by decide : 1 + 0 ≤ _), (by decide : 1 + 0 ≤ _)⟩)
        dsimp only [Pt.U, Pt.locs, Pt.cells, Pt.slots] at X15 l15 y15 z15 st15 hQ15
        subst l15 y15 z15
        obtain ⟨rfl, N15q, e15⟩ := hQ15
        have N15 := Fr.app N14 N15q
        refine Go.st (fun _ k => st15.trans k) ?_
        show Go p e below s _ _ _ T15 (mkF m 117 #[.val (.long v0), .second, .val (.int v1), .val (.long v0), .second, .val (.int (0 : Int32)), .val (.int (0 : Int32)), .val (.ref b11), .val (.long (0 : Int64)), .second, .val (.long ((0 : Int64) + (1 : Int64))), .second, .unset, .unset] [(.long ((0 : Int64) + (1 : Int64)))])
        refine G_lload X15 hx (pc' := 119) rfl (hb hby at_117) rfl ?_
        refine G_lconst X15 hx (pc' := 120) rfl (hb hby at_119) (z := (1 : Int64)) rfl ?_
        refine G_ladd X15 hx (pc' := 121) rfl (hb hby at_120)  ?_
        refine G_lcmp X15 hx (pc' := 122) rfl (hb hby at_121)  ?_
        refine G_ifYes X15 hx (pc' := 127) (hb hby at_122) ((if0 _ _).trans (teq ((lw_eq _ _).2 (rfl : ((0 : Int64) + (1 : Int64)) = ((0 : Int64) + (1 : Int64))))).1) (by decide) (by decide) ?_
        refine G_iload X15 hx (pc' := 129) rfl (hb hby at_127) rfl ?_
        refine G_ifYes X15 hx (pc' := 177) (hb hby at_129) ((if0 _ _).trans (teq (by decide : (0 : Int32) = (0 : Int32))).1) (by decide) (by decide) ?_
        refine G_iconst X15 hx (pc' := 178) rfl (hb hby at_177) (z := (1 : Int32)) rfl ?_
        refine Go.fin X15 hlk (v := some (.int (1 : Int32))) (fun h => by rw [Bd.returns] at h; cases h) (by decide) (by decide) ?_ (fun fs hr => retN X15 hx (t := .boolean) Bd.returns (by simp) (hb hby at_178) hr)
        show Q_law Z v0 v1 h0 n0 _ T15.heap _
        rw [e15]
        exact ⟨congrArg (fun z => some (Value.int z)) (by rw [f_law]; rw [if_pos hc5_1, if_pos hc21_2, if_pos hc34_3]), N15⟩
      · refine G_ifNo X0 hx (pc' := 37) rfl (hb hby at_34) ((if0 _ _).trans (feq hc34_3).1) ?_
        refine G_iconst X0 hx (pc' := 38) rfl (hb hby at_37) (z := (1 : Int32)) rfl ?_
        refine G_goto X0 hx (pc' := 42) (hb hby at_38)  (by decide) (by decide) ?_
        refine G_istore X0 hx (pc' := 44) rfl (hb hby at_42) (L' := #[.val (.long v0), .second, .val (.int v1), .val (.long v0), .second, .val (.int (0 : Int32)), .val (.int (1 : Int32)), .unset, .unset, .unset, .unset, .unset, .unset, .unset]) rfl ?_
        obtain ⟨T16, h16, X16, e16, E16, A16, D16, -, st16⟩ := newO X0 hx hZ hown (hw _ (List.mem_of_getElem? (i := 1) rfl)) (hw _ (List.mem_of_getElem? (i := 2) rfl)) (hw _ (List.mem_of_getElem? (i := 3) rfl)) e0 (g := (mkF m 44 #[.val (.long v0), .second, .val (.int v1), .val (.long v0), .second, .val (.int (0 : Int32)), .val (.int (1 : Int32)), .unset, .unset, .unset, .unset, .unset, .unset, .unset] [])) rfl (hb hby at_44) (by decide) (by decide)
        obtain ⟨b16, q16⟩ : ∃ z, z = h0.size := ⟨_, rfl⟩
        rw [← q16] at A16 D16 st16
        refine Go.st st16 ?_
        have g_b16 : n0 ≤ b16 := Nat.le_trans Z0 (Nat.le_of_eq q16.symm)
        have sz_b16 : h0.size ≤ b16 := Nat.le_trans (Nat.le_refl _) (Nat.le_of_eq q16.symm)
        have F_b16_time : Fld Z h16 b16 "com/example/fencing/fencing/protocol/LamportClock" "time" "J" (.long (0 : Int64)) := D16 (Or.inl (hw _ (List.mem_of_getElem? (i := 16) rfl))) (ty := .long) (by decide)
        have K_16 : Keep h0 h16 [] := (Keep.refl h0 []).ext E16
        have Z_16 : n0 ≤ h16.size := Nat.le_trans Z0 K_16.1
        show Go p e below s _ _ _ T16 (mkF m 47 #[.val (.long v0), .second, .val (.int v1), .val (.long v0), .second, .val (.int (0 : Int32)), .val (.int (1 : Int32)), .unset, .unset, .unset, .unset, .unset, .unset, .unset] [(.ref b16)])
        refine G_dup X16 hx (pc' := 48) rfl (hb hby at_47) rfl ?_
        obtain ⟨_, _, ⟨T17, L17, k17, n17⟩, -, X17, ⟨Lc17, hQ17, l17, y17, z17⟩, st17⟩ := X16.specialBack hx (y := (⟨"com/example/fencing/fencing/protocol/LamportClock", "<init>", "()V"⟩ : MethodName)) rfl hown (mvT hZ (hw _ (List.mem_of_getElem? (i := 4) rfl))) (mvT hZ (hw _ (List.mem_of_getElem? (i := 5) rfl))) (mvT hZ (hw _ (List.mem_of_getElem? (i := 6) rfl))) (by decide) (backOf (W := 1) (rm_init l Z a0 hw [] b16 h16 n0 Z_16 A16) hZ (hw _ (List.mem_of_getElem? (i := 6) rfl)) (hw _ (List.mem_of_getElem? (i := 3) rfl)) (by decide) (by decide)) (g := (mkF m 48 #[.val (.long v0), .second, .val (.int v1), .val (.long v0), .second, .val (.int (0 : Int32)), .val (.int (1 : Int32)), .unset, .unset, .unset, .unset, .unset, .unset, .unset] [(.ref b16), (.ref b16)])) rfl (by rw [hml]; rfl) (Steps.refl _) (a := b16) (argsL := []) (rest := [(.ref b16)]) (lenOf pd_1 rfl) rfl (by show 2 * 0 + _ ≤ _; exact Nat.le_of_eq rfl) (hb hby at_48) (fun _ _ => ⟨rfl, e16, (by decide : 1 + 0 ≤ _), (by decide : 1 + 0 ≤ _)⟩)
        dsimp only [Pt.U, Pt.locs, Pt.cells, Pt.slots] at X17 l17 y17 z17 st17 hQ17
        subst l17 y17 z17
        obtain ⟨rfl, N17q, e17⟩ := hQ17
        have N17 := Fr.app N0 N17q
        refine Go.st (fun _ k => st17.trans k) ?_
        show Go p e below s _ _ _ T17 (mkF m 51 #[.val (.long v0), .second, .val (.int v1), .val (.long v0), .second, .val (.int (0 : Int32)), .val (.int (1 : Int32)), .unset, .unset, .unset, .unset, .unset, .unset, .unset] [(.ref b16)])
        refine G_astore X17 hx (pc' := 53) rfl (hb hby at_51) rfl (L' := #[.val (.long v0), .second, .val (.int v1), .val (.long v0), .second, .val (.int (0 : Int32)), .val (.int (1 : Int32)), .val (.ref b16), .unset, .unset, .unset, .unset, .unset, .unset]) rfl ?_
        refine G_lconst X17 hx (pc' := 54) rfl (hb hby at_53) (z := (0 : Int64)) rfl ?_
        refine G_lstore X17 hx (pc' := 56) rfl (hb hby at_54) (L' := #[.val (.long v0), .second, .val (.int v1), .val (.long v0), .second, .val (.int (0 : Int32)), .val (.int (1 : Int32)), .val (.ref b16), .val (.long (0 : Int64)), .second, .unset, .unset, .unset, .unset]) rfl ?_
        refine G_iload X17 hx (pc' := 58) rfl (hb hby at_56) rfl ?_
        refine G_ifYes X17 hx (pc' := 82) (hb hby at_58) ((if0 _ _).trans (teq (by decide : (0 : Int32) = (0 : Int32))).1) (by decide) (by decide) ?_
        refine G_aload X17 hx (pc' := 84) rfl (hb hby at_82) rfl rfl ?_
        obtain ⟨cq18, kq18, q18a, q18b, q18c⟩ := isOf hZ e17 A16
        obtain ⟨_, _, ⟨T18, L18, k18, n18⟩, -, X18, ⟨Lc18, hQ18, l18, y18, z18⟩, st18⟩ := X17.virtualBack hx (y := (⟨"com/example/fencing/fencing/protocol/LamportClock", "time", "()J"⟩ : MethodName)) (z := (⟨"com/example/fencing/fencing/protocol/LamportClock", "time", "()J"⟩ : MethodName)) hown (mvT hZ (hw _ (List.mem_of_getElem? (i := 10) rfl))) (mvT hZ (hw _ (List.mem_of_getElem? (i := 11) rfl))) (notFace_of_selects (args := #[]) (mvT hZ (hw _ (List.mem_of_getElem? (i := 13) rfl)))) (mvT hZ (hw _ (List.mem_of_getElem? (i := 13) rfl))) (mvT hZ (hw _ (List.mem_of_getElem? (i := 12) rfl))) (by decide) (backOf (W := 0) (rm_time l Z a0 hw [] b16 (0 : Int64) h16 n0 Z_16 F_b16_time) hZ (hw _ (List.mem_of_getElem? (i := 14) rfl)) (hw _ (List.mem_of_getElem? (i := 3) rfl)) (by decide) (by decide)) q18a q18c (g := (mkF m 84 #[.val (.long v0), .second, .val (.int v1), .val (.long v0), .second, .val (.int (0 : Int32)), .val (.int (1 : Int32)), .val (.ref b16), .val (.long (0 : Int64)), .second, .unset, .unset, .unset, .unset] [(.ref b16)])) rfl (by rw [hml]; rfl) (Steps.refl _) (argsL := []) (rest := []) (lenOf pd_2 rfl) rfl (by show 2 * 0 + _ ≤ _; exact Nat.le_of_eq rfl) (hb hby at_84) (fun _ _ => ⟨rfl, e17, (by decide : 1 + 0 ≤ _), (by decide : 1 + 0 ≤ _)⟩)
        dsimp only [Pt.U, Pt.locs, Pt.cells, Pt.slots] at X18 l18 y18 z18 st18 hQ18
        subst l18 y18 z18
        obtain ⟨rfl, N18q, e18⟩ := hQ18
        have N18 := Fr.app N17 N18q
        refine Go.st (fun _ k => st18.trans k) ?_
        show Go p e below s _ _ _ T18 (mkF m 87 #[.val (.long v0), .second, .val (.int v1), .val (.long v0), .second, .val (.int (0 : Int32)), .val (.int (1 : Int32)), .val (.ref b16), .val (.long (0 : Int64)), .second, .unset, .unset, .unset, .unset] [(.long (0 : Int64))])
        refine G_lload X18 hx (pc' := 89) rfl (hb hby at_87) rfl ?_
        refine G_lcmp X18 hx (pc' := 90) rfl (hb hby at_89)  ?_
        refine G_ifYes X18 hx (pc' := 95) (hb hby at_90) ((if0 _ _).trans (teq ((lw_eq _ _).2 (by decide : (0 : Int64) = (0 : Int64)))).1) (by decide) (by decide) ?_
        refine G_aload X18 hx (pc' := 97) rfl (hb hby at_95) rfl rfl ?_
        obtain ⟨cq19, kq19, q19a, q19b, q19c⟩ := isOf hZ e18 A16
        obtain ⟨_, _, ⟨T19, L19, k19, n19⟩, -, X19, ⟨Lc19, hQ19, l19, y19, z19⟩, st19⟩ := X18.virtualBack hx (y := (⟨"com/example/fencing/fencing/protocol/LamportClock", "tick", "()J"⟩ : MethodName)) (z := (⟨"com/example/fencing/fencing/protocol/LamportClock", "tick", "()J"⟩ : MethodName)) hown (mvT hZ (hw _ (List.mem_of_getElem? (i := 17) rfl))) (mvT hZ (hw _ (List.mem_of_getElem? (i := 18) rfl))) (notFace_of_selects (args := #[]) (mvT hZ (hw _ (List.mem_of_getElem? (i := 20) rfl)))) (mvT hZ (hw _ (List.mem_of_getElem? (i := 20) rfl))) (mvT hZ (hw _ (List.mem_of_getElem? (i := 19) rfl))) (by decide) (backOf (W := 0) (rm_tick l Z a0 hw [] b16 (0 : Int64) h16 n0 Z_16 A16 F_b16_time g_b16 (by first | decide | exact own_tk1 (by assumption) | exact own_tk2 (by assumption))) hZ (hw _ (List.mem_of_getElem? (i := 21) rfl)) (hw _ (List.mem_of_getElem? (i := 3) rfl)) (by decide) (by decide)) q19a q19c (g := (mkF m 97 #[.val (.long v0), .second, .val (.int v1), .val (.long v0), .second, .val (.int (0 : Int32)), .val (.int (1 : Int32)), .val (.ref b16), .val (.long (0 : Int64)), .second, .unset, .unset, .unset, .unset] [(.ref b16)])) rfl (by rw [hml]; rfl) (Steps.refl _) (argsL := []) (rest := []) (lenOf pd_2 rfl) rfl (by show 2 * 0 + _ ≤ _; exact Nat.le_of_eq rfl) (hb hby at_97) (fun _ _ => ⟨rfl, e18, (by decide : 1 + 0 ≤ _), (by decide : 1 + 0 ≤ _)⟩)
        dsimp only [Pt.U, Pt.locs, Pt.cells, Pt.slots] at X19 l19 y19 z19 st19 hQ19
        subst l19 y19 z19
        obtain ⟨rfl, N19q, K19, p19_0, p19_1⟩ := hQ19
        have N19 := Fr.app N18 N19q
        refine Go.st (fun _ k => st19.trans k) ?_
        have K_19 : Keep h0 T19.heap [] := K_16.trans K19 (allS (Or.inr sz_b16) all0)
        have Z_19 : n0 ≤ T19.heap.size := Nat.le_trans Z0 K_19.1
        show Go p e below s _ _ _ T19 (mkF m 100 #[.val (.long v0), .second, .val (.int v1), .val (.long v0), .second, .val (.int (0 : Int32)), .val (.int (1 : Int32)), .val (.ref b16), .val (.long (0 : Int64)), .second, .unset, .unset, .unset, .unset] [(.long ((0 : Int64) + (1 : Int64)))])
        refine G_lstore X19 hx (pc' := 102) rfl (hb hby at_100) (L' := #[.val (.long v0), .second, .val (.int v1), .val (.long v0), .second, .val (.int (0 : Int32)), .val (.int (1 : Int32)), .val (.ref b16), .val (.long (0 : Int64)), .second, .val (.long ((0 : Int64) + (1 : Int64))), .second, .unset, .unset]) rfl ?_
        refine G_lload X19 hx (pc' := 104) rfl (hb hby at_102) rfl ?_
        refine G_lload X19 hx (pc' := 106) rfl (hb hby at_104) rfl ?_
        refine G_lconst X19 hx (pc' := 107) rfl (hb hby at_106) (z := (1 : Int64)) rfl ?_
        refine G_ladd X19 hx (pc' := 108) rfl (hb hby at_107)  ?_
        refine G_lcmp X19 hx (pc' := 109) rfl (hb hby at_108)  ?_
        refine G_ifNo X19 hx (pc' := 112) rfl (hb hby at_109) ((if0 _ _).trans (teq ((lw_eq _ _).2 (rfl : ((0 : Int64) + (1 : Int64)) = ((0 : Int64) + (1 : Int64))))).2) ?_
        refine G_aload X19 hx (pc' := 114) rfl (hb hby at_112) rfl rfl ?_
        obtain ⟨cq20, kq20, q20a, q20b, q20c⟩ := isOf hZ rfl p19_0
        obtain ⟨_, _, ⟨T20, L20, k20, n20⟩, -, X20, ⟨Lc20, hQ20, l20, y20, z20⟩, st20⟩ := X19.virtualBack hx (y := (⟨"com/example/fencing/fencing/protocol/LamportClock", "time", "()J"⟩ : MethodName)) (z := (⟨"com/example/fencing/fencing/protocol/LamportClock", "time", "()J"⟩ : MethodName)) hown (mvT hZ (hw _ (List.mem_of_getElem? (i := 10) rfl))) (mvT hZ (hw _ (List.mem_of_getElem? (i := 11) rfl))) (notFace_of_selects (args := #[]) (mvT hZ (hw _ (List.mem_of_getElem? (i := 13) rfl)))) (mvT hZ (hw _ (List.mem_of_getElem? (i := 13) rfl))) (mvT hZ (hw _ (List.mem_of_getElem? (i := 12) rfl))) (by decide) (backOf (W := 0) (rm_time l Z a0 hw [] b16 ((0 : Int64) + (1 : Int64)) T19.heap n0 Z_19 p19_1) hZ (hw _ (List.mem_of_getElem? (i := 14) rfl)) (hw _ (List.mem_of_getElem? (i := 3) rfl)) (by decide) (by decide)) q20a q20c (g := (mkF m 114 #[.val (.long v0), .second, .val (.int v1), .val (.long v0), .second, .val (.int (0 : Int32)), .val (.int (1 : Int32)), .val (.ref b16), .val (.long (0 : Int64)), .second, .val (.long ((0 : Int64) + (1 : Int64))), .second, .unset, .unset] [(.ref b16)])) rfl (by rw [hml]; rfl) (Steps.refl _) (argsL := []) (rest := []) (lenOf pd_2 rfl) rfl (by show 2 * 0 + _ ≤ _; exact Nat.le_of_eq rfl) (hb hby at_114) (fun _ _ => ⟨rfl, rfl, (by decide : 1 + 0 ≤ _), (by decide : 1 + 0 ≤ _)⟩)
        dsimp only [Pt.U, Pt.locs, Pt.cells, Pt.slots] at X20 l20 y20 z20 st20 hQ20
        subst l20 y20 z20
        obtain ⟨rfl, N20q, e20⟩ := hQ20
        have N20 := Fr.app N19 N20q
        refine Go.st (fun _ k => st20.trans k) ?_
        show Go p e below s _ _ _ T20 (mkF m 117 #[.val (.long v0), .second, .val (.int v1), .val (.long v0), .second, .val (.int (0 : Int32)), .val (.int (1 : Int32)), .val (.ref b16), .val (.long (0 : Int64)), .second, .val (.long ((0 : Int64) + (1 : Int64))), .second, .unset, .unset] [(.long ((0 : Int64) + (1 : Int64)))])
        refine G_lload X20 hx (pc' := 119) rfl (hb hby at_117) rfl ?_
        refine G_lconst X20 hx (pc' := 120) rfl (hb hby at_119) (z := (1 : Int64)) rfl ?_
        refine G_ladd X20 hx (pc' := 121) rfl (hb hby at_120)  ?_
        refine G_lcmp X20 hx (pc' := 122) rfl (hb hby at_121)  ?_
        refine G_ifYes X20 hx (pc' := 127) (hb hby at_122) ((if0 _ _).trans (teq ((lw_eq _ _).2 (rfl : ((0 : Int64) + (1 : Int64)) = ((0 : Int64) + (1 : Int64))))).1) (by decide) (by decide) ?_
        refine G_iload X20 hx (pc' := 129) rfl (hb hby at_127) rfl ?_
        refine G_ifNo X20 hx (pc' := 132) rfl (hb hby at_129) ((if0 _ _).trans (feq (by decide : ¬ ((1 : Int32) = (0 : Int32)))).1) ?_
        refine G_lload X20 hx (pc' := 134) rfl (hb hby at_132) rfl ?_
        refine G_ldc2 X20 hx (pc' := 137) rfl hown (mvT hZ (hw _ (List.mem_of_getElem? (i := 26) rfl))) (hb hby at_134) ?_
        refine G_lcmp X20 hx (pc' := 138) rfl (hb hby at_137)  ?_
        by_cases hc138_4 : ((0 : Int64) + (1 : Int64)) = (9223372036854775807 : Int64)
        · refine G_ifYes X20 hx (pc' := 177) (hb hby at_138) ((if0 _ _).trans (teq ((lw_eq _ _).2 hc138_4)).1) (by decide) (by decide) ?_
          refine G_iconst X20 hx (pc' := 178) rfl (hb hby at_177) (z := (1 : Int32)) rfl ?_
          refine Go.fin X20 hlk (v := some (.int (1 : Int32))) (fun h => by rw [Bd.returns] at h; cases h) (by decide) (by decide) ?_ (fun fs hr => retN X20 hx (t := .boolean) Bd.returns (by simp) (hb hby at_178) hr)
          show Q_law Z v0 v1 h0 n0 _ T20.heap _
          rw [e20]
          exact ⟨congrArg (fun z => some (Value.int z)) (by rw [f_law]; rw [if_pos hc5_1, if_pos hc21_2, if_neg hc34_3, if_pos hc138_4]), N20⟩
        · refine G_ifNo X20 hx (pc' := 141) rfl (hb hby at_138) ((if0 _ _).trans (feq (fun q => hc138_4 ((lw_eq _ _).1 q))).1) ?_
          refine G_aload X20 hx (pc' := 143) rfl (hb hby at_141) rfl rfl ?_
          obtain ⟨cq21, kq21, q21a, q21b, q21c⟩ := isOf hZ e20 p19_0
          obtain ⟨_, _, ⟨T21, L21, k21, n21⟩, -, X21, ⟨Lc21, hQ21, l21, y21, z21⟩, st21⟩ := X20.virtualBack hx (y := (⟨"com/example/fencing/fencing/protocol/LamportClock", "tick", "()J"⟩ : MethodName)) (z := (⟨"com/example/fencing/fencing/protocol/LamportClock", "tick", "()J"⟩ : MethodName)) hown (mvT hZ (hw _ (List.mem_of_getElem? (i := 17) rfl))) (mvT hZ (hw _ (List.mem_of_getElem? (i := 18) rfl))) (notFace_of_selects (args := #[]) (mvT hZ (hw _ (List.mem_of_getElem? (i := 20) rfl)))) (mvT hZ (hw _ (List.mem_of_getElem? (i := 20) rfl))) (mvT hZ (hw _ (List.mem_of_getElem? (i := 19) rfl))) (by decide) (backOf (W := 0) (rm_tick l Z a0 hw [] b16 ((0 : Int64) + (1 : Int64)) T19.heap n0 Z_19 p19_0 p19_1 g_b16 (by first | decide | assumption)) hZ (hw _ (List.mem_of_getElem? (i := 21) rfl)) (hw _ (List.mem_of_getElem? (i := 3) rfl)) (by decide) (by decide)) q21a q21c (g := (mkF m 143 #[.val (.long v0), .second, .val (.int v1), .val (.long v0), .second, .val (.int (0 : Int32)), .val (.int (1 : Int32)), .val (.ref b16), .val (.long (0 : Int64)), .second, .val (.long ((0 : Int64) + (1 : Int64))), .second, .unset, .unset] [(.ref b16)])) rfl (by rw [hml]; rfl) (Steps.refl _) (argsL := []) (rest := []) (lenOf pd_2 rfl) rfl (by show 2 * 0 + _ ≤ _; exact Nat.le_of_eq rfl) (hb hby at_143) (fun _ _ => ⟨rfl, e20, (by decide : 1 + 0 ≤ _), (by decide : 1 + 0 ≤ _)⟩)
          dsimp only [Pt.U, Pt.locs, Pt.cells, Pt.slots] at X21 l21 y21 z21 st21 hQ21
          subst l21 y21 z21
          obtain ⟨rfl, N21q, K21, p21_0, p21_1⟩ := hQ21
          have N21 := Fr.app N20 N21q
          refine Go.st (fun _ k => st21.trans k) ?_
          have K_21 : Keep h0 T21.heap [] := K_19.trans K21 (allS (Or.inr sz_b16) all0)
          have Z_21 : n0 ≤ T21.heap.size := Nat.le_trans Z0 K_21.1
          show Go p e below s _ _ _ T21 (mkF m 146 #[.val (.long v0), .second, .val (.int v1), .val (.long v0), .second, .val (.int (0 : Int32)), .val (.int (1 : Int32)), .val (.ref b16), .val (.long (0 : Int64)), .second, .val (.long ((0 : Int64) + (1 : Int64))), .second, .unset, .unset] [(.long (((0 : Int64) + (1 : Int64)) + (1 : Int64)))])
          refine G_lstore X21 hx (pc' := 148) rfl (hb hby at_146) (L' := #[.val (.long v0), .second, .val (.int v1), .val (.long v0), .second, .val (.int (0 : Int32)), .val (.int (1 : Int32)), .val (.ref b16), .val (.long (0 : Int64)), .second, .val (.long ((0 : Int64) + (1 : Int64))), .second, .val (.long (((0 : Int64) + (1 : Int64)) + (1 : Int64))), .second]) rfl ?_
          refine G_lload X21 hx (pc' := 150) rfl (hb hby at_148) rfl ?_
          refine G_lload X21 hx (pc' := 152) rfl (hb hby at_150) rfl ?_
          refine G_ldc2 X21 hx (pc' := 155) rfl hown (mvT hZ (hw _ (List.mem_of_getElem? (i := 27) rfl))) (hb hby at_152) ?_
          refine G_ladd X21 hx (pc' := 156) rfl (hb hby at_155)  ?_
          refine G_lcmp X21 hx (pc' := 157) rfl (hb hby at_156)  ?_
          by_cases hc157_5 : (((0 : Int64) + (1 : Int64)) + (1 : Int64)) = ((0 : Int64) + (2 : Int64))
          · refine G_ifNo X21 hx (pc' := 160) rfl (hb hby at_157) ((if0 _ _).trans (teq ((lw_eq _ _).2 hc157_5)).2) ?_
            refine G_aload X21 hx (pc' := 162) rfl (hb hby at_160) rfl rfl ?_
            obtain ⟨cq22, kq22, q22a, q22b, q22c⟩ := isOf hZ rfl p21_0
            obtain ⟨_, _, ⟨T22, L22, k22, n22⟩, -, X22, ⟨Lc22, hQ22, l22, y22, z22⟩, st22⟩ := X21.virtualBack hx (y := (⟨"com/example/fencing/fencing/protocol/LamportClock", "time", "()J"⟩ : MethodName)) (z := (⟨"com/example/fencing/fencing/protocol/LamportClock", "time", "()J"⟩ : MethodName)) hown (mvT hZ (hw _ (List.mem_of_getElem? (i := 10) rfl))) (mvT hZ (hw _ (List.mem_of_getElem? (i := 11) rfl))) (notFace_of_selects (args := #[]) (mvT hZ (hw _ (List.mem_of_getElem? (i := 13) rfl)))) (mvT hZ (hw _ (List.mem_of_getElem? (i := 13) rfl))) (mvT hZ (hw _ (List.mem_of_getElem? (i := 12) rfl))) (by decide) (backOf (W := 0) (rm_time l Z a0 hw [] b16 (((0 : Int64) + (1 : Int64)) + (1 : Int64)) T21.heap n0 Z_21 p21_1) hZ (hw _ (List.mem_of_getElem? (i := 14) rfl)) (hw _ (List.mem_of_getElem? (i := 3) rfl)) (by decide) (by decide)) q22a q22c (g := (mkF m 162 #[.val (.long v0), .second, .val (.int v1), .val (.long v0), .second, .val (.int (0 : Int32)), .val (.int (1 : Int32)), .val (.ref b16), .val (.long (0 : Int64)), .second, .val (.long ((0 : Int64) + (1 : Int64))), .second, .val (.long (((0 : Int64) + (1 : Int64)) + (1 : Int64))), .second] [(.ref b16)])) rfl (by rw [hml]; rfl) (Steps.refl _) (argsL := []) (rest := []) (lenOf pd_2 rfl) rfl (by show 2 * 0 + _ ≤ _; exact Nat.le_of_eq rfl) (hb hby at_162) (fun _ _ => ⟨rfl, rfl, (by decide : 1 + 0 ≤ _), (by decide : 1 + 0 ≤ _)⟩)
            dsimp only [Pt.U, Pt.locs, Pt.cells, Pt.slots] at X22 l22 y22 z22 st22 hQ22
            subst l22 y22 z22
            obtain ⟨rfl, N22q, e22⟩ := hQ22
            have N22 := Fr.app N21 N22q
            refine Go.st (fun _ k => st22.trans k) ?_
            show Go p e below s _ _ _ T22 (mkF m 165 #[.val (.long v0), .second, .val (.int v1), .val (.long v0), .second, .val (.int (0 : Int32)), .val (.int (1 : Int32)), .val (.ref b16), .val (.long (0 : Int64)), .second, .val (.long ((0 : Int64) + (1 : Int64))), .second, .val (.long (((0 : Int64) + (1 : Int64)) + (1 : Int64))), .second] [(.long (((0 : Int64) + (1 : Int64)) + (1 : Int64)))])
            refine G_lload X22 hx (pc' := 167) rfl (hb hby at_165) rfl ?_
            refine G_ldc2 X22 hx (pc' := 170) rfl hown (mvT hZ (hw _ (List.mem_of_getElem? (i := 27) rfl))) (hb hby at_167) ?_
            refine G_ladd X22 hx (pc' := 171) rfl (hb hby at_170)  ?_
            refine G_lcmp X22 hx (pc' := 172) rfl (hb hby at_171)  ?_
            refine G_ifYes X22 hx (pc' := 177) (hb hby at_172) ((if0 _ _).trans (teq ((lw_eq _ _).2 hc157_5)).1) (by decide) (by decide) ?_
            refine G_iconst X22 hx (pc' := 178) rfl (hb hby at_177) (z := (1 : Int32)) rfl ?_
            refine Go.fin X22 hlk (v := some (.int (1 : Int32))) (fun h => by rw [Bd.returns] at h; cases h) (by decide) (by decide) ?_ (fun fs hr => retN X22 hx (t := .boolean) Bd.returns (by simp) (hb hby at_178) hr)
            show Q_law Z v0 v1 h0 n0 _ T22.heap _
            rw [e22]
            exact ⟨congrArg (fun z => some (Value.int z)) (by rw [f_law]; rw [if_pos hc5_1, if_pos hc21_2, if_neg hc34_3, if_neg hc138_4, if_pos hc157_5]), N22⟩
          · refine G_ifYes X21 hx (pc' := 175) (hb hby at_157) ((if0 _ _).trans (feq (fun q => hc157_5 ((lw_eq _ _).1 q))).2) (by decide) (by decide) ?_
            refine G_iconst X21 hx (pc' := 176) rfl (hb hby at_175) (z := (0 : Int32)) rfl ?_
            refine Go.fin X21 hlk (v := some (.int (0 : Int32))) (fun h => by rw [Bd.returns] at h; cases h) (by decide) (by decide) ?_ (fun fs hr => retN X21 hx (t := .boolean) Bd.returns (by simp) (hb hby at_176) hr)
            show Q_law Z v0 v1 h0 n0 _ T21.heap _
            exact ⟨congrArg (fun z => some (Value.int z)) (by rw [f_law]; rw [if_pos hc5_1, if_pos hc21_2, if_neg hc34_3, if_neg hc138_4, if_neg hc157_5]), N21⟩
    · refine G_ifNo X0 hx (pc' := 24) rfl (hb hby at_21) ((if0 _ _).trans (feq hc21_2).1) ?_
      refine G_iconst X0 hx (pc' := 25) rfl (hb hby at_24) (z := (1 : Int32)) rfl ?_
      refine G_goto X0 hx (pc' := 29) (hb hby at_25)  (by decide) (by decide) ?_
      refine G_istore X0 hx (pc' := 31) rfl (hb hby at_29) (L' := #[.val (.long v0), .second, .val (.int v1), .val (.long v0), .second, .val (.int (1 : Int32)), .unset, .unset, .unset, .unset, .unset, .unset, .unset, .unset]) rfl ?_
      refine G_iloadN X0 hx (pc' := 32) rfl (hb hby at_31) rfl ?_
      refine G_iconst X0 hx (pc' := 33) rfl (hb hby at_32) (z := (2 : Int32)) rfl ?_
      refine G_iand X0 hx (pc' := 34) rfl (hb hby at_33)  ?_
      by_cases hc34_6 : (v1 &&& (2 : Int32)) = (0 : Int32)
      · refine G_ifYes X0 hx (pc' := 41) (hb hby at_34) ((if0 _ _).trans (teq hc34_6).1) (by decide) (by decide) ?_
        refine G_iconst X0 hx (pc' := 42) rfl (hb hby at_41) (z := (0 : Int32)) rfl ?_
        refine G_istore X0 hx (pc' := 44) rfl (hb hby at_42) (L' := #[.val (.long v0), .second, .val (.int v1), .val (.long v0), .second, .val (.int (1 : Int32)), .val (.int (0 : Int32)), .unset, .unset, .unset, .unset, .unset, .unset, .unset]) rfl ?_
        obtain ⟨T23, h23, X23, e23, E23, A23, D23, -, st23⟩ := newO X0 hx hZ hown (hw _ (List.mem_of_getElem? (i := 1) rfl)) (hw _ (List.mem_of_getElem? (i := 2) rfl)) (hw _ (List.mem_of_getElem? (i := 3) rfl)) e0 (g := (mkF m 44 #[.val (.long v0), .second, .val (.int v1), .val (.long v0), .second, .val (.int (1 : Int32)), .val (.int (0 : Int32)), .unset, .unset, .unset, .unset, .unset, .unset, .unset] [])) rfl (hb hby at_44) (by decide) (by decide)
        obtain ⟨b23, q23⟩ : ∃ z, z = h0.size := ⟨_, rfl⟩
        rw [← q23] at A23 D23 st23
        refine Go.st st23 ?_
        have g_b23 : n0 ≤ b23 := Nat.le_trans Z0 (Nat.le_of_eq q23.symm)
        have sz_b23 : h0.size ≤ b23 := Nat.le_trans (Nat.le_refl _) (Nat.le_of_eq q23.symm)
        have F_b23_time : Fld Z h23 b23 "com/example/fencing/fencing/protocol/LamportClock" "time" "J" (.long (0 : Int64)) := D23 (Or.inl (hw _ (List.mem_of_getElem? (i := 16) rfl))) (ty := .long) (by decide)
        have K_23 : Keep h0 h23 [] := (Keep.refl h0 []).ext E23
        have Z_23 : n0 ≤ h23.size := Nat.le_trans Z0 K_23.1
        show Go p e below s _ _ _ T23 (mkF m 47 #[.val (.long v0), .second, .val (.int v1), .val (.long v0), .second, .val (.int (1 : Int32)), .val (.int (0 : Int32)), .unset, .unset, .unset, .unset, .unset, .unset, .unset] [(.ref b23)])
        refine G_dup X23 hx (pc' := 48) rfl (hb hby at_47) rfl ?_
        obtain ⟨_, _, ⟨T24, L24, k24, n24⟩, -, X24, ⟨Lc24, hQ24, l24, y24, z24⟩, st24⟩ := X23.specialBack hx (y := (⟨"com/example/fencing/fencing/protocol/LamportClock", "<init>", "()V"⟩ : MethodName)) rfl hown (mvT hZ (hw _ (List.mem_of_getElem? (i := 4) rfl))) (mvT hZ (hw _ (List.mem_of_getElem? (i := 5) rfl))) (mvT hZ (hw _ (List.mem_of_getElem? (i := 6) rfl))) (by decide) (backOf (W := 1) (rm_init l Z a0 hw [] b23 h23 n0 Z_23 A23) hZ (hw _ (List.mem_of_getElem? (i := 6) rfl)) (hw _ (List.mem_of_getElem? (i := 3) rfl)) (by decide) (by decide)) (g := (mkF m 48 #[.val (.long v0), .second, .val (.int v1), .val (.long v0), .second, .val (.int (1 : Int32)), .val (.int (0 : Int32)), .unset, .unset, .unset, .unset, .unset, .unset, .unset] [(.ref b23), (.ref b23)])) rfl (by rw [hml]; rfl) (Steps.refl _) (a := b23) (argsL := []) (rest := [(.ref b23)]) (lenOf pd_1 rfl) rfl (by show 2 * 0 + _ ≤ _; exact Nat.le_of_eq rfl) (hb hby at_48) (fun _ _ => ⟨rfl, e23, (by decide : 1 + 0 ≤ _), (by decide : 1 + 0 ≤ _)⟩)
        dsimp only [Pt.U, Pt.locs, Pt.cells, Pt.slots] at X24 l24 y24 z24 st24 hQ24
        subst l24 y24 z24
        obtain ⟨rfl, N24q, e24⟩ := hQ24
        have N24 := Fr.app N0 N24q
        refine Go.st (fun _ k => st24.trans k) ?_
        show Go p e below s _ _ _ T24 (mkF m 51 #[.val (.long v0), .second, .val (.int v1), .val (.long v0), .second, .val (.int (1 : Int32)), .val (.int (0 : Int32)), .unset, .unset, .unset, .unset, .unset, .unset, .unset] [(.ref b23)])
        refine G_astore X24 hx (pc' := 53) rfl (hb hby at_51) rfl (L' := #[.val (.long v0), .second, .val (.int v1), .val (.long v0), .second, .val (.int (1 : Int32)), .val (.int (0 : Int32)), .val (.ref b23), .unset, .unset, .unset, .unset, .unset, .unset]) rfl ?_
        refine G_lconst X24 hx (pc' := 54) rfl (hb hby at_53) (z := (0 : Int64)) rfl ?_
        refine G_lstore X24 hx (pc' := 56) rfl (hb hby at_54) (L' := #[.val (.long v0), .second, .val (.int v1), .val (.long v0), .second, .val (.int (1 : Int32)), .val (.int (0 : Int32)), .val (.ref b23), .val (.long (0 : Int64)), .second, .unset, .unset, .unset, .unset]) rfl ?_
        refine G_iload X24 hx (pc' := 58) rfl (hb hby at_56) rfl ?_
        refine G_ifNo X24 hx (pc' := 61) rfl (hb hby at_58) ((if0 _ _).trans (feq (by decide : ¬ ((1 : Int32) = (0 : Int32)))).1) ?_
        refine G_aload X24 hx (pc' := 63) rfl (hb hby at_61) rfl rfl ?_
        refine G_lloadN X24 hx (pc' := 64) rfl (hb hby at_63) rfl ?_
        obtain ⟨cq25, kq25, q25a, q25b, q25c⟩ := isOf hZ e24 A23
        obtain ⟨_, _, ⟨T25, L25, k25, n25⟩, -, X25, ⟨Lc25, hQ25, l25, y25, z25⟩, st25⟩ := X24.virtualBack hx (y := (⟨"com/example/fencing/fencing/protocol/LamportClock", "receive", "(J)V"⟩ : MethodName)) (z := (⟨"com/example/fencing/fencing/protocol/LamportClock", "receive", "(J)V"⟩ : MethodName)) hown (mvT hZ (hw _ (List.mem_of_getElem? (i := 28) rfl))) (mvT hZ (hw _ (List.mem_of_getElem? (i := 29) rfl))) (notFace_of_selects (args := #[]) (mvT hZ (hw _ (List.mem_of_getElem? (i := 31) rfl)))) (mvT hZ (hw _ (List.mem_of_getElem? (i := 31) rfl))) (mvT hZ (hw _ (List.mem_of_getElem? (i := 30) rfl))) (by decide) (backOf (W := 0) (rm_recv l Z a0 hw [] b23 v0 (0 : Int64) h23 n0 Z_23 A23 F_b23_time g_b23 (by first | exact own_rec1 (by assumption) | exact own_rec2 (by assumption))) hZ (hw _ (List.mem_of_getElem? (i := 32) rfl)) (hw _ (List.mem_of_getElem? (i := 3) rfl)) (by decide) (by decide)) q25a q25c (g := (mkF m 64 #[.val (.long v0), .second, .val (.int v1), .val (.long v0), .second, .val (.int (1 : Int32)), .val (.int (0 : Int32)), .val (.ref b23), .val (.long (0 : Int64)), .second, .unset, .unset, .unset, .unset] [(.long v0), (.ref b23)])) rfl (by rw [hml]; rfl) (Steps.refl _) (argsL := [(.long v0)]) (rest := []) (lenOf pd_3 rfl) rfl (by show 2 * 0 + _ ≤ _; exact Nat.le_of_eq rfl) (hb hby at_64) (fun _ _ => ⟨rfl, e24, (by decide : 1 + 0 ≤ _), (by decide : 1 + 0 ≤ _)⟩)
        dsimp only [Pt.U, Pt.locs, Pt.cells, Pt.slots] at X25 l25 y25 z25 st25 hQ25
        subst l25 y25 z25
        obtain ⟨rfl, N25q, K25, p25_0, p25_1⟩ := hQ25
        have N25 := Fr.app N24 N25q
        refine Go.st (fun _ k => st25.trans k) ?_
        have K_25 : Keep h0 T25.heap [] := K_23.trans K25 (allS (Or.inr sz_b23) all0)
        have Z_25 : n0 ≤ T25.heap.size := Nat.le_trans Z0 K_25.1
        show Go p e below s _ _ _ T25 (mkF m 67 #[.val (.long v0), .second, .val (.int v1), .val (.long v0), .second, .val (.int (1 : Int32)), .val (.int (0 : Int32)), .val (.ref b23), .val (.long (0 : Int64)), .second, .unset, .unset, .unset, .unset] [])
        refine G_lloadN X25 hx (pc' := 68) rfl (hb hby at_67) rfl ?_
        refine G_lconst X25 hx (pc' := 69) rfl (hb hby at_68) (z := (0 : Int64)) rfl ?_
        refine G_lcmp X25 hx (pc' := 70) rfl (hb hby at_69)  ?_
        by_cases hc70_7 : (0 : Int64) < v0
        · refine G_ifNo X25 hx (pc' := 73) rfl (hb hby at_70) ((if0 _ _).trans (tlt ((lw_gt _ _).2 hc70_7)).2.2.2) ?_
          refine G_lloadN X25 hx (pc' := 74) rfl (hb hby at_73) rfl ?_
          refine G_goto X25 hx (pc' := 78) (hb hby at_74)  (by decide) (by decide) ?_
          refine G_lconst X25 hx (pc' := 79) rfl (hb hby at_78) (z := (1 : Int64)) rfl ?_
          refine G_ladd X25 hx (pc' := 80) rfl (hb hby at_79)  ?_
          refine G_lstore X25 hx (pc' := 82) rfl (hb hby at_80) (L' := #[.val (.long v0), .second, .val (.int v1), .val (.long v0), .second, .val (.int (1 : Int32)), .val (.int (0 : Int32)), .val (.ref b23), .val (.long (v0 + (1 : Int64))), .second, .unset, .unset, .unset, .unset]) rfl ?_
          refine G_aload X25 hx (pc' := 84) rfl (hb hby at_82) rfl rfl ?_
          obtain ⟨cq26, kq26, q26a, q26b, q26c⟩ := isOf hZ rfl p25_0
          obtain ⟨_, _, ⟨T26, L26, k26, n26⟩, -, X26, ⟨Lc26, hQ26, l26, y26, z26⟩, st26⟩ := X25.virtualBack hx (y := (⟨"com/example/fencing/fencing/protocol/LamportClock", "time", "()J"⟩ : MethodName)) (z := (⟨"com/example/fencing/fencing/protocol/LamportClock", "time", "()J"⟩ : MethodName)) hown (mvT hZ (hw _ (List.mem_of_getElem? (i := 10) rfl))) (mvT hZ (hw _ (List.mem_of_getElem? (i := 11) rfl))) (notFace_of_selects (args := #[]) (mvT hZ (hw _ (List.mem_of_getElem? (i := 13) rfl)))) (mvT hZ (hw _ (List.mem_of_getElem? (i := 13) rfl))) (mvT hZ (hw _ (List.mem_of_getElem? (i := 12) rfl))) (by decide) (backOf (W := 0) (rm_time l Z a0 hw [] b23 ((f_max (0 : Int64) v0) + (1 : Int64)) T25.heap n0 Z_25 p25_1) hZ (hw _ (List.mem_of_getElem? (i := 14) rfl)) (hw _ (List.mem_of_getElem? (i := 3) rfl)) (by decide) (by decide)) q26a q26c (g := (mkF m 84 #[.val (.long v0), .second, .val (.int v1), .val (.long v0), .second, .val (.int (1 : Int32)), .val (.int (0 : Int32)), .val (.ref b23), .val (.long (v0 + (1 : Int64))), .second, .unset, .unset, .unset, .unset] [(.ref b23)])) rfl (by rw [hml]; rfl) (Steps.refl _) (argsL := []) (rest := []) (lenOf pd_2 rfl) rfl (by show 2 * 0 + _ ≤ _; exact Nat.le_of_eq rfl) (hb hby at_84) (fun _ _ => ⟨rfl, rfl, (by decide : 1 + 0 ≤ _), (by decide : 1 + 0 ≤ _)⟩)
          dsimp only [Pt.U, Pt.locs, Pt.cells, Pt.slots] at X26 l26 y26 z26 st26 hQ26
          subst l26 y26 z26
          obtain ⟨rfl, N26q, e26⟩ := hQ26
          have N26 := Fr.app N25 N26q
          refine Go.st (fun _ k => st26.trans k) ?_
          show Go p e below s _ _ _ T26 (mkF m 87 #[.val (.long v0), .second, .val (.int v1), .val (.long v0), .second, .val (.int (1 : Int32)), .val (.int (0 : Int32)), .val (.ref b23), .val (.long (v0 + (1 : Int64))), .second, .unset, .unset, .unset, .unset] [(.long ((f_max (0 : Int64) v0) + (1 : Int64)))])
          refine G_lload X26 hx (pc' := 89) rfl (hb hby at_87) rfl ?_
          refine G_lcmp X26 hx (pc' := 90) rfl (hb hby at_89)  ?_
          by_cases hc90_8 : ((f_max (0 : Int64) v0) + (1 : Int64)) = (v0 + (1 : Int64))
          · refine G_ifYes X26 hx (pc' := 95) (hb hby at_90) ((if0 _ _).trans (teq ((lw_eq _ _).2 hc90_8)).1) (by decide) (by decide) ?_
            refine G_aload X26 hx (pc' := 97) rfl (hb hby at_95) rfl rfl ?_
            obtain ⟨cq27, kq27, q27a, q27b, q27c⟩ := isOf hZ e26 p25_0
            obtain ⟨_, _, ⟨T27, L27, k27, n27⟩, -, X27, ⟨Lc27, hQ27, l27, y27, z27⟩, st27⟩ := X26.virtualBack hx (y := (⟨"com/example/fencing/fencing/protocol/LamportClock", "tick", "()J"⟩ : MethodName)) (z := (⟨"com/example/fencing/fencing/protocol/LamportClock", "tick", "()J"⟩ : MethodName)) hown (mvT hZ (hw _ (List.mem_of_getElem? (i := 17) rfl))) (mvT hZ (hw _ (List.mem_of_getElem? (i := 18) rfl))) (notFace_of_selects (args := #[]) (mvT hZ (hw _ (List.mem_of_getElem? (i := 20) rfl)))) (mvT hZ (hw _ (List.mem_of_getElem? (i := 20) rfl))) (mvT hZ (hw _ (List.mem_of_getElem? (i := 19) rfl))) (by decide) (backOf (W := 0) (rm_tick l Z a0 hw [] b23 ((f_max (0 : Int64) v0) + (1 : Int64)) T25.heap n0 Z_25 p25_0 p25_1 g_b23 (by first | decide | exact own_tk1 (by assumption) | exact own_tk2 (by assumption))) hZ (hw _ (List.mem_of_getElem? (i := 21) rfl)) (hw _ (List.mem_of_getElem? (i := 3) rfl)) (by decide) (by decide)) q27a q27c (g := (mkF m 97 #[.val (.long v0), .second, .val (.int v1), .val (.long v0), .second, .val (.int (1 : Int32)), .val (.int (0 : Int32)), .val (.ref b23), .val (.long (v0 + (1 : Int64))), .second, .unset, .unset, .unset, .unset] [(.ref b23)])) rfl (by rw [hml]; rfl) (Steps.refl _) (argsL := []) (rest := []) (lenOf pd_2 rfl) rfl (by show 2 * 0 + _ ≤ _; exact Nat.le_of_eq rfl) (hb hby at_97) (fun _ _ => ⟨rfl, e26, (by decide : 1 + 0 ≤ _), (by decide : 1 + 0 ≤ _)⟩)
            dsimp only [Pt.U, Pt.locs, Pt.cells, Pt.slots] at X27 l27 y27 z27 st27 hQ27
            subst l27 y27 z27
            obtain ⟨rfl, N27q, K27, p27_0, p27_1⟩ := hQ27
            have N27 := Fr.app N26 N27q
            refine Go.st (fun _ k => st27.trans k) ?_
            have K_27 : Keep h0 T27.heap [] := K_25.trans K27 (allS (Or.inr sz_b23) all0)
            have Z_27 : n0 ≤ T27.heap.size := Nat.le_trans Z0 K_27.1
            show Go p e below s _ _ _ T27 (mkF m 100 #[.val (.long v0), .second, .val (.int v1), .val (.long v0), .second, .val (.int (1 : Int32)), .val (.int (0 : Int32)), .val (.ref b23), .val (.long (v0 + (1 : Int64))), .second, .unset, .unset, .unset, .unset] [(.long (((f_max (0 : Int64) v0) + (1 : Int64)) + (1 : Int64)))])
            refine G_lstore X27 hx (pc' := 102) rfl (hb hby at_100) (L' := #[.val (.long v0), .second, .val (.int v1), .val (.long v0), .second, .val (.int (1 : Int32)), .val (.int (0 : Int32)), .val (.ref b23), .val (.long (v0 + (1 : Int64))), .second, .val (.long (((f_max (0 : Int64) v0) + (1 : Int64)) + (1 : Int64))), .second, .unset, .unset]) rfl ?_
            refine G_lload X27 hx (pc' := 104) rfl (hb hby at_102) rfl ?_
            refine G_lload X27 hx (pc' := 106) rfl (hb hby at_104) rfl ?_
            refine G_lconst X27 hx (pc' := 107) rfl (hb hby at_106) (z := (1 : Int64)) rfl ?_
            refine G_ladd X27 hx (pc' := 108) rfl (hb hby at_107)  ?_
            refine G_lcmp X27 hx (pc' := 109) rfl (hb hby at_108)  ?_
            by_cases hc109_9 : (((f_max (0 : Int64) v0) + (1 : Int64)) + (1 : Int64)) = ((v0 + (1 : Int64)) + (1 : Int64))
            · refine G_ifNo X27 hx (pc' := 112) rfl (hb hby at_109) ((if0 _ _).trans (teq ((lw_eq _ _).2 hc109_9)).2) ?_
              refine G_aload X27 hx (pc' := 114) rfl (hb hby at_112) rfl rfl ?_
              obtain ⟨cq28, kq28, q28a, q28b, q28c⟩ := isOf hZ rfl p27_0
              obtain ⟨_, _, ⟨T28, L28, k28, n28⟩, -, X28, ⟨Lc28, hQ28, l28, y28, z28⟩, st28⟩ := X27.virtualBack hx (y := (⟨"com/example/fencing/fencing/protocol/LamportClock", "time", "()J"⟩ : MethodName)) (z := (⟨"com/example/fencing/fencing/protocol/LamportClock", "time", "()J"⟩ : MethodName)) hown (mvT hZ (hw _ (List.mem_of_getElem? (i := 10) rfl))) (mvT hZ (hw _ (List.mem_of_getElem? (i := 11) rfl))) (notFace_of_selects (args := #[]) (mvT hZ (hw _ (List.mem_of_getElem? (i := 13) rfl)))) (mvT hZ (hw _ (List.mem_of_getElem? (i := 13) rfl))) (mvT hZ (hw _ (List.mem_of_getElem? (i := 12) rfl))) (by decide) (backOf (W := 0) (rm_time l Z a0 hw [] b23 (((f_max (0 : Int64) v0) + (1 : Int64)) + (1 : Int64)) T27.heap n0 Z_27 p27_1) hZ (hw _ (List.mem_of_getElem? (i := 14) rfl)) (hw _ (List.mem_of_getElem? (i := 3) rfl)) (by decide) (by decide)) q28a q28c (g := (mkF m 114 #[.val (.long v0), .second, .val (.int v1), .val (.long v0), .second, .val (.int (1 : Int32)), .val (.int (0 : Int32)), .val (.ref b23), .val (.long (v0 + (1 : Int64))), .second, .val (.long (((f_max (0 : Int64) v0) + (1 : Int64)) + (1 : Int64))), .second, .unset, .unset] [(.ref b23)])) rfl (by rw [hml]; rfl) (Steps.refl _) (argsL := []) (rest := []) (lenOf pd_2 rfl) rfl (by show 2 * 0 + _ ≤ _; exact Nat.le_of_eq rfl) (hb hby at_114) (fun _ _ => ⟨rfl, rfl, (by decide : 1 + 0 ≤ _), (by decide : 1 + 0 ≤ _)⟩)
              dsimp only [Pt.U, Pt.locs, Pt.cells, Pt.slots] at X28 l28 y28 z28 st28 hQ28
              subst l28 y28 z28
              obtain ⟨rfl, N28q, e28⟩ := hQ28
              have N28 := Fr.app N27 N28q
              refine Go.st (fun _ k => st28.trans k) ?_
              show Go p e below s _ _ _ T28 (mkF m 117 #[.val (.long v0), .second, .val (.int v1), .val (.long v0), .second, .val (.int (1 : Int32)), .val (.int (0 : Int32)), .val (.ref b23), .val (.long (v0 + (1 : Int64))), .second, .val (.long (((f_max (0 : Int64) v0) + (1 : Int64)) + (1 : Int64))), .second, .unset, .unset] [(.long (((f_max (0 : Int64) v0) + (1 : Int64)) + (1 : Int64)))])
              refine G_lload X28 hx (pc' := 119) rfl (hb hby at_117) rfl ?_
              refine G_lconst X28 hx (pc' := 120) rfl (hb hby at_119) (z := (1 : Int64)) rfl ?_
              refine G_ladd X28 hx (pc' := 121) rfl (hb hby at_120)  ?_
              refine G_lcmp X28 hx (pc' := 122) rfl (hb hby at_121)  ?_
              refine G_ifYes X28 hx (pc' := 127) (hb hby at_122) ((if0 _ _).trans (teq ((lw_eq _ _).2 hc109_9)).1) (by decide) (by decide) ?_
              refine G_iload X28 hx (pc' := 129) rfl (hb hby at_127) rfl ?_
              refine G_ifYes X28 hx (pc' := 177) (hb hby at_129) ((if0 _ _).trans (teq (by decide : (0 : Int32) = (0 : Int32))).1) (by decide) (by decide) ?_
              refine G_iconst X28 hx (pc' := 178) rfl (hb hby at_177) (z := (1 : Int32)) rfl ?_
              refine Go.fin X28 hlk (v := some (.int (1 : Int32))) (fun h => by rw [Bd.returns] at h; cases h) (by decide) (by decide) ?_ (fun fs hr => retN X28 hx (t := .boolean) Bd.returns (by simp) (hb hby at_178) hr)
              show Q_law Z v0 v1 h0 n0 _ T28.heap _
              rw [e28]
              exact ⟨congrArg (fun z => some (Value.int z)) (by rw [f_law]; rw [if_pos hc5_1, if_neg hc21_2, if_pos hc34_6, if_pos hc70_7, if_pos hc90_8, if_pos hc109_9]), N28⟩
            · refine G_ifYes X27 hx (pc' := 125) (hb hby at_109) ((if0 _ _).trans (feq (fun q => hc109_9 ((lw_eq _ _).1 q))).2) (by decide) (by decide) ?_
              refine G_iconst X27 hx (pc' := 126) rfl (hb hby at_125) (z := (0 : Int32)) rfl ?_
              refine Go.fin X27 hlk (v := some (.int (0 : Int32))) (fun h => by rw [Bd.returns] at h; cases h) (by decide) (by decide) ?_ (fun fs hr => retN X27 hx (t := .boolean) Bd.returns (by simp) (hb hby at_126) hr)
              show Q_law Z v0 v1 h0 n0 _ T27.heap _
              exact ⟨congrArg (fun z => some (Value.int z)) (by rw [f_law]; rw [if_pos hc5_1, if_neg hc21_2, if_pos hc34_6, if_pos hc70_7, if_pos hc90_8, if_neg hc109_9]), N27⟩
          · refine G_ifNo X26 hx (pc' := 93) rfl (hb hby at_90) ((if0 _ _).trans (feq (fun q => hc90_8 ((lw_eq _ _).1 q))).1) ?_
            refine G_iconst X26 hx (pc' := 94) rfl (hb hby at_93) (z := (0 : Int32)) rfl ?_
            refine Go.fin X26 hlk (v := some (.int (0 : Int32))) (fun h => by rw [Bd.returns] at h; cases h) (by decide) (by decide) ?_ (fun fs hr => retN X26 hx (t := .boolean) Bd.returns (by simp) (hb hby at_94) hr)
            show Q_law Z v0 v1 h0 n0 _ T26.heap _
            rw [e26]
            exact ⟨congrArg (fun z => some (Value.int z)) (by rw [f_law]; rw [if_pos hc5_1, if_neg hc21_2, if_pos hc34_6, if_pos hc70_7, if_neg hc90_8]), N26⟩
        · refine G_ifYes X25 hx (pc' := 77) (hb hby at_70) ((if0 _ _).trans (flt (fun q => hc70_7 ((lw_gt _ _).1 q))).2.2.2) (by decide) (by decide) ?_
          refine G_lconst X25 hx (pc' := 78) rfl (hb hby at_77) (z := (0 : Int64)) rfl ?_
          refine G_lconst X25 hx (pc' := 79) rfl (hb hby at_78) (z := (1 : Int64)) rfl ?_
          refine G_ladd X25 hx (pc' := 80) rfl (hb hby at_79)  ?_
          refine G_lstore X25 hx (pc' := 82) rfl (hb hby at_80) (L' := #[.val (.long v0), .second, .val (.int v1), .val (.long v0), .second, .val (.int (1 : Int32)), .val (.int (0 : Int32)), .val (.ref b23), .val (.long ((0 : Int64) + (1 : Int64))), .second, .unset, .unset, .unset, .unset]) rfl ?_
          refine G_aload X25 hx (pc' := 84) rfl (hb hby at_82) rfl rfl ?_
          obtain ⟨cq29, kq29, q29a, q29b, q29c⟩ := isOf hZ rfl p25_0
          obtain ⟨_, _, ⟨T29, L29, k29, n29⟩, -, X29, ⟨Lc29, hQ29, l29, y29, z29⟩, st29⟩ := X25.virtualBack hx (y := (⟨"com/example/fencing/fencing/protocol/LamportClock", "time", "()J"⟩ : MethodName)) (z := (⟨"com/example/fencing/fencing/protocol/LamportClock", "time", "()J"⟩ : MethodName)) hown (mvT hZ (hw _ (List.mem_of_getElem? (i := 10) rfl))) (mvT hZ (hw _ (List.mem_of_getElem? (i := 11) rfl))) (notFace_of_selects (args := #[]) (mvT hZ (hw _ (List.mem_of_getElem? (i := 13) rfl)))) (mvT hZ (hw _ (List.mem_of_getElem? (i := 13) rfl))) (mvT hZ (hw _ (List.mem_of_getElem? (i := 12) rfl))) (by decide) (backOf (W := 0) (rm_time l Z a0 hw [] b23 ((f_max (0 : Int64) v0) + (1 : Int64)) T25.heap n0 Z_25 p25_1) hZ (hw _ (List.mem_of_getElem? (i := 14) rfl)) (hw _ (List.mem_of_getElem? (i := 3) rfl)) (by decide) (by decide)) q29a q29c (g := (mkF m 84 #[.val (.long v0), .second, .val (.int v1), .val (.long v0), .second, .val (.int (1 : Int32)), .val (.int (0 : Int32)), .val (.ref b23), .val (.long ((0 : Int64) + (1 : Int64))), .second, .unset, .unset, .unset, .unset] [(.ref b23)])) rfl (by rw [hml]; rfl) (Steps.refl _) (argsL := []) (rest := []) (lenOf pd_2 rfl) rfl (by show 2 * 0 + _ ≤ _; exact Nat.le_of_eq rfl) (hb hby at_84) (fun _ _ => ⟨rfl, rfl, (by decide : 1 + 0 ≤ _), (by decide : 1 + 0 ≤ _)⟩)
          dsimp only [Pt.U, Pt.locs, Pt.cells, Pt.slots] at X29 l29 y29 z29 st29 hQ29
          subst l29 y29 z29
          obtain ⟨rfl, N29q, e29⟩ := hQ29
          have N29 := Fr.app N25 N29q
          refine Go.st (fun _ k => st29.trans k) ?_
          show Go p e below s _ _ _ T29 (mkF m 87 #[.val (.long v0), .second, .val (.int v1), .val (.long v0), .second, .val (.int (1 : Int32)), .val (.int (0 : Int32)), .val (.ref b23), .val (.long ((0 : Int64) + (1 : Int64))), .second, .unset, .unset, .unset, .unset] [(.long ((f_max (0 : Int64) v0) + (1 : Int64)))])
          refine G_lload X29 hx (pc' := 89) rfl (hb hby at_87) rfl ?_
          refine G_lcmp X29 hx (pc' := 90) rfl (hb hby at_89)  ?_
          by_cases hc90_10 : ((f_max (0 : Int64) v0) + (1 : Int64)) = ((0 : Int64) + (1 : Int64))
          · refine G_ifYes X29 hx (pc' := 95) (hb hby at_90) ((if0 _ _).trans (teq ((lw_eq _ _).2 hc90_10)).1) (by decide) (by decide) ?_
            refine G_aload X29 hx (pc' := 97) rfl (hb hby at_95) rfl rfl ?_
            obtain ⟨cq30, kq30, q30a, q30b, q30c⟩ := isOf hZ e29 p25_0
            obtain ⟨_, _, ⟨T30, L30, k30, n30⟩, -, X30, ⟨Lc30, hQ30, l30, y30, z30⟩, st30⟩ := X29.virtualBack hx (y := (⟨"com/example/fencing/fencing/protocol/LamportClock", "tick", "()J"⟩ : MethodName)) (z := (⟨"com/example/fencing/fencing/protocol/LamportClock", "tick", "()J"⟩ : MethodName)) hown (mvT hZ (hw _ (List.mem_of_getElem? (i := 17) rfl))) (mvT hZ (hw _ (List.mem_of_getElem? (i := 18) rfl))) (notFace_of_selects (args := #[]) (mvT hZ (hw _ (List.mem_of_getElem? (i := 20) rfl)))) (mvT hZ (hw _ (List.mem_of_getElem? (i := 20) rfl))) (mvT hZ (hw _ (List.mem_of_getElem? (i := 19) rfl))) (by decide) (backOf (W := 0) (rm_tick l Z a0 hw [] b23 ((f_max (0 : Int64) v0) + (1 : Int64)) T25.heap n0 Z_25 p25_0 p25_1 g_b23 (by first | decide | exact own_tk1 (by assumption) | exact own_tk2 (by assumption))) hZ (hw _ (List.mem_of_getElem? (i := 21) rfl)) (hw _ (List.mem_of_getElem? (i := 3) rfl)) (by decide) (by decide)) q30a q30c (g := (mkF m 97 #[.val (.long v0), .second, .val (.int v1), .val (.long v0), .second, .val (.int (1 : Int32)), .val (.int (0 : Int32)), .val (.ref b23), .val (.long ((0 : Int64) + (1 : Int64))), .second, .unset, .unset, .unset, .unset] [(.ref b23)])) rfl (by rw [hml]; rfl) (Steps.refl _) (argsL := []) (rest := []) (lenOf pd_2 rfl) rfl (by show 2 * 0 + _ ≤ _; exact Nat.le_of_eq rfl) (hb hby at_97) (fun _ _ => ⟨rfl, e29, (by decide : 1 + 0 ≤ _), (by decide : 1 + 0 ≤ _)⟩)
            dsimp only [Pt.U, Pt.locs, Pt.cells, Pt.slots] at X30 l30 y30 z30 st30 hQ30
            subst l30 y30 z30
            obtain ⟨rfl, N30q, K30, p30_0, p30_1⟩ := hQ30
            have N30 := Fr.app N29 N30q
            refine Go.st (fun _ k => st30.trans k) ?_
            have K_30 : Keep h0 T30.heap [] := K_25.trans K30 (allS (Or.inr sz_b23) all0)
            have Z_30 : n0 ≤ T30.heap.size := Nat.le_trans Z0 K_30.1
            show Go p e below s _ _ _ T30 (mkF m 100 #[.val (.long v0), .second, .val (.int v1), .val (.long v0), .second, .val (.int (1 : Int32)), .val (.int (0 : Int32)), .val (.ref b23), .val (.long ((0 : Int64) + (1 : Int64))), .second, .unset, .unset, .unset, .unset] [(.long (((f_max (0 : Int64) v0) + (1 : Int64)) + (1 : Int64)))])
            refine G_lstore X30 hx (pc' := 102) rfl (hb hby at_100) (L' := #[.val (.long v0), .second, .val (.int v1), .val (.long v0), .second, .val (.int (1 : Int32)), .val (.int (0 : Int32)), .val (.ref b23), .val (.long ((0 : Int64) + (1 : Int64))), .second, .val (.long (((f_max (0 : Int64) v0) + (1 : Int64)) + (1 : Int64))), .second, .unset, .unset]) rfl ?_
            refine G_lload X30 hx (pc' := 104) rfl (hb hby at_102) rfl ?_
            refine G_lload X30 hx (pc' := 106) rfl (hb hby at_104) rfl ?_
            refine G_lconst X30 hx (pc' := 107) rfl (hb hby at_106) (z := (1 : Int64)) rfl ?_
            refine G_ladd X30 hx (pc' := 108) rfl (hb hby at_107)  ?_
            refine G_lcmp X30 hx (pc' := 109) rfl (hb hby at_108)  ?_
            by_cases hc109_11 : (((f_max (0 : Int64) v0) + (1 : Int64)) + (1 : Int64)) = (((0 : Int64) + (1 : Int64)) + (1 : Int64))
            · refine G_ifNo X30 hx (pc' := 112) rfl (hb hby at_109) ((if0 _ _).trans (teq ((lw_eq _ _).2 hc109_11)).2) ?_
              refine G_aload X30 hx (pc' := 114) rfl (hb hby at_112) rfl rfl ?_
              obtain ⟨cq31, kq31, q31a, q31b, q31c⟩ := isOf hZ rfl p30_0
              obtain ⟨_, _, ⟨T31, L31, k31, n31⟩, -, X31, ⟨Lc31, hQ31, l31, y31, z31⟩, st31⟩ := X30.virtualBack hx (y := (⟨"com/example/fencing/fencing/protocol/LamportClock", "time", "()J"⟩ : MethodName)) (z := (⟨"com/example/fencing/fencing/protocol/LamportClock", "time", "()J"⟩ : MethodName)) hown (mvT hZ (hw _ (List.mem_of_getElem? (i := 10) rfl))) (mvT hZ (hw _ (List.mem_of_getElem? (i := 11) rfl))) (notFace_of_selects (args := #[]) (mvT hZ (hw _ (List.mem_of_getElem? (i := 13) rfl)))) (mvT hZ (hw _ (List.mem_of_getElem? (i := 13) rfl))) (mvT hZ (hw _ (List.mem_of_getElem? (i := 12) rfl))) (by decide) (backOf (W := 0) (rm_time l Z a0 hw [] b23 (((f_max (0 : Int64) v0) + (1 : Int64)) + (1 : Int64)) T30.heap n0 Z_30 p30_1) hZ (hw _ (List.mem_of_getElem? (i := 14) rfl)) (hw _ (List.mem_of_getElem? (i := 3) rfl)) (by decide) (by decide)) q31a q31c (g := (mkF m 114 #[.val (.long v0), .second, .val (.int v1), .val (.long v0), .second, .val (.int (1 : Int32)), .val (.int (0 : Int32)), .val (.ref b23), .val (.long ((0 : Int64) + (1 : Int64))), .second, .val (.long (((f_max (0 : Int64) v0) + (1 : Int64)) + (1 : Int64))), .second, .unset, .unset] [(.ref b23)])) rfl (by rw [hml]; rfl) (Steps.refl _) (argsL := []) (rest := []) (lenOf pd_2 rfl) rfl (by show 2 * 0 + _ ≤ _; exact Nat.le_of_eq rfl) (hb hby at_114) (fun _ _ => ⟨rfl, rfl, (by decide : 1 + 0 ≤ _), (by decide : 1 + 0 ≤ _)⟩)
              dsimp only [Pt.U, Pt.locs, Pt.cells, Pt.slots] at X31 l31 y31 z31 st31 hQ31
              subst l31 y31 z31
              obtain ⟨rfl, N31q, e31⟩ := hQ31
              have N31 := Fr.app N30 N31q
              refine Go.st (fun _ k => st31.trans k) ?_
              show Go p e below s _ _ _ T31 (mkF m 117 #[.val (.long v0), .second, .val (.int v1), .val (.long v0), .second, .val (.int (1 : Int32)), .val (.int (0 : Int32)), .val (.ref b23), .val (.long ((0 : Int64) + (1 : Int64))), .second, .val (.long (((f_max (0 : Int64) v0) + (1 : Int64)) + (1 : Int64))), .second, .unset, .unset] [(.long (((f_max (0 : Int64) v0) + (1 : Int64)) + (1 : Int64)))])
              refine G_lload X31 hx (pc' := 119) rfl (hb hby at_117) rfl ?_
              refine G_lconst X31 hx (pc' := 120) rfl (hb hby at_119) (z := (1 : Int64)) rfl ?_
              refine G_ladd X31 hx (pc' := 121) rfl (hb hby at_120)  ?_
              refine G_lcmp X31 hx (pc' := 122) rfl (hb hby at_121)  ?_
              refine G_ifYes X31 hx (pc' := 127) (hb hby at_122) ((if0 _ _).trans (teq ((lw_eq _ _).2 hc109_11)).1) (by decide) (by decide) ?_
              refine G_iload X31 hx (pc' := 129) rfl (hb hby at_127) rfl ?_
              refine G_ifYes X31 hx (pc' := 177) (hb hby at_129) ((if0 _ _).trans (teq (by decide : (0 : Int32) = (0 : Int32))).1) (by decide) (by decide) ?_
              refine G_iconst X31 hx (pc' := 178) rfl (hb hby at_177) (z := (1 : Int32)) rfl ?_
              refine Go.fin X31 hlk (v := some (.int (1 : Int32))) (fun h => by rw [Bd.returns] at h; cases h) (by decide) (by decide) ?_ (fun fs hr => retN X31 hx (t := .boolean) Bd.returns (by simp) (hb hby at_178) hr)
              show Q_law Z v0 v1 h0 n0 _ T31.heap _
              rw [e31]
              exact ⟨congrArg (fun z => some (Value.int z)) (by rw [f_law]; rw [if_pos hc5_1, if_neg hc21_2, if_pos hc34_6, if_neg hc70_7, if_pos hc90_10, if_pos hc109_11]), N31⟩
            · refine G_ifYes X30 hx (pc' := 125) (hb hby at_109) ((if0 _ _).trans (feq (fun q => hc109_11 ((lw_eq _ _).1 q))).2) (by decide) (by decide) ?_
              refine G_iconst X30 hx (pc' := 126) rfl (hb hby at_125) (z := (0 : Int32)) rfl ?_
              refine Go.fin X30 hlk (v := some (.int (0 : Int32))) (fun h => by rw [Bd.returns] at h; cases h) (by decide) (by decide) ?_ (fun fs hr => retN X30 hx (t := .boolean) Bd.returns (by simp) (hb hby at_126) hr)
              show Q_law Z v0 v1 h0 n0 _ T30.heap _
              exact ⟨congrArg (fun z => some (Value.int z)) (by rw [f_law]; rw [if_pos hc5_1, if_neg hc21_2, if_pos hc34_6, if_neg hc70_7, if_pos hc90_10, if_neg hc109_11]), N30⟩
          · refine G_ifNo X29 hx (pc' := 93) rfl (hb hby at_90) ((if0 _ _).trans (feq (fun q => hc90_10 ((lw_eq _ _).1 q))).1) ?_
            refine G_iconst X29 hx (pc' := 94) rfl (hb hby at_93) (z := (0 : Int32)) rfl ?_
            refine Go.fin X29 hlk (v := some (.int (0 : Int32))) (fun h => by rw [Bd.returns] at h; cases h) (by decide) (by decide) ?_ (fun fs hr => retN X29 hx (t := .boolean) Bd.returns (by simp) (hb hby at_94) hr)
            show Q_law Z v0 v1 h0 n0 _ T29.heap _
            rw [e29]
            exact ⟨congrArg (fun z => some (Value.int z)) (by rw [f_law]; rw [if_pos hc5_1, if_neg hc21_2, if_pos hc34_6, if_neg hc70_7, if_neg hc90_10]), N29⟩
      · refine G_ifNo X0 hx (pc' := 37) rfl (hb hby at_34) ((if0 _ _).trans (feq hc34_6).1) ?_
        refine G_iconst X0 hx (pc' := 38) rfl (hb hby at_37) (z := (1 : Int32)) rfl ?_
        refine G_goto X0 hx (pc' := 42) (hb hby at_38)  (by decide) (by decide) ?_
        refine G_istore X0 hx (pc' := 44) rfl (hb hby at_42) (L' := #[.val (.long v0), .second, .val (.int v1), .val (.long v0), .second, .val (.int (1 : Int32)), .val (.int (1 : Int32)), .unset, .unset, .unset, .unset, .unset, .unset, .unset]) rfl ?_
        obtain ⟨T32, h32, X32, e32, E32, A32, D32, -, st32⟩ := newO X0 hx hZ hown (hw _ (List.mem_of_getElem? (i := 1) rfl)) (hw _ (List.mem_of_getElem? (i := 2) rfl)) (hw _ (List.mem_of_getElem? (i := 3) rfl)) e0 (g := (mkF m 44 #[.val (.long v0), .second, .val (.int v1), .val (.long v0), .second, .val (.int (1 : Int32)), .val (.int (1 : Int32)), .unset, .unset, .unset, .unset, .unset, .unset, .unset] [])) rfl (hb hby at_44) (by decide) (by decide)
        obtain ⟨b32, q32⟩ : ∃ z, z = h0.size := ⟨_, rfl⟩
        rw [← q32] at A32 D32 st32
        refine Go.st st32 ?_
        have g_b32 : n0 ≤ b32 := Nat.le_trans Z0 (Nat.le_of_eq q32.symm)
        have sz_b32 : h0.size ≤ b32 := Nat.le_trans (Nat.le_refl _) (Nat.le_of_eq q32.symm)
        have F_b32_time : Fld Z h32 b32 "com/example/fencing/fencing/protocol/LamportClock" "time" "J" (.long (0 : Int64)) := D32 (Or.inl (hw _ (List.mem_of_getElem? (i := 16) rfl))) (ty := .long) (by decide)
        have K_32 : Keep h0 h32 [] := (Keep.refl h0 []).ext E32
        have Z_32 : n0 ≤ h32.size := Nat.le_trans Z0 K_32.1
        show Go p e below s _ _ _ T32 (mkF m 47 #[.val (.long v0), .second, .val (.int v1), .val (.long v0), .second, .val (.int (1 : Int32)), .val (.int (1 : Int32)), .unset, .unset, .unset, .unset, .unset, .unset, .unset] [(.ref b32)])
        refine G_dup X32 hx (pc' := 48) rfl (hb hby at_47) rfl ?_
        obtain ⟨_, _, ⟨T33, L33, k33, n33⟩, -, X33, ⟨Lc33, hQ33, l33, y33, z33⟩, st33⟩ := X32.specialBack hx (y := (⟨"com/example/fencing/fencing/protocol/LamportClock", "<init>", "()V"⟩ : MethodName)) rfl hown (mvT hZ (hw _ (List.mem_of_getElem? (i := 4) rfl))) (mvT hZ (hw _ (List.mem_of_getElem? (i := 5) rfl))) (mvT hZ (hw _ (List.mem_of_getElem? (i := 6) rfl))) (by decide) (backOf (W := 1) (rm_init l Z a0 hw [] b32 h32 n0 Z_32 A32) hZ (hw _ (List.mem_of_getElem? (i := 6) rfl)) (hw _ (List.mem_of_getElem? (i := 3) rfl)) (by decide) (by decide)) (g := (mkF m 48 #[.val (.long v0), .second, .val (.int v1), .val (.long v0), .second, .val (.int (1 : Int32)), .val (.int (1 : Int32)), .unset, .unset, .unset, .unset, .unset, .unset, .unset] [(.ref b32), (.ref b32)])) rfl (by rw [hml]; rfl) (Steps.refl _) (a := b32) (argsL := []) (rest := [(.ref b32)]) (lenOf pd_1 rfl) rfl (by show 2 * 0 + _ ≤ _; exact Nat.le_of_eq rfl) (hb hby at_48) (fun _ _ => ⟨rfl, e32, (by decide : 1 + 0 ≤ _), (by decide : 1 + 0 ≤ _)⟩)
        dsimp only [Pt.U, Pt.locs, Pt.cells, Pt.slots] at X33 l33 y33 z33 st33 hQ33
        subst l33 y33 z33
        obtain ⟨rfl, N33q, e33⟩ := hQ33
        have N33 := Fr.app N0 N33q
        refine Go.st (fun _ k => st33.trans k) ?_
        show Go p e below s _ _ _ T33 (mkF m 51 #[.val (.long v0), .second, .val (.int v1), .val (.long v0), .second, .val (.int (1 : Int32)), .val (.int (1 : Int32)), .unset, .unset, .unset, .unset, .unset, .unset, .unset] [(.ref b32)])
        refine G_astore X33 hx (pc' := 53) rfl (hb hby at_51) rfl (L' := #[.val (.long v0), .second, .val (.int v1), .val (.long v0), .second, .val (.int (1 : Int32)), .val (.int (1 : Int32)), .val (.ref b32), .unset, .unset, .unset, .unset, .unset, .unset]) rfl ?_
        refine G_lconst X33 hx (pc' := 54) rfl (hb hby at_53) (z := (0 : Int64)) rfl ?_
        refine G_lstore X33 hx (pc' := 56) rfl (hb hby at_54) (L' := #[.val (.long v0), .second, .val (.int v1), .val (.long v0), .second, .val (.int (1 : Int32)), .val (.int (1 : Int32)), .val (.ref b32), .val (.long (0 : Int64)), .second, .unset, .unset, .unset, .unset]) rfl ?_
        refine G_iload X33 hx (pc' := 58) rfl (hb hby at_56) rfl ?_
        refine G_ifNo X33 hx (pc' := 61) rfl (hb hby at_58) ((if0 _ _).trans (feq (by decide : ¬ ((1 : Int32) = (0 : Int32)))).1) ?_
        refine G_aload X33 hx (pc' := 63) rfl (hb hby at_61) rfl rfl ?_
        refine G_lloadN X33 hx (pc' := 64) rfl (hb hby at_63) rfl ?_
        obtain ⟨cq34, kq34, q34a, q34b, q34c⟩ := isOf hZ e33 A32
        obtain ⟨_, _, ⟨T34, L34, k34, n34⟩, -, X34, ⟨Lc34, hQ34, l34, y34, z34⟩, st34⟩ := X33.virtualBack hx (y := (⟨"com/example/fencing/fencing/protocol/LamportClock", "receive", "(J)V"⟩ : MethodName)) (z := (⟨"com/example/fencing/fencing/protocol/LamportClock", "receive", "(J)V"⟩ : MethodName)) hown (mvT hZ (hw _ (List.mem_of_getElem? (i := 28) rfl))) (mvT hZ (hw _ (List.mem_of_getElem? (i := 29) rfl))) (notFace_of_selects (args := #[]) (mvT hZ (hw _ (List.mem_of_getElem? (i := 31) rfl)))) (mvT hZ (hw _ (List.mem_of_getElem? (i := 31) rfl))) (mvT hZ (hw _ (List.mem_of_getElem? (i := 30) rfl))) (by decide) (backOf (W := 0) (rm_recv l Z a0 hw [] b32 v0 (0 : Int64) h32 n0 Z_32 A32 F_b32_time g_b32 (by first | exact own_rec1 (by assumption) | exact own_rec2 (by assumption))) hZ (hw _ (List.mem_of_getElem? (i := 32) rfl)) (hw _ (List.mem_of_getElem? (i := 3) rfl)) (by decide) (by decide)) q34a q34c (g := (mkF m 64 #[.val (.long v0), .second, .val (.int v1), .val (.long v0), .second, .val (.int (1 : Int32)), .val (.int (1 : Int32)), .val (.ref b32), .val (.long (0 : Int64)), .second, .unset, .unset, .unset, .unset] [(.long v0), (.ref b32)])) rfl (by rw [hml]; rfl) (Steps.refl _) (argsL := [(.long v0)]) (rest := []) (lenOf pd_3 rfl) rfl (by show 2 * 0 + _ ≤ _; exact Nat.le_of_eq rfl) (hb hby at_64) (fun _ _ => ⟨rfl, e33, (by decide : 1 + 0 ≤ _), (by decide : 1 + 0 ≤ _)⟩)
        dsimp only [Pt.U, Pt.locs, Pt.cells, Pt.slots] at X34 l34 y34 z34 st34 hQ34
        subst l34 y34 z34
        obtain ⟨rfl, N34q, K34, p34_0, p34_1⟩ := hQ34
        have N34 := Fr.app N33 N34q
        refine Go.st (fun _ k => st34.trans k) ?_
        have K_34 : Keep h0 T34.heap [] := K_32.trans K34 (allS (Or.inr sz_b32) all0)
        have Z_34 : n0 ≤ T34.heap.size := Nat.le_trans Z0 K_34.1
        show Go p e below s _ _ _ T34 (mkF m 67 #[.val (.long v0), .second, .val (.int v1), .val (.long v0), .second, .val (.int (1 : Int32)), .val (.int (1 : Int32)), .val (.ref b32), .val (.long (0 : Int64)), .second, .unset, .unset, .unset, .unset] [])
        refine G_lloadN X34 hx (pc' := 68) rfl (hb hby at_67) rfl ?_
        refine G_lconst X34 hx (pc' := 69) rfl (hb hby at_68) (z := (0 : Int64)) rfl ?_
        refine G_lcmp X34 hx (pc' := 70) rfl (hb hby at_69)  ?_
        by_cases hc70_12 : (0 : Int64) < v0
        · refine G_ifNo X34 hx (pc' := 73) rfl (hb hby at_70) ((if0 _ _).trans (tlt ((lw_gt _ _).2 hc70_12)).2.2.2) ?_
          refine G_lloadN X34 hx (pc' := 74) rfl (hb hby at_73) rfl ?_
          refine G_goto X34 hx (pc' := 78) (hb hby at_74)  (by decide) (by decide) ?_
          refine G_lconst X34 hx (pc' := 79) rfl (hb hby at_78) (z := (1 : Int64)) rfl ?_
          refine G_ladd X34 hx (pc' := 80) rfl (hb hby at_79)  ?_
          refine G_lstore X34 hx (pc' := 82) rfl (hb hby at_80) (L' := #[.val (.long v0), .second, .val (.int v1), .val (.long v0), .second, .val (.int (1 : Int32)), .val (.int (1 : Int32)), .val (.ref b32), .val (.long (v0 + (1 : Int64))), .second, .unset, .unset, .unset, .unset]) rfl ?_
          refine G_aload X34 hx (pc' := 84) rfl (hb hby at_82) rfl rfl ?_
          obtain ⟨cq35, kq35, q35a, q35b, q35c⟩ := isOf hZ rfl p34_0
          obtain ⟨_, _, ⟨T35, L35, k35, n35⟩, -, X35, ⟨Lc35, hQ35, l35, y35, z35⟩, st35⟩ := X34.virtualBack hx (y := (⟨"com/example/fencing/fencing/protocol/LamportClock", "time", "()J"⟩ : MethodName)) (z := (⟨"com/example/fencing/fencing/protocol/LamportClock", "time", "()J"⟩ : MethodName)) hown (mvT hZ (hw _ (List.mem_of_getElem? (i := 10) rfl))) (mvT hZ (hw _ (List.mem_of_getElem? (i := 11) rfl))) (notFace_of_selects (args := #[]) (mvT hZ (hw _ (List.mem_of_getElem? (i := 13) rfl)))) (mvT hZ (hw _ (List.mem_of_getElem? (i := 13) rfl))) (mvT hZ (hw _ (List.mem_of_getElem? (i := 12) rfl))) (by decide) (backOf (W := 0) (rm_time l Z a0 hw [] b32 ((f_max (0 : Int64) v0) + (1 : Int64)) T34.heap n0 Z_34 p34_1) hZ (hw _ (List.mem_of_getElem? (i := 14) rfl)) (hw _ (List.mem_of_getElem? (i := 3) rfl)) (by decide) (by decide)) q35a q35c (g := (mkF m 84 #[.val (.long v0), .second, .val (.int v1), .val (.long v0), .second, .val (.int (1 : Int32)), .val (.int (1 : Int32)), .val (.ref b32), .val (.long (v0 + (1 : Int64))), .second, .unset, .unset, .unset, .unset] [(.ref b32)])) rfl (by rw [hml]; rfl) (Steps.refl _) (argsL := []) (rest := []) (lenOf pd_2 rfl) rfl (by show 2 * 0 + _ ≤ _; exact Nat.le_of_eq rfl) (hb hby at_84) (fun _ _ => ⟨rfl, rfl, (by decide : 1 + 0 ≤ _), (by decide : 1 + 0 ≤ _)⟩)
          dsimp only [Pt.U, Pt.locs, Pt.cells, Pt.slots] at X35 l35 y35 z35 st35 hQ35
          subst l35 y35 z35
          obtain ⟨rfl, N35q, e35⟩ := hQ35
          have N35 := Fr.app N34 N35q
          refine Go.st (fun _ k => st35.trans k) ?_
          show Go p e below s _ _ _ T35 (mkF m 87 #[.val (.long v0), .second, .val (.int v1), .val (.long v0), .second, .val (.int (1 : Int32)), .val (.int (1 : Int32)), .val (.ref b32), .val (.long (v0 + (1 : Int64))), .second, .unset, .unset, .unset, .unset] [(.long ((f_max (0 : Int64) v0) + (1 : Int64)))])
          refine G_lload X35 hx (pc' := 89) rfl (hb hby at_87) rfl ?_
          refine G_lcmp X35 hx (pc' := 90) rfl (hb hby at_89)  ?_
          by_cases hc90_13 : ((f_max (0 : Int64) v0) + (1 : Int64)) = (v0 + (1 : Int64))
          · refine G_ifYes X35 hx (pc' := 95) (hb hby at_90) ((if0 _ _).trans (teq ((lw_eq _ _).2 hc90_13)).1) (by decide) (by decide) ?_
            refine G_aload X35 hx (pc' := 97) rfl (hb hby at_95) rfl rfl ?_
            obtain ⟨cq36, kq36, q36a, q36b, q36c⟩ := isOf hZ e35 p34_0
            obtain ⟨_, _, ⟨T36, L36, k36, n36⟩, -, X36, ⟨Lc36, hQ36, l36, y36, z36⟩, st36⟩ := X35.virtualBack hx (y := (⟨"com/example/fencing/fencing/protocol/LamportClock", "tick", "()J"⟩ : MethodName)) (z := (⟨"com/example/fencing/fencing/protocol/LamportClock", "tick", "()J"⟩ : MethodName)) hown (mvT hZ (hw _ (List.mem_of_getElem? (i := 17) rfl))) (mvT hZ (hw _ (List.mem_of_getElem? (i := 18) rfl))) (notFace_of_selects (args := #[]) (mvT hZ (hw _ (List.mem_of_getElem? (i := 20) rfl)))) (mvT hZ (hw _ (List.mem_of_getElem? (i := 20) rfl))) (mvT hZ (hw _ (List.mem_of_getElem? (i := 19) rfl))) (by decide) (backOf (W := 0) (rm_tick l Z a0 hw [] b32 ((f_max (0 : Int64) v0) + (1 : Int64)) T34.heap n0 Z_34 p34_0 p34_1 g_b32 (by first | decide | exact own_tk1 (by assumption) | exact own_tk2 (by assumption))) hZ (hw _ (List.mem_of_getElem? (i := 21) rfl)) (hw _ (List.mem_of_getElem? (i := 3) rfl)) (by decide) (by decide)) q36a q36c (g := (mkF m 97 #[.val (.long v0), .second, .val (.int v1), .val (.long v0), .second, .val (.int (1 : Int32)), .val (.int (1 : Int32)), .val (.ref b32), .val (.long (v0 + (1 : Int64))), .second, .unset, .unset, .unset, .unset] [(.ref b32)])) rfl (by rw [hml]; rfl) (Steps.refl _) (argsL := []) (rest := []) (lenOf pd_2 rfl) rfl (by show 2 * 0 + _ ≤ _; exact Nat.le_of_eq rfl) (hb hby at_97) (fun _ _ => ⟨rfl, e35, (by decide : 1 + 0 ≤ _), (by decide : 1 + 0 ≤ _)⟩)
            dsimp only [Pt.U, Pt.locs, Pt.cells, Pt.slots] at X36 l36 y36 z36 st36 hQ36
            subst l36 y36 z36
            obtain ⟨rfl, N36q, K36, p36_0, p36_1⟩ := hQ36
            have N36 := Fr.app N35 N36q
            refine Go.st (fun _ k => st36.trans k) ?_
            have K_36 : Keep h0 T36.heap [] := K_34.trans K36 (allS (Or.inr sz_b32) all0)
            have Z_36 : n0 ≤ T36.heap.size := Nat.le_trans Z0 K_36.1
            show Go p e below s _ _ _ T36 (mkF m 100 #[.val (.long v0), .second, .val (.int v1), .val (.long v0), .second, .val (.int (1 : Int32)), .val (.int (1 : Int32)), .val (.ref b32), .val (.long (v0 + (1 : Int64))), .second, .unset, .unset, .unset, .unset] [(.long (((f_max (0 : Int64) v0) + (1 : Int64)) + (1 : Int64)))])
            refine G_lstore X36 hx (pc' := 102) rfl (hb hby at_100) (L' := #[.val (.long v0), .second, .val (.int v1), .val (.long v0), .second, .val (.int (1 : Int32)), .val (.int (1 : Int32)), .val (.ref b32), .val (.long (v0 + (1 : Int64))), .second, .val (.long (((f_max (0 : Int64) v0) + (1 : Int64)) + (1 : Int64))), .second, .unset, .unset]) rfl ?_
            refine G_lload X36 hx (pc' := 104) rfl (hb hby at_102) rfl ?_
            refine G_lload X36 hx (pc' := 106) rfl (hb hby at_104) rfl ?_
            refine G_lconst X36 hx (pc' := 107) rfl (hb hby at_106) (z := (1 : Int64)) rfl ?_
            refine G_ladd X36 hx (pc' := 108) rfl (hb hby at_107)  ?_
            refine G_lcmp X36 hx (pc' := 109) rfl (hb hby at_108)  ?_
            by_cases hc109_14 : (((f_max (0 : Int64) v0) + (1 : Int64)) + (1 : Int64)) = ((v0 + (1 : Int64)) + (1 : Int64))
            · refine G_ifNo X36 hx (pc' := 112) rfl (hb hby at_109) ((if0 _ _).trans (teq ((lw_eq _ _).2 hc109_14)).2) ?_
              refine G_aload X36 hx (pc' := 114) rfl (hb hby at_112) rfl rfl ?_
              obtain ⟨cq37, kq37, q37a, q37b, q37c⟩ := isOf hZ rfl p36_0
              obtain ⟨_, _, ⟨T37, L37, k37, n37⟩, -, X37, ⟨Lc37, hQ37, l37, y37, z37⟩, st37⟩ := X36.virtualBack hx (y := (⟨"com/example/fencing/fencing/protocol/LamportClock", "time", "()J"⟩ : MethodName)) (z := (⟨"com/example/fencing/fencing/protocol/LamportClock", "time", "()J"⟩ : MethodName)) hown (mvT hZ (hw _ (List.mem_of_getElem? (i := 10) rfl))) (mvT hZ (hw _ (List.mem_of_getElem? (i := 11) rfl))) (notFace_of_selects (args := #[]) (mvT hZ (hw _ (List.mem_of_getElem? (i := 13) rfl)))) (mvT hZ (hw _ (List.mem_of_getElem? (i := 13) rfl))) (mvT hZ (hw _ (List.mem_of_getElem? (i := 12) rfl))) (by decide) (backOf (W := 0) (rm_time l Z a0 hw [] b32 (((f_max (0 : Int64) v0) + (1 : Int64)) + (1 : Int64)) T36.heap n0 Z_36 p36_1) hZ (hw _ (List.mem_of_getElem? (i := 14) rfl)) (hw _ (List.mem_of_getElem? (i := 3) rfl)) (by decide) (by decide)) q37a q37c (g := (mkF m 114 #[.val (.long v0), .second, .val (.int v1), .val (.long v0), .second, .val (.int (1 : Int32)), .val (.int (1 : Int32)), .val (.ref b32), .val (.long (v0 + (1 : Int64))), .second, .val (.long (((f_max (0 : Int64) v0) + (1 : Int64)) + (1 : Int64))), .second, .unset, .unset] [(.ref b32)])) rfl (by rw [hml]; rfl) (Steps.refl _) (argsL := []) (rest := []) (lenOf pd_2 rfl) rfl (by show 2 * 0 + _ ≤ _; exact Nat.le_of_eq rfl) (hb hby at_114) (fun _ _ => ⟨rfl, rfl, (by decide : 1 + 0 ≤ _), (by decide : 1 + 0 ≤ _)⟩)
              dsimp only [Pt.U, Pt.locs, Pt.cells, Pt.slots] at X37 l37 y37 z37 st37 hQ37
              subst l37 y37 z37
              obtain ⟨rfl, N37q, e37⟩ := hQ37
              have N37 := Fr.app N36 N37q
              refine Go.st (fun _ k => st37.trans k) ?_
              show Go p e below s _ _ _ T37 (mkF m 117 #[.val (.long v0), .second, .val (.int v1), .val (.long v0), .second, .val (.int (1 : Int32)), .val (.int (1 : Int32)), .val (.ref b32), .val (.long (v0 + (1 : Int64))), .second, .val (.long (((f_max (0 : Int64) v0) + (1 : Int64)) + (1 : Int64))), .second, .unset, .unset] [(.long (((f_max (0 : Int64) v0) + (1 : Int64)) + (1 : Int64)))])
              refine G_lload X37 hx (pc' := 119) rfl (hb hby at_117) rfl ?_
              refine G_lconst X37 hx (pc' := 120) rfl (hb hby at_119) (z := (1 : Int64)) rfl ?_
              refine G_ladd X37 hx (pc' := 121) rfl (hb hby at_120)  ?_
              refine G_lcmp X37 hx (pc' := 122) rfl (hb hby at_121)  ?_
              refine G_ifYes X37 hx (pc' := 127) (hb hby at_122) ((if0 _ _).trans (teq ((lw_eq _ _).2 hc109_14)).1) (by decide) (by decide) ?_
              refine G_iload X37 hx (pc' := 129) rfl (hb hby at_127) rfl ?_
              refine G_ifNo X37 hx (pc' := 132) rfl (hb hby at_129) ((if0 _ _).trans (feq (by decide : ¬ ((1 : Int32) = (0 : Int32)))).1) ?_
              refine G_lload X37 hx (pc' := 134) rfl (hb hby at_132) rfl ?_
              refine G_ldc2 X37 hx (pc' := 137) rfl hown (mvT hZ (hw _ (List.mem_of_getElem? (i := 26) rfl))) (hb hby at_134) ?_
              refine G_lcmp X37 hx (pc' := 138) rfl (hb hby at_137)  ?_
              by_cases hc138_15 : (((f_max (0 : Int64) v0) + (1 : Int64)) + (1 : Int64)) = (9223372036854775807 : Int64)
              · refine G_ifYes X37 hx (pc' := 177) (hb hby at_138) ((if0 _ _).trans (teq ((lw_eq _ _).2 hc138_15)).1) (by decide) (by decide) ?_
                refine G_iconst X37 hx (pc' := 178) rfl (hb hby at_177) (z := (1 : Int32)) rfl ?_
                refine Go.fin X37 hlk (v := some (.int (1 : Int32))) (fun h => by rw [Bd.returns] at h; cases h) (by decide) (by decide) ?_ (fun fs hr => retN X37 hx (t := .boolean) Bd.returns (by simp) (hb hby at_178) hr)
                show Q_law Z v0 v1 h0 n0 _ T37.heap _
                rw [e37]
                exact ⟨congrArg (fun z => some (Value.int z)) (by rw [f_law]; rw [if_pos hc5_1, if_neg hc21_2, if_neg hc34_6, if_pos hc70_12, if_pos hc90_13, if_pos hc109_14, if_pos hc138_15]), N37⟩
              · refine G_ifNo X37 hx (pc' := 141) rfl (hb hby at_138) ((if0 _ _).trans (feq (fun q => hc138_15 ((lw_eq _ _).1 q))).1) ?_
                refine G_aload X37 hx (pc' := 143) rfl (hb hby at_141) rfl rfl ?_
                obtain ⟨cq38, kq38, q38a, q38b, q38c⟩ := isOf hZ e37 p36_0
                obtain ⟨_, _, ⟨T38, L38, k38, n38⟩, -, X38, ⟨Lc38, hQ38, l38, y38, z38⟩, st38⟩ := X37.virtualBack hx (y := (⟨"com/example/fencing/fencing/protocol/LamportClock", "tick", "()J"⟩ : MethodName)) (z := (⟨"com/example/fencing/fencing/protocol/LamportClock", "tick", "()J"⟩ : MethodName)) hown (mvT hZ (hw _ (List.mem_of_getElem? (i := 17) rfl))) (mvT hZ (hw _ (List.mem_of_getElem? (i := 18) rfl))) (notFace_of_selects (args := #[]) (mvT hZ (hw _ (List.mem_of_getElem? (i := 20) rfl)))) (mvT hZ (hw _ (List.mem_of_getElem? (i := 20) rfl))) (mvT hZ (hw _ (List.mem_of_getElem? (i := 19) rfl))) (by decide) (backOf (W := 0) (rm_tick l Z a0 hw [] b32 (((f_max (0 : Int64) v0) + (1 : Int64)) + (1 : Int64)) T36.heap n0 Z_36 p36_0 p36_1 g_b32 (by first | decide | assumption)) hZ (hw _ (List.mem_of_getElem? (i := 21) rfl)) (hw _ (List.mem_of_getElem? (i := 3) rfl)) (by decide) (by decide)) q38a q38c (g := (mkF m 143 #[.val (.long v0), .second, .val (.int v1), .val (.long v0), .second, .val (.int (1 : Int32)), .val (.int (1 : Int32)), .val (.ref b32), .val (.long (v0 + (1 : Int64))), .second, .val (.long (((f_max (0 : Int64) v0) + (1 : Int64)) + (1 : Int64))), .second, .unset, .unset] [(.ref b32)])) rfl (by rw [hml]; rfl) (Steps.refl _) (argsL := []) (rest := []) (lenOf pd_2 rfl) rfl (by show 2 * 0 + _ ≤ _; exact Nat.le_of_eq rfl) (hb hby at_143) (fun _ _ => ⟨rfl, e37, (by decide : 1 + 0 ≤ _), (by decide : 1 + 0 ≤ _)⟩)
                dsimp only [Pt.U, Pt.locs, Pt.cells, Pt.slots] at X38 l38 y38 z38 st38 hQ38
                subst l38 y38 z38
                obtain ⟨rfl, N38q, K38, p38_0, p38_1⟩ := hQ38
                have N38 := Fr.app N37 N38q
                refine Go.st (fun _ k => st38.trans k) ?_
                have K_38 : Keep h0 T38.heap [] := K_36.trans K38 (allS (Or.inr sz_b32) all0)
                have Z_38 : n0 ≤ T38.heap.size := Nat.le_trans Z0 K_38.1
                show Go p e below s _ _ _ T38 (mkF m 146 #[.val (.long v0), .second, .val (.int v1), .val (.long v0), .second, .val (.int (1 : Int32)), .val (.int (1 : Int32)), .val (.ref b32), .val (.long (v0 + (1 : Int64))), .second, .val (.long (((f_max (0 : Int64) v0) + (1 : Int64)) + (1 : Int64))), .second, .unset, .unset] [(.long ((((f_max (0 : Int64) v0) + (1 : Int64)) + (1 : Int64)) + (1 : Int64)))])
                refine G_lstore X38 hx (pc' := 148) rfl (hb hby at_146) (L' := #[.val (.long v0), .second, .val (.int v1), .val (.long v0), .second, .val (.int (1 : Int32)), .val (.int (1 : Int32)), .val (.ref b32), .val (.long (v0 + (1 : Int64))), .second, .val (.long (((f_max (0 : Int64) v0) + (1 : Int64)) + (1 : Int64))), .second, .val (.long ((((f_max (0 : Int64) v0) + (1 : Int64)) + (1 : Int64)) + (1 : Int64))), .second]) rfl ?_
                refine G_lload X38 hx (pc' := 150) rfl (hb hby at_148) rfl ?_
                refine G_lload X38 hx (pc' := 152) rfl (hb hby at_150) rfl ?_
                refine G_ldc2 X38 hx (pc' := 155) rfl hown (mvT hZ (hw _ (List.mem_of_getElem? (i := 27) rfl))) (hb hby at_152) ?_
                refine G_ladd X38 hx (pc' := 156) rfl (hb hby at_155)  ?_
                refine G_lcmp X38 hx (pc' := 157) rfl (hb hby at_156)  ?_
                by_cases hc157_16 : ((((f_max (0 : Int64) v0) + (1 : Int64)) + (1 : Int64)) + (1 : Int64)) = ((v0 + (1 : Int64)) + (2 : Int64))
                · refine G_ifNo X38 hx (pc' := 160) rfl (hb hby at_157) ((if0 _ _).trans (teq ((lw_eq _ _).2 hc157_16)).2) ?_
                  refine G_aload X38 hx (pc' := 162) rfl (hb hby at_160) rfl rfl ?_
                  obtain ⟨cq39, kq39, q39a, q39b, q39c⟩ := isOf hZ rfl p38_0
                  obtain ⟨_, _, ⟨T39, L39, k39, n39⟩, -, X39, ⟨Lc39, hQ39, l39, y39, z39⟩, st39⟩ := X38.virtualBack hx (y := (⟨"com/example/fencing/fencing/protocol/LamportClock", "time", "()J"⟩ : MethodName)) (z := (⟨"com/example/fencing/fencing/protocol/LamportClock", "time", "()J"⟩ : MethodName)) hown (mvT hZ (hw _ (List.mem_of_getElem? (i := 10) rfl))) (mvT hZ (hw _ (List.mem_of_getElem? (i := 11) rfl))) (notFace_of_selects (args := #[]) (mvT hZ (hw _ (List.mem_of_getElem? (i := 13) rfl)))) (mvT hZ (hw _ (List.mem_of_getElem? (i := 13) rfl))) (mvT hZ (hw _ (List.mem_of_getElem? (i := 12) rfl))) (by decide) (backOf (W := 0) (rm_time l Z a0 hw [] b32 ((((f_max (0 : Int64) v0) + (1 : Int64)) + (1 : Int64)) + (1 : Int64)) T38.heap n0 Z_38 p38_1) hZ (hw _ (List.mem_of_getElem? (i := 14) rfl)) (hw _ (List.mem_of_getElem? (i := 3) rfl)) (by decide) (by decide)) q39a q39c (g := (mkF m 162 #[.val (.long v0), .second, .val (.int v1), .val (.long v0), .second, .val (.int (1 : Int32)), .val (.int (1 : Int32)), .val (.ref b32), .val (.long (v0 + (1 : Int64))), .second, .val (.long (((f_max (0 : Int64) v0) + (1 : Int64)) + (1 : Int64))), .second, .val (.long ((((f_max (0 : Int64) v0) + (1 : Int64)) + (1 : Int64)) + (1 : Int64))), .second] [(.ref b32)])) rfl (by rw [hml]; rfl) (Steps.refl _) (argsL := []) (rest := []) (lenOf pd_2 rfl) rfl (by show 2 * 0 + _ ≤ _; exact Nat.le_of_eq rfl) (hb hby at_162) (fun _ _ => ⟨rfl, rfl, (by decide : 1 + 0 ≤ _), (by decide : 1 + 0 ≤ _)⟩)
                  dsimp only [Pt.U, Pt.locs, Pt.cells, Pt.slots] at X39 l39 y39 z39 st39 hQ39
                  subst l39 y39 z39
                  obtain ⟨rfl, N39q, e39⟩ := hQ39
                  have N39 := Fr.app N38 N39q
                  refine Go.st (fun _ k => st39.trans k) ?_
                  show Go p e below s _ _ _ T39 (mkF m 165 #[.val (.long v0), .second, .val (.int v1), .val (.long v0), .second, .val (.int (1 : Int32)), .val (.int (1 : Int32)), .val (.ref b32), .val (.long (v0 + (1 : Int64))), .second, .val (.long (((f_max (0 : Int64) v0) + (1 : Int64)) + (1 : Int64))), .second, .val (.long ((((f_max (0 : Int64) v0) + (1 : Int64)) + (1 : Int64)) + (1 : Int64))), .second] [(.long ((((f_max (0 : Int64) v0) + (1 : Int64)) + (1 : Int64)) + (1 : Int64)))])
                  refine G_lload X39 hx (pc' := 167) rfl (hb hby at_165) rfl ?_
                  refine G_ldc2 X39 hx (pc' := 170) rfl hown (mvT hZ (hw _ (List.mem_of_getElem? (i := 27) rfl))) (hb hby at_167) ?_
                  refine G_ladd X39 hx (pc' := 171) rfl (hb hby at_170)  ?_
                  refine G_lcmp X39 hx (pc' := 172) rfl (hb hby at_171)  ?_
                  refine G_ifYes X39 hx (pc' := 177) (hb hby at_172) ((if0 _ _).trans (teq ((lw_eq _ _).2 hc157_16)).1) (by decide) (by decide) ?_
                  refine G_iconst X39 hx (pc' := 178) rfl (hb hby at_177) (z := (1 : Int32)) rfl ?_
                  refine Go.fin X39 hlk (v := some (.int (1 : Int32))) (fun h => by rw [Bd.returns] at h; cases h) (by decide) (by decide) ?_ (fun fs hr => retN X39 hx (t := .boolean) Bd.returns (by simp) (hb hby at_178) hr)
                  show Q_law Z v0 v1 h0 n0 _ T39.heap _
                  rw [e39]
                  exact ⟨congrArg (fun z => some (Value.int z)) (by rw [f_law]; rw [if_pos hc5_1, if_neg hc21_2, if_neg hc34_6, if_pos hc70_12, if_pos hc90_13, if_pos hc109_14, if_neg hc138_15, if_pos hc157_16]), N39⟩
                · refine G_ifYes X38 hx (pc' := 175) (hb hby at_157) ((if0 _ _).trans (feq (fun q => hc157_16 ((lw_eq _ _).1 q))).2) (by decide) (by decide) ?_
                  refine G_iconst X38 hx (pc' := 176) rfl (hb hby at_175) (z := (0 : Int32)) rfl ?_
                  refine Go.fin X38 hlk (v := some (.int (0 : Int32))) (fun h => by rw [Bd.returns] at h; cases h) (by decide) (by decide) ?_ (fun fs hr => retN X38 hx (t := .boolean) Bd.returns (by simp) (hb hby at_176) hr)
                  show Q_law Z v0 v1 h0 n0 _ T38.heap _
                  exact ⟨congrArg (fun z => some (Value.int z)) (by rw [f_law]; rw [if_pos hc5_1, if_neg hc21_2, if_neg hc34_6, if_pos hc70_12, if_pos hc90_13, if_pos hc109_14, if_neg hc138_15, if_neg hc157_16]), N38⟩
            · refine G_ifYes X36 hx (pc' := 125) (hb hby at_109) ((if0 _ _).trans (feq (fun q => hc109_14 ((lw_eq _ _).1 q))).2) (by decide) (by decide) ?_
              refine G_iconst X36 hx (pc' := 126) rfl (hb hby at_125) (z := (0 : Int32)) rfl ?_
              refine Go.fin X36 hlk (v := some (.int (0 : Int32))) (fun h => by rw [Bd.returns] at h; cases h) (by decide) (by decide) ?_ (fun fs hr => retN X36 hx (t := .boolean) Bd.returns (by simp) (hb hby at_126) hr)
              show Q_law Z v0 v1 h0 n0 _ T36.heap _
              exact ⟨congrArg (fun z => some (Value.int z)) (by rw [f_law]; rw [if_pos hc5_1, if_neg hc21_2, if_neg hc34_6, if_pos hc70_12, if_pos hc90_13, if_neg hc109_14]), N36⟩
          · refine G_ifNo X35 hx (pc' := 93) rfl (hb hby at_90) ((if0 _ _).trans (feq (fun q => hc90_13 ((lw_eq _ _).1 q))).1) ?_
            refine G_iconst X35 hx (pc' := 94) rfl (hb hby at_93) (z := (0 : Int32)) rfl ?_
            refine Go.fin X35 hlk (v := some (.int (0 : Int32))) (fun h => by rw [Bd.returns] at h; cases h) (by decide) (by decide) ?_ (fun fs hr => retN X35 hx (t := .boolean) Bd.returns (by simp) (hb hby at_94) hr)
            show Q_law Z v0 v1 h0 n0 _ T35.heap _
            rw [e35]
            exact ⟨congrArg (fun z => some (Value.int z)) (by rw [f_law]; rw [if_pos hc5_1, if_neg hc21_2, if_neg hc34_6, if_pos hc70_12, if_neg hc90_13]), N35⟩
        · refine G_ifYes X34 hx (pc' := 77) (hb hby at_70) ((if0 _ _).trans (flt (fun q => hc70_12 ((lw_gt _ _).1 q))).2.2.2) (by decide) (by decide) ?_
          refine G_lconst X34 hx (pc' := 78) rfl (hb hby at_77) (z := (0 : Int64)) rfl ?_
          refine G_lconst X34 hx (pc' := 79) rfl (hb hby at_78) (z := (1 : Int64)) rfl ?_
          refine G_ladd X34 hx (pc' := 80) rfl (hb hby at_79)  ?_
          refine G_lstore X34 hx (pc' := 82) rfl (hb hby at_80) (L' := #[.val (.long v0), .second, .val (.int v1), .val (.long v0), .second, .val (.int (1 : Int32)), .val (.int (1 : Int32)), .val (.ref b32), .val (.long ((0 : Int64) + (1 : Int64))), .second, .unset, .unset, .unset, .unset]) rfl ?_
          refine G_aload X34 hx (pc' := 84) rfl (hb hby at_82) rfl rfl ?_
          obtain ⟨cq40, kq40, q40a, q40b, q40c⟩ := isOf hZ rfl p34_0
          obtain ⟨_, _, ⟨T40, L40, k40, n40⟩, -, X40, ⟨Lc40, hQ40, l40, y40, z40⟩, st40⟩ := X34.virtualBack hx (y := (⟨"com/example/fencing/fencing/protocol/LamportClock", "time", "()J"⟩ : MethodName)) (z := (⟨"com/example/fencing/fencing/protocol/LamportClock", "time", "()J"⟩ : MethodName)) hown (mvT hZ (hw _ (List.mem_of_getElem? (i := 10) rfl))) (mvT hZ (hw _ (List.mem_of_getElem? (i := 11) rfl))) (notFace_of_selects (args := #[]) (mvT hZ (hw _ (List.mem_of_getElem? (i := 13) rfl)))) (mvT hZ (hw _ (List.mem_of_getElem? (i := 13) rfl))) (mvT hZ (hw _ (List.mem_of_getElem? (i := 12) rfl))) (by decide) (backOf (W := 0) (rm_time l Z a0 hw [] b32 ((f_max (0 : Int64) v0) + (1 : Int64)) T34.heap n0 Z_34 p34_1) hZ (hw _ (List.mem_of_getElem? (i := 14) rfl)) (hw _ (List.mem_of_getElem? (i := 3) rfl)) (by decide) (by decide)) q40a q40c (g := (mkF m 84 #[.val (.long v0), .second, .val (.int v1), .val (.long v0), .second, .val (.int (1 : Int32)), .val (.int (1 : Int32)), .val (.ref b32), .val (.long ((0 : Int64) + (1 : Int64))), .second, .unset, .unset, .unset, .unset] [(.ref b32)])) rfl (by rw [hml]; rfl) (Steps.refl _) (argsL := []) (rest := []) (lenOf pd_2 rfl) rfl (by show 2 * 0 + _ ≤ _; exact Nat.le_of_eq rfl) (hb hby at_84) (fun _ _ => ⟨rfl, rfl, (by decide : 1 + 0 ≤ _), (by decide : 1 + 0 ≤ _)⟩)
          dsimp only [Pt.U, Pt.locs, Pt.cells, Pt.slots] at X40 l40 y40 z40 st40 hQ40
          subst l40 y40 z40
          obtain ⟨rfl, N40q, e40⟩ := hQ40
          have N40 := Fr.app N34 N40q
          refine Go.st (fun _ k => st40.trans k) ?_
          show Go p e below s _ _ _ T40 (mkF m 87 #[.val (.long v0), .second, .val (.int v1), .val (.long v0), .second, .val (.int (1 : Int32)), .val (.int (1 : Int32)), .val (.ref b32), .val (.long ((0 : Int64) + (1 : Int64))), .second, .unset, .unset, .unset, .unset] [(.long ((f_max (0 : Int64) v0) + (1 : Int64)))])
          refine G_lload X40 hx (pc' := 89) rfl (hb hby at_87) rfl ?_
          refine G_lcmp X40 hx (pc' := 90) rfl (hb hby at_89)  ?_
          by_cases hc90_17 : ((f_max (0 : Int64) v0) + (1 : Int64)) = ((0 : Int64) + (1 : Int64))
          · refine G_ifYes X40 hx (pc' := 95) (hb hby at_90) ((if0 _ _).trans (teq ((lw_eq _ _).2 hc90_17)).1) (by decide) (by decide) ?_
            refine G_aload X40 hx (pc' := 97) rfl (hb hby at_95) rfl rfl ?_
            obtain ⟨cq41, kq41, q41a, q41b, q41c⟩ := isOf hZ e40 p34_0
            obtain ⟨_, _, ⟨T41, L41, k41, n41⟩, -, X41, ⟨Lc41, hQ41, l41, y41, z41⟩, st41⟩ := X40.virtualBack hx (y := (⟨"com/example/fencing/fencing/protocol/LamportClock", "tick", "()J"⟩ : MethodName)) (z := (⟨"com/example/fencing/fencing/protocol/LamportClock", "tick", "()J"⟩ : MethodName)) hown (mvT hZ (hw _ (List.mem_of_getElem? (i := 17) rfl))) (mvT hZ (hw _ (List.mem_of_getElem? (i := 18) rfl))) (notFace_of_selects (args := #[]) (mvT hZ (hw _ (List.mem_of_getElem? (i := 20) rfl)))) (mvT hZ (hw _ (List.mem_of_getElem? (i := 20) rfl))) (mvT hZ (hw _ (List.mem_of_getElem? (i := 19) rfl))) (by decide) (backOf (W := 0) (rm_tick l Z a0 hw [] b32 ((f_max (0 : Int64) v0) + (1 : Int64)) T34.heap n0 Z_34 p34_0 p34_1 g_b32 (by first | decide | exact own_tk1 (by assumption) | exact own_tk2 (by assumption))) hZ (hw _ (List.mem_of_getElem? (i := 21) rfl)) (hw _ (List.mem_of_getElem? (i := 3) rfl)) (by decide) (by decide)) q41a q41c (g := (mkF m 97 #[.val (.long v0), .second, .val (.int v1), .val (.long v0), .second, .val (.int (1 : Int32)), .val (.int (1 : Int32)), .val (.ref b32), .val (.long ((0 : Int64) + (1 : Int64))), .second, .unset, .unset, .unset, .unset] [(.ref b32)])) rfl (by rw [hml]; rfl) (Steps.refl _) (argsL := []) (rest := []) (lenOf pd_2 rfl) rfl (by show 2 * 0 + _ ≤ _; exact Nat.le_of_eq rfl) (hb hby at_97) (fun _ _ => ⟨rfl, e40, (by decide : 1 + 0 ≤ _), (by decide : 1 + 0 ≤ _)⟩)
            dsimp only [Pt.U, Pt.locs, Pt.cells, Pt.slots] at X41 l41 y41 z41 st41 hQ41
            subst l41 y41 z41
            obtain ⟨rfl, N41q, K41, p41_0, p41_1⟩ := hQ41
            have N41 := Fr.app N40 N41q
            refine Go.st (fun _ k => st41.trans k) ?_
            have K_41 : Keep h0 T41.heap [] := K_34.trans K41 (allS (Or.inr sz_b32) all0)
            have Z_41 : n0 ≤ T41.heap.size := Nat.le_trans Z0 K_41.1
            show Go p e below s _ _ _ T41 (mkF m 100 #[.val (.long v0), .second, .val (.int v1), .val (.long v0), .second, .val (.int (1 : Int32)), .val (.int (1 : Int32)), .val (.ref b32), .val (.long ((0 : Int64) + (1 : Int64))), .second, .unset, .unset, .unset, .unset] [(.long (((f_max (0 : Int64) v0) + (1 : Int64)) + (1 : Int64)))])
            refine G_lstore X41 hx (pc' := 102) rfl (hb hby at_100) (L' := #[.val (.long v0), .second, .val (.int v1), .val (.long v0), .second, .val (.int (1 : Int32)), .val (.int (1 : Int32)), .val (.ref b32), .val (.long ((0 : Int64) + (1 : Int64))), .second, .val (.long (((f_max (0 : Int64) v0) + (1 : Int64)) + (1 : Int64))), .second, .unset, .unset]) rfl ?_
            refine G_lload X41 hx (pc' := 104) rfl (hb hby at_102) rfl ?_
            refine G_lload X41 hx (pc' := 106) rfl (hb hby at_104) rfl ?_
            refine G_lconst X41 hx (pc' := 107) rfl (hb hby at_106) (z := (1 : Int64)) rfl ?_
            refine G_ladd X41 hx (pc' := 108) rfl (hb hby at_107)  ?_
            refine G_lcmp X41 hx (pc' := 109) rfl (hb hby at_108)  ?_
            by_cases hc109_18 : (((f_max (0 : Int64) v0) + (1 : Int64)) + (1 : Int64)) = (((0 : Int64) + (1 : Int64)) + (1 : Int64))
            · refine G_ifNo X41 hx (pc' := 112) rfl (hb hby at_109) ((if0 _ _).trans (teq ((lw_eq _ _).2 hc109_18)).2) ?_
              refine G_aload X41 hx (pc' := 114) rfl (hb hby at_112) rfl rfl ?_
              obtain ⟨cq42, kq42, q42a, q42b, q42c⟩ := isOf hZ rfl p41_0
              obtain ⟨_, _, ⟨T42, L42, k42, n42⟩, -, X42, ⟨Lc42, hQ42, l42, y42, z42⟩, st42⟩ := X41.virtualBack hx (y := (⟨"com/example/fencing/fencing/protocol/LamportClock", "time", "()J"⟩ : MethodName)) (z := (⟨"com/example/fencing/fencing/protocol/LamportClock", "time", "()J"⟩ : MethodName)) hown (mvT hZ (hw _ (List.mem_of_getElem? (i := 10) rfl))) (mvT hZ (hw _ (List.mem_of_getElem? (i := 11) rfl))) (notFace_of_selects (args := #[]) (mvT hZ (hw _ (List.mem_of_getElem? (i := 13) rfl)))) (mvT hZ (hw _ (List.mem_of_getElem? (i := 13) rfl))) (mvT hZ (hw _ (List.mem_of_getElem? (i := 12) rfl))) (by decide) (backOf (W := 0) (rm_time l Z a0 hw [] b32 (((f_max (0 : Int64) v0) + (1 : Int64)) + (1 : Int64)) T41.heap n0 Z_41 p41_1) hZ (hw _ (List.mem_of_getElem? (i := 14) rfl)) (hw _ (List.mem_of_getElem? (i := 3) rfl)) (by decide) (by decide)) q42a q42c (g := (mkF m 114 #[.val (.long v0), .second, .val (.int v1), .val (.long v0), .second, .val (.int (1 : Int32)), .val (.int (1 : Int32)), .val (.ref b32), .val (.long ((0 : Int64) + (1 : Int64))), .second, .val (.long (((f_max (0 : Int64) v0) + (1 : Int64)) + (1 : Int64))), .second, .unset, .unset] [(.ref b32)])) rfl (by rw [hml]; rfl) (Steps.refl _) (argsL := []) (rest := []) (lenOf pd_2 rfl) rfl (by show 2 * 0 + _ ≤ _; exact Nat.le_of_eq rfl) (hb hby at_114) (fun _ _ => ⟨rfl, rfl, (by decide : 1 + 0 ≤ _), (by decide : 1 + 0 ≤ _)⟩)
              dsimp only [Pt.U, Pt.locs, Pt.cells, Pt.slots] at X42 l42 y42 z42 st42 hQ42
              subst l42 y42 z42
              obtain ⟨rfl, N42q, e42⟩ := hQ42
              have N42 := Fr.app N41 N42q
              refine Go.st (fun _ k => st42.trans k) ?_
              show Go p e below s _ _ _ T42 (mkF m 117 #[.val (.long v0), .second, .val (.int v1), .val (.long v0), .second, .val (.int (1 : Int32)), .val (.int (1 : Int32)), .val (.ref b32), .val (.long ((0 : Int64) + (1 : Int64))), .second, .val (.long (((f_max (0 : Int64) v0) + (1 : Int64)) + (1 : Int64))), .second, .unset, .unset] [(.long (((f_max (0 : Int64) v0) + (1 : Int64)) + (1 : Int64)))])
              refine G_lload X42 hx (pc' := 119) rfl (hb hby at_117) rfl ?_
              refine G_lconst X42 hx (pc' := 120) rfl (hb hby at_119) (z := (1 : Int64)) rfl ?_
              refine G_ladd X42 hx (pc' := 121) rfl (hb hby at_120)  ?_
              refine G_lcmp X42 hx (pc' := 122) rfl (hb hby at_121)  ?_
              refine G_ifYes X42 hx (pc' := 127) (hb hby at_122) ((if0 _ _).trans (teq ((lw_eq _ _).2 hc109_18)).1) (by decide) (by decide) ?_
              refine G_iload X42 hx (pc' := 129) rfl (hb hby at_127) rfl ?_
              refine G_ifNo X42 hx (pc' := 132) rfl (hb hby at_129) ((if0 _ _).trans (feq (by decide : ¬ ((1 : Int32) = (0 : Int32)))).1) ?_
              refine G_lload X42 hx (pc' := 134) rfl (hb hby at_132) rfl ?_
              refine G_ldc2 X42 hx (pc' := 137) rfl hown (mvT hZ (hw _ (List.mem_of_getElem? (i := 26) rfl))) (hb hby at_134) ?_
              refine G_lcmp X42 hx (pc' := 138) rfl (hb hby at_137)  ?_
              by_cases hc138_19 : (((f_max (0 : Int64) v0) + (1 : Int64)) + (1 : Int64)) = (9223372036854775807 : Int64)
              · refine G_ifYes X42 hx (pc' := 177) (hb hby at_138) ((if0 _ _).trans (teq ((lw_eq _ _).2 hc138_19)).1) (by decide) (by decide) ?_
                refine G_iconst X42 hx (pc' := 178) rfl (hb hby at_177) (z := (1 : Int32)) rfl ?_
                refine Go.fin X42 hlk (v := some (.int (1 : Int32))) (fun h => by rw [Bd.returns] at h; cases h) (by decide) (by decide) ?_ (fun fs hr => retN X42 hx (t := .boolean) Bd.returns (by simp) (hb hby at_178) hr)
                show Q_law Z v0 v1 h0 n0 _ T42.heap _
                rw [e42]
                exact ⟨congrArg (fun z => some (Value.int z)) (by rw [f_law]; rw [if_pos hc5_1, if_neg hc21_2, if_neg hc34_6, if_neg hc70_12, if_pos hc90_17, if_pos hc109_18, if_pos hc138_19]), N42⟩
              · refine G_ifNo X42 hx (pc' := 141) rfl (hb hby at_138) ((if0 _ _).trans (feq (fun q => hc138_19 ((lw_eq _ _).1 q))).1) ?_
                refine G_aload X42 hx (pc' := 143) rfl (hb hby at_141) rfl rfl ?_
                obtain ⟨cq43, kq43, q43a, q43b, q43c⟩ := isOf hZ e42 p41_0
                obtain ⟨_, _, ⟨T43, L43, k43, n43⟩, -, X43, ⟨Lc43, hQ43, l43, y43, z43⟩, st43⟩ := X42.virtualBack hx (y := (⟨"com/example/fencing/fencing/protocol/LamportClock", "tick", "()J"⟩ : MethodName)) (z := (⟨"com/example/fencing/fencing/protocol/LamportClock", "tick", "()J"⟩ : MethodName)) hown (mvT hZ (hw _ (List.mem_of_getElem? (i := 17) rfl))) (mvT hZ (hw _ (List.mem_of_getElem? (i := 18) rfl))) (notFace_of_selects (args := #[]) (mvT hZ (hw _ (List.mem_of_getElem? (i := 20) rfl)))) (mvT hZ (hw _ (List.mem_of_getElem? (i := 20) rfl))) (mvT hZ (hw _ (List.mem_of_getElem? (i := 19) rfl))) (by decide) (backOf (W := 0) (rm_tick l Z a0 hw [] b32 (((f_max (0 : Int64) v0) + (1 : Int64)) + (1 : Int64)) T41.heap n0 Z_41 p41_0 p41_1 g_b32 (by first | decide | assumption)) hZ (hw _ (List.mem_of_getElem? (i := 21) rfl)) (hw _ (List.mem_of_getElem? (i := 3) rfl)) (by decide) (by decide)) q43a q43c (g := (mkF m 143 #[.val (.long v0), .second, .val (.int v1), .val (.long v0), .second, .val (.int (1 : Int32)), .val (.int (1 : Int32)), .val (.ref b32), .val (.long ((0 : Int64) + (1 : Int64))), .second, .val (.long (((f_max (0 : Int64) v0) + (1 : Int64)) + (1 : Int64))), .second, .unset, .unset] [(.ref b32)])) rfl (by rw [hml]; rfl) (Steps.refl _) (argsL := []) (rest := []) (lenOf pd_2 rfl) rfl (by show 2 * 0 + _ ≤ _; exact Nat.le_of_eq rfl) (hb hby at_143) (fun _ _ => ⟨rfl, e42, (by decide : 1 + 0 ≤ _), (by decide : 1 + 0 ≤ _)⟩)
                dsimp only [Pt.U, Pt.locs, Pt.cells, Pt.slots] at X43 l43 y43 z43 st43 hQ43
                subst l43 y43 z43
                obtain ⟨rfl, N43q, K43, p43_0, p43_1⟩ := hQ43
                have N43 := Fr.app N42 N43q
                refine Go.st (fun _ k => st43.trans k) ?_
                have K_43 : Keep h0 T43.heap [] := K_41.trans K43 (allS (Or.inr sz_b32) all0)
                have Z_43 : n0 ≤ T43.heap.size := Nat.le_trans Z0 K_43.1
                show Go p e below s _ _ _ T43 (mkF m 146 #[.val (.long v0), .second, .val (.int v1), .val (.long v0), .second, .val (.int (1 : Int32)), .val (.int (1 : Int32)), .val (.ref b32), .val (.long ((0 : Int64) + (1 : Int64))), .second, .val (.long (((f_max (0 : Int64) v0) + (1 : Int64)) + (1 : Int64))), .second, .unset, .unset] [(.long ((((f_max (0 : Int64) v0) + (1 : Int64)) + (1 : Int64)) + (1 : Int64)))])
                refine G_lstore X43 hx (pc' := 148) rfl (hb hby at_146) (L' := #[.val (.long v0), .second, .val (.int v1), .val (.long v0), .second, .val (.int (1 : Int32)), .val (.int (1 : Int32)), .val (.ref b32), .val (.long ((0 : Int64) + (1 : Int64))), .second, .val (.long (((f_max (0 : Int64) v0) + (1 : Int64)) + (1 : Int64))), .second, .val (.long ((((f_max (0 : Int64) v0) + (1 : Int64)) + (1 : Int64)) + (1 : Int64))), .second]) rfl ?_
                refine G_lload X43 hx (pc' := 150) rfl (hb hby at_148) rfl ?_
                refine G_lload X43 hx (pc' := 152) rfl (hb hby at_150) rfl ?_
                refine G_ldc2 X43 hx (pc' := 155) rfl hown (mvT hZ (hw _ (List.mem_of_getElem? (i := 27) rfl))) (hb hby at_152) ?_
                refine G_ladd X43 hx (pc' := 156) rfl (hb hby at_155)  ?_
                refine G_lcmp X43 hx (pc' := 157) rfl (hb hby at_156)  ?_
                by_cases hc157_20 : ((((f_max (0 : Int64) v0) + (1 : Int64)) + (1 : Int64)) + (1 : Int64)) = (((0 : Int64) + (1 : Int64)) + (2 : Int64))
                · refine G_ifNo X43 hx (pc' := 160) rfl (hb hby at_157) ((if0 _ _).trans (teq ((lw_eq _ _).2 hc157_20)).2) ?_
                  refine G_aload X43 hx (pc' := 162) rfl (hb hby at_160) rfl rfl ?_
                  obtain ⟨cq44, kq44, q44a, q44b, q44c⟩ := isOf hZ rfl p43_0
                  obtain ⟨_, _, ⟨T44, L44, k44, n44⟩, -, X44, ⟨Lc44, hQ44, l44, y44, z44⟩, st44⟩ := X43.virtualBack hx (y := (⟨"com/example/fencing/fencing/protocol/LamportClock", "time", "()J"⟩ : MethodName)) (z := (⟨"com/example/fencing/fencing/protocol/LamportClock", "time", "()J"⟩ : MethodName)) hown (mvT hZ (hw _ (List.mem_of_getElem? (i := 10) rfl))) (mvT hZ (hw _ (List.mem_of_getElem? (i := 11) rfl))) (notFace_of_selects (args := #[]) (mvT hZ (hw _ (List.mem_of_getElem? (i := 13) rfl)))) (mvT hZ (hw _ (List.mem_of_getElem? (i := 13) rfl))) (mvT hZ (hw _ (List.mem_of_getElem? (i := 12) rfl))) (by decide) (backOf (W := 0) (rm_time l Z a0 hw [] b32 ((((f_max (0 : Int64) v0) + (1 : Int64)) + (1 : Int64)) + (1 : Int64)) T43.heap n0 Z_43 p43_1) hZ (hw _ (List.mem_of_getElem? (i := 14) rfl)) (hw _ (List.mem_of_getElem? (i := 3) rfl)) (by decide) (by decide)) q44a q44c (g := (mkF m 162 #[.val (.long v0), .second, .val (.int v1), .val (.long v0), .second, .val (.int (1 : Int32)), .val (.int (1 : Int32)), .val (.ref b32), .val (.long ((0 : Int64) + (1 : Int64))), .second, .val (.long (((f_max (0 : Int64) v0) + (1 : Int64)) + (1 : Int64))), .second, .val (.long ((((f_max (0 : Int64) v0) + (1 : Int64)) + (1 : Int64)) + (1 : Int64))), .second] [(.ref b32)])) rfl (by rw [hml]; rfl) (Steps.refl _) (argsL := []) (rest := []) (lenOf pd_2 rfl) rfl (by show 2 * 0 + _ ≤ _; exact Nat.le_of_eq rfl) (hb hby at_162) (fun _ _ => ⟨rfl, rfl, (by decide : 1 + 0 ≤ _), (by decide : 1 + 0 ≤ _)⟩)
                  dsimp only [Pt.U, Pt.locs, Pt.cells, Pt.slots] at X44 l44 y44 z44 st44 hQ44
                  subst l44 y44 z44
                  obtain ⟨rfl, N44q, e44⟩ := hQ44
                  have N44 := Fr.app N43 N44q
                  refine Go.st (fun _ k => st44.trans k) ?_
                  show Go p e below s _ _ _ T44 (mkF m 165 #[.val (.long v0), .second, .val (.int v1), .val (.long v0), .second, .val (.int (1 : Int32)), .val (.int (1 : Int32)), .val (.ref b32), .val (.long ((0 : Int64) + (1 : Int64))), .second, .val (.long (((f_max (0 : Int64) v0) + (1 : Int64)) + (1 : Int64))), .second, .val (.long ((((f_max (0 : Int64) v0) + (1 : Int64)) + (1 : Int64)) + (1 : Int64))), .second] [(.long ((((f_max (0 : Int64) v0) + (1 : Int64)) + (1 : Int64)) + (1 : Int64)))])
                  refine G_lload X44 hx (pc' := 167) rfl (hb hby at_165) rfl ?_
                  refine G_ldc2 X44 hx (pc' := 170) rfl hown (mvT hZ (hw _ (List.mem_of_getElem? (i := 27) rfl))) (hb hby at_167) ?_
                  refine G_ladd X44 hx (pc' := 171) rfl (hb hby at_170)  ?_
                  refine G_lcmp X44 hx (pc' := 172) rfl (hb hby at_171)  ?_
                  refine G_ifYes X44 hx (pc' := 177) (hb hby at_172) ((if0 _ _).trans (teq ((lw_eq _ _).2 hc157_20)).1) (by decide) (by decide) ?_
                  refine G_iconst X44 hx (pc' := 178) rfl (hb hby at_177) (z := (1 : Int32)) rfl ?_
                  refine Go.fin X44 hlk (v := some (.int (1 : Int32))) (fun h => by rw [Bd.returns] at h; cases h) (by decide) (by decide) ?_ (fun fs hr => retN X44 hx (t := .boolean) Bd.returns (by simp) (hb hby at_178) hr)
                  show Q_law Z v0 v1 h0 n0 _ T44.heap _
                  rw [e44]
                  exact ⟨congrArg (fun z => some (Value.int z)) (by rw [f_law]; rw [if_pos hc5_1, if_neg hc21_2, if_neg hc34_6, if_neg hc70_12, if_pos hc90_17, if_pos hc109_18, if_neg hc138_19, if_pos hc157_20]), N44⟩
                · refine G_ifYes X43 hx (pc' := 175) (hb hby at_157) ((if0 _ _).trans (feq (fun q => hc157_20 ((lw_eq _ _).1 q))).2) (by decide) (by decide) ?_
                  refine G_iconst X43 hx (pc' := 176) rfl (hb hby at_175) (z := (0 : Int32)) rfl ?_
                  refine Go.fin X43 hlk (v := some (.int (0 : Int32))) (fun h => by rw [Bd.returns] at h; cases h) (by decide) (by decide) ?_ (fun fs hr => retN X43 hx (t := .boolean) Bd.returns (by simp) (hb hby at_176) hr)
                  show Q_law Z v0 v1 h0 n0 _ T43.heap _
                  exact ⟨congrArg (fun z => some (Value.int z)) (by rw [f_law]; rw [if_pos hc5_1, if_neg hc21_2, if_neg hc34_6, if_neg hc70_12, if_pos hc90_17, if_pos hc109_18, if_neg hc138_19, if_neg hc157_20]), N43⟩
            · refine G_ifYes X41 hx (pc' := 125) (hb hby at_109) ((if0 _ _).trans (feq (fun q => hc109_18 ((lw_eq _ _).1 q))).2) (by decide) (by decide) ?_
              refine G_iconst X41 hx (pc' := 126) rfl (hb hby at_125) (z := (0 : Int32)) rfl ?_
              refine Go.fin X41 hlk (v := some (.int (0 : Int32))) (fun h => by rw [Bd.returns] at h; cases h) (by decide) (by decide) ?_ (fun fs hr => retN X41 hx (t := .boolean) Bd.returns (by simp) (hb hby at_126) hr)
              show Q_law Z v0 v1 h0 n0 _ T41.heap _
              exact ⟨congrArg (fun z => some (Value.int z)) (by rw [f_law]; rw [if_pos hc5_1, if_neg hc21_2, if_neg hc34_6, if_neg hc70_12, if_pos hc90_17, if_neg hc109_18]), N41⟩
          · refine G_ifNo X40 hx (pc' := 93) rfl (hb hby at_90) ((if0 _ _).trans (feq (fun q => hc90_17 ((lw_eq _ _).1 q))).1) ?_
            refine G_iconst X40 hx (pc' := 94) rfl (hb hby at_93) (z := (0 : Int32)) rfl ?_
            refine Go.fin X40 hlk (v := some (.int (0 : Int32))) (fun h => by rw [Bd.returns] at h; cases h) (by decide) (by decide) ?_ (fun fs hr => retN X40 hx (t := .boolean) Bd.returns (by simp) (hb hby at_94) hr)
            show Q_law Z v0 v1 h0 n0 _ T40.heap _
            rw [e40]
            exact ⟨congrArg (fun z => some (Value.int z)) (by rw [f_law]; rw [if_pos hc5_1, if_neg hc21_2, if_neg hc34_6, if_neg hc70_12, if_neg hc90_17]), N40⟩
  · refine G_ifNo X0 hx (pc' := 8) rfl (hb hby at_5) ((if0 _ _).trans (flt (fun q => hc5_1 ((lw_lt _ _).1 q))).1) ?_
    refine G_lloadN X0 hx (pc' := 9) rfl (hb hby at_8) rfl ?_
    refine G_ldc2 X0 hx (pc' := 12) rfl hown (mvT hZ (hw _ (List.mem_of_getElem? (i := 27) rfl))) (hb hby at_9) ?_
    refine G_lsub X0 hx (pc' := 13) rfl (hb hby at_12)  ?_
    refine G_goto X0 hx (pc' := 17) (hb hby at_13)  (by decide) (by decide) ?_
    refine G_lstoreN X0 hx (pc' := 18) rfl (hb hby at_17) (L' := #[.val (.long v0), .second, .val (.int v1), .val (.long (v0 - (2 : Int64))), .second, .unset, .unset, .unset, .unset, .unset, .unset, .unset, .unset, .unset]) rfl ?_
    refine G_iloadN X0 hx (pc' := 19) rfl (hb hby at_18) rfl ?_
    refine G_iconst X0 hx (pc' := 20) rfl (hb hby at_19) (z := (1 : Int32)) rfl ?_
    refine G_iand X0 hx (pc' := 21) rfl (hb hby at_20)  ?_
    by_cases hc21_21 : (v1 &&& (1 : Int32)) = (0 : Int32)
    · refine G_ifYes X0 hx (pc' := 28) (hb hby at_21) ((if0 _ _).trans (teq hc21_21).1) (by decide) (by decide) ?_
      refine G_iconst X0 hx (pc' := 29) rfl (hb hby at_28) (z := (0 : Int32)) rfl ?_
      refine G_istore X0 hx (pc' := 31) rfl (hb hby at_29) (L' := #[.val (.long v0), .second, .val (.int v1), .val (.long (v0 - (2 : Int64))), .second, .val (.int (0 : Int32)), .unset, .unset, .unset, .unset, .unset, .unset, .unset, .unset]) rfl ?_
      refine G_iloadN X0 hx (pc' := 32) rfl (hb hby at_31) rfl ?_
      refine G_iconst X0 hx (pc' := 33) rfl (hb hby at_32) (z := (2 : Int32)) rfl ?_
      refine G_iand X0 hx (pc' := 34) rfl (hb hby at_33)  ?_
      by_cases hc34_22 : (v1 &&& (2 : Int32)) = (0 : Int32)
      · refine G_ifYes X0 hx (pc' := 41) (hb hby at_34) ((if0 _ _).trans (teq hc34_22).1) (by decide) (by decide) ?_
        refine G_iconst X0 hx (pc' := 42) rfl (hb hby at_41) (z := (0 : Int32)) rfl ?_
        refine G_istore X0 hx (pc' := 44) rfl (hb hby at_42) (L' := #[.val (.long v0), .second, .val (.int v1), .val (.long (v0 - (2 : Int64))), .second, .val (.int (0 : Int32)), .val (.int (0 : Int32)), .unset, .unset, .unset, .unset, .unset, .unset, .unset]) rfl ?_
        obtain ⟨T45, h45, X45, e45, E45, A45, D45, -, st45⟩ := newO X0 hx hZ hown (hw _ (List.mem_of_getElem? (i := 1) rfl)) (hw _ (List.mem_of_getElem? (i := 2) rfl)) (hw _ (List.mem_of_getElem? (i := 3) rfl)) e0 (g := (mkF m 44 #[.val (.long v0), .second, .val (.int v1), .val (.long (v0 - (2 : Int64))), .second, .val (.int (0 : Int32)), .val (.int (0 : Int32)), .unset, .unset, .unset, .unset, .unset, .unset, .unset] [])) rfl (hb hby at_44) (by decide) (by decide)
        obtain ⟨b45, q45⟩ : ∃ z, z = h0.size := ⟨_, rfl⟩
        rw [← q45] at A45 D45 st45
        refine Go.st st45 ?_
        have g_b45 : n0 ≤ b45 := Nat.le_trans Z0 (Nat.le_of_eq q45.symm)
        have sz_b45 : h0.size ≤ b45 := Nat.le_trans (Nat.le_refl _) (Nat.le_of_eq q45.symm)
        have F_b45_time : Fld Z h45 b45 "com/example/fencing/fencing/protocol/LamportClock" "time" "J" (.long (0 : Int64)) := D45 (Or.inl (hw _ (List.mem_of_getElem? (i := 16) rfl))) (ty := .long) (by decide)
        have K_45 : Keep h0 h45 [] := (Keep.refl h0 []).ext E45
        have Z_45 : n0 ≤ h45.size := Nat.le_trans Z0 K_45.1
        show Go p e below s _ _ _ T45 (mkF m 47 #[.val (.long v0), .second, .val (.int v1), .val (.long (v0 - (2 : Int64))), .second, .val (.int (0 : Int32)), .val (.int (0 : Int32)), .unset, .unset, .unset, .unset, .unset, .unset, .unset] [(.ref b45)])
        refine G_dup X45 hx (pc' := 48) rfl (hb hby at_47) rfl ?_
        obtain ⟨_, _, ⟨T46, L46, k46, n46⟩, -, X46, ⟨Lc46, hQ46, l46, y46, z46⟩, st46⟩ := X45.specialBack hx (y := (⟨"com/example/fencing/fencing/protocol/LamportClock", "<init>", "()V"⟩ : MethodName)) rfl hown (mvT hZ (hw _ (List.mem_of_getElem? (i := 4) rfl))) (mvT hZ (hw _ (List.mem_of_getElem? (i := 5) rfl))) (mvT hZ (hw _ (List.mem_of_getElem? (i := 6) rfl))) (by decide) (backOf (W := 1) (rm_init l Z a0 hw [] b45 h45 n0 Z_45 A45) hZ (hw _ (List.mem_of_getElem? (i := 6) rfl)) (hw _ (List.mem_of_getElem? (i := 3) rfl)) (by decide) (by decide)) (g := (mkF m 48 #[.val (.long v0), .second, .val (.int v1), .val (.long (v0 - (2 : Int64))), .second, .val (.int (0 : Int32)), .val (.int (0 : Int32)), .unset, .unset, .unset, .unset, .unset, .unset, .unset] [(.ref b45), (.ref b45)])) rfl (by rw [hml]; rfl) (Steps.refl _) (a := b45) (argsL := []) (rest := [(.ref b45)]) (lenOf pd_1 rfl) rfl (by show 2 * 0 + _ ≤ _; exact Nat.le_of_eq rfl) (hb hby at_48) (fun _ _ => ⟨rfl, e45, (by decide : 1 + 0 ≤ _), (by decide : 1 + 0 ≤ _)⟩)
        dsimp only [Pt.U, Pt.locs, Pt.cells, Pt.slots] at X46 l46 y46 z46 st46 hQ46
        subst l46 y46 z46
        obtain ⟨rfl, N46q, e46⟩ := hQ46
        have N46 := Fr.app N0 N46q
        refine Go.st (fun _ k => st46.trans k) ?_
        show Go p e below s _ _ _ T46 (mkF m 51 #[.val (.long v0), .second, .val (.int v1), .val (.long (v0 - (2 : Int64))), .second, .val (.int (0 : Int32)), .val (.int (0 : Int32)), .unset, .unset, .unset, .unset, .unset, .unset, .unset] [(.ref b45)])
        refine G_astore X46 hx (pc' := 53) rfl (hb hby at_51) rfl (L' := #[.val (.long v0), .second, .val (.int v1), .val (.long (v0 - (2 : Int64))), .second, .val (.int (0 : Int32)), .val (.int (0 : Int32)), .val (.ref b45), .unset, .unset, .unset, .unset, .unset, .unset]) rfl ?_
        refine G_lconst X46 hx (pc' := 54) rfl (hb hby at_53) (z := (0 : Int64)) rfl ?_
        refine G_lstore X46 hx (pc' := 56) rfl (hb hby at_54) (L' := #[.val (.long v0), .second, .val (.int v1), .val (.long (v0 - (2 : Int64))), .second, .val (.int (0 : Int32)), .val (.int (0 : Int32)), .val (.ref b45), .val (.long (0 : Int64)), .second, .unset, .unset, .unset, .unset]) rfl ?_
        refine G_iload X46 hx (pc' := 58) rfl (hb hby at_56) rfl ?_
        refine G_ifYes X46 hx (pc' := 82) (hb hby at_58) ((if0 _ _).trans (teq (by decide : (0 : Int32) = (0 : Int32))).1) (by decide) (by decide) ?_
        refine G_aload X46 hx (pc' := 84) rfl (hb hby at_82) rfl rfl ?_
        obtain ⟨cq47, kq47, q47a, q47b, q47c⟩ := isOf hZ e46 A45
        obtain ⟨_, _, ⟨T47, L47, k47, n47⟩, -, X47, ⟨Lc47, hQ47, l47, y47, z47⟩, st47⟩ := X46.virtualBack hx (y := (⟨"com/example/fencing/fencing/protocol/LamportClock", "time", "()J"⟩ : MethodName)) (z := (⟨"com/example/fencing/fencing/protocol/LamportClock", "time", "()J"⟩ : MethodName)) hown (mvT hZ (hw _ (List.mem_of_getElem? (i := 10) rfl))) (mvT hZ (hw _ (List.mem_of_getElem? (i := 11) rfl))) (notFace_of_selects (args := #[]) (mvT hZ (hw _ (List.mem_of_getElem? (i := 13) rfl)))) (mvT hZ (hw _ (List.mem_of_getElem? (i := 13) rfl))) (mvT hZ (hw _ (List.mem_of_getElem? (i := 12) rfl))) (by decide) (backOf (W := 0) (rm_time l Z a0 hw [] b45 (0 : Int64) h45 n0 Z_45 F_b45_time) hZ (hw _ (List.mem_of_getElem? (i := 14) rfl)) (hw _ (List.mem_of_getElem? (i := 3) rfl)) (by decide) (by decide)) q47a q47c (g := (mkF m 84 #[.val (.long v0), .second, .val (.int v1), .val (.long (v0 - (2 : Int64))), .second, .val (.int (0 : Int32)), .val (.int (0 : Int32)), .val (.ref b45), .val (.long (0 : Int64)), .second, .unset, .unset, .unset, .unset] [(.ref b45)])) rfl (by rw [hml]; rfl) (Steps.refl _) (argsL := []) (rest := []) (lenOf pd_2 rfl) rfl (by show 2 * 0 + _ ≤ _; exact Nat.le_of_eq rfl) (hb hby at_84) (fun _ _ => ⟨rfl, e46, (by decide : 1 + 0 ≤ _), (by decide : 1 + 0 ≤ _)⟩)
        dsimp only [Pt.U, Pt.locs, Pt.cells, Pt.slots] at X47 l47 y47 z47 st47 hQ47
        subst l47 y47 z47
        obtain ⟨rfl, N47q, e47⟩ := hQ47
        have N47 := Fr.app N46 N47q
        refine Go.st (fun _ k => st47.trans k) ?_
        show Go p e below s _ _ _ T47 (mkF m 87 #[.val (.long v0), .second, .val (.int v1), .val (.long (v0 - (2 : Int64))), .second, .val (.int (0 : Int32)), .val (.int (0 : Int32)), .val (.ref b45), .val (.long (0 : Int64)), .second, .unset, .unset, .unset, .unset] [(.long (0 : Int64))])
        refine G_lload X47 hx (pc' := 89) rfl (hb hby at_87) rfl ?_
        refine G_lcmp X47 hx (pc' := 90) rfl (hb hby at_89)  ?_
        refine G_ifYes X47 hx (pc' := 95) (hb hby at_90) ((if0 _ _).trans (teq ((lw_eq _ _).2 (by decide : (0 : Int64) = (0 : Int64)))).1) (by decide) (by decide) ?_
        refine G_aload X47 hx (pc' := 97) rfl (hb hby at_95) rfl rfl ?_
        obtain ⟨cq48, kq48, q48a, q48b, q48c⟩ := isOf hZ e47 A45
        obtain ⟨_, _, ⟨T48, L48, k48, n48⟩, -, X48, ⟨Lc48, hQ48, l48, y48, z48⟩, st48⟩ := X47.virtualBack hx (y := (⟨"com/example/fencing/fencing/protocol/LamportClock", "tick", "()J"⟩ : MethodName)) (z := (⟨"com/example/fencing/fencing/protocol/LamportClock", "tick", "()J"⟩ : MethodName)) hown (mvT hZ (hw _ (List.mem_of_getElem? (i := 17) rfl))) (mvT hZ (hw _ (List.mem_of_getElem? (i := 18) rfl))) (notFace_of_selects (args := #[]) (mvT hZ (hw _ (List.mem_of_getElem? (i := 20) rfl)))) (mvT hZ (hw _ (List.mem_of_getElem? (i := 20) rfl))) (mvT hZ (hw _ (List.mem_of_getElem? (i := 19) rfl))) (by decide) (backOf (W := 0) (rm_tick l Z a0 hw [] b45 (0 : Int64) h45 n0 Z_45 A45 F_b45_time g_b45 (by first | decide | exact own_tk1 (by assumption) | exact own_tk2 (by assumption))) hZ (hw _ (List.mem_of_getElem? (i := 21) rfl)) (hw _ (List.mem_of_getElem? (i := 3) rfl)) (by decide) (by decide)) q48a q48c (g := (mkF m 97 #[.val (.long v0), .second, .val (.int v1), .val (.long (v0 - (2 : Int64))), .second, .val (.int (0 : Int32)), .val (.int (0 : Int32)), .val (.ref b45), .val (.long (0 : Int64)), .second, .unset, .unset, .unset, .unset] [(.ref b45)])) rfl (by rw [hml]; rfl) (Steps.refl _) (argsL := []) (rest := []) (lenOf pd_2 rfl) rfl (by show 2 * 0 + _ ≤ _; exact Nat.le_of_eq rfl) (hb hby at_97) (fun _ _ => ⟨rfl, e47, (by decide : 1 + 0 ≤ _), (by decide : 1 + 0 ≤ _)⟩)
        dsimp only [Pt.U, Pt.locs, Pt.cells, Pt.slots] at X48 l48 y48 z48 st48 hQ48
        subst l48 y48 z48
        obtain ⟨rfl, N48q, K48, p48_0, p48_1⟩ := hQ48
        have N48 := Fr.app N47 N48q
        refine Go.st (fun _ k => st48.trans k) ?_
        have K_48 : Keep h0 T48.heap [] := K_45.trans K48 (allS (Or.inr sz_b45) all0)
        have Z_48 : n0 ≤ T48.heap.size := Nat.le_trans Z0 K_48.1
        show Go p e below s _ _ _ T48 (mkF m 100 #[.val (.long v0), .second, .val (.int v1), .val (.long (v0 - (2 : Int64))), .second, .val (.int (0 : Int32)), .val (.int (0 : Int32)), .val (.ref b45), .val (.long (0 : Int64)), .second, .unset, .unset, .unset, .unset] [(.long ((0 : Int64) + (1 : Int64)))])
        refine G_lstore X48 hx (pc' := 102) rfl (hb hby at_100) (L' := #[.val (.long v0), .second, .val (.int v1), .val (.long (v0 - (2 : Int64))), .second, .val (.int (0 : Int32)), .val (.int (0 : Int32)), .val (.ref b45), .val (.long (0 : Int64)), .second, .val (.long ((0 : Int64) + (1 : Int64))), .second, .unset, .unset]) rfl ?_
        refine G_lload X48 hx (pc' := 104) rfl (hb hby at_102) rfl ?_
        refine G_lload X48 hx (pc' := 106) rfl (hb hby at_104) rfl ?_
        refine G_lconst X48 hx (pc' := 107) rfl (hb hby at_106) (z := (1 : Int64)) rfl ?_
        refine G_ladd X48 hx (pc' := 108) rfl (hb hby at_107)  ?_
        refine G_lcmp X48 hx (pc' := 109) rfl (hb hby at_108)  ?_
        refine G_ifNo X48 hx (pc' := 112) rfl (hb hby at_109) ((if0 _ _).trans (teq ((lw_eq _ _).2 (rfl : ((0 : Int64) + (1 : Int64)) = ((0 : Int64) + (1 : Int64))))).2) ?_
        refine G_aload X48 hx (pc' := 114) rfl (hb hby at_112) rfl rfl ?_
        obtain ⟨cq49, kq49, q49a, q49b, q49c⟩ := isOf hZ rfl p48_0
        obtain ⟨_, _, ⟨T49, L49, k49, n49⟩, -, X49, ⟨Lc49, hQ49, l49, y49, z49⟩, st49⟩ := X48.virtualBack hx (y := (⟨"com/example/fencing/fencing/protocol/LamportClock", "time", "()J"⟩ : MethodName)) (z := (⟨"com/example/fencing/fencing/protocol/LamportClock", "time", "()J"⟩ : MethodName)) hown (mvT hZ (hw _ (List.mem_of_getElem? (i := 10) rfl))) (mvT hZ (hw _ (List.mem_of_getElem? (i := 11) rfl))) (notFace_of_selects (args := #[]) (mvT hZ (hw _ (List.mem_of_getElem? (i := 13) rfl)))) (mvT hZ (hw _ (List.mem_of_getElem? (i := 13) rfl))) (mvT hZ (hw _ (List.mem_of_getElem? (i := 12) rfl))) (by decide) (backOf (W := 0) (rm_time l Z a0 hw [] b45 ((0 : Int64) + (1 : Int64)) T48.heap n0 Z_48 p48_1) hZ (hw _ (List.mem_of_getElem? (i := 14) rfl)) (hw _ (List.mem_of_getElem? (i := 3) rfl)) (by decide) (by decide)) q49a q49c (g := (mkF m 114 #[.val (.long v0), .second, .val (.int v1), .val (.long (v0 - (2 : Int64))), .second, .val (.int (0 : Int32)), .val (.int (0 : Int32)), .val (.ref b45), .val (.long (0 : Int64)), .second, .val (.long ((0 : Int64) + (1 : Int64))), .second, .unset, .unset] [(.ref b45)])) rfl (by rw [hml]; rfl) (Steps.refl _) (argsL := []) (rest := []) (lenOf pd_2 rfl) rfl (by show 2 * 0 + _ ≤ _; exact Nat.le_of_eq rfl) (hb hby at_114) (fun _ _ => ⟨rfl, rfl, (by decide : 1 + 0 ≤ _), (by decide : 1 + 0 ≤ _)⟩)
        dsimp only [Pt.U, Pt.locs, Pt.cells, Pt.slots] at X49 l49 y49 z49 st49 hQ49
        subst l49 y49 z49
        obtain ⟨rfl, N49q, e49⟩ := hQ49
        have N49 := Fr.app N48 N49q
        refine Go.st (fun _ k => st49.trans k) ?_
        show Go p e below s _ _ _ T49 (mkF m 117 #[.val (.long v0), .second, .val (.int v1), .val (.long (v0 - (2 : Int64))), .second, .val (.int (0 : Int32)), .val (.int (0 : Int32)), .val (.ref b45), .val (.long (0 : Int64)), .second, .val (.long ((0 : Int64) + (1 : Int64))), .second, .unset, .unset] [(.long ((0 : Int64) + (1 : Int64)))])
        refine G_lload X49 hx (pc' := 119) rfl (hb hby at_117) rfl ?_
        refine G_lconst X49 hx (pc' := 120) rfl (hb hby at_119) (z := (1 : Int64)) rfl ?_
        refine G_ladd X49 hx (pc' := 121) rfl (hb hby at_120)  ?_
        refine G_lcmp X49 hx (pc' := 122) rfl (hb hby at_121)  ?_
        refine G_ifYes X49 hx (pc' := 127) (hb hby at_122) ((if0 _ _).trans (teq ((lw_eq _ _).2 (rfl : ((0 : Int64) + (1 : Int64)) = ((0 : Int64) + (1 : Int64))))).1) (by decide) (by decide) ?_
        refine G_iload X49 hx (pc' := 129) rfl (hb hby at_127) rfl ?_
        refine G_ifYes X49 hx (pc' := 177) (hb hby at_129) ((if0 _ _).trans (teq (by decide : (0 : Int32) = (0 : Int32))).1) (by decide) (by decide) ?_
        refine G_iconst X49 hx (pc' := 178) rfl (hb hby at_177) (z := (1 : Int32)) rfl ?_
        refine Go.fin X49 hlk (v := some (.int (1 : Int32))) (fun h => by rw [Bd.returns] at h; cases h) (by decide) (by decide) ?_ (fun fs hr => retN X49 hx (t := .boolean) Bd.returns (by simp) (hb hby at_178) hr)
        show Q_law Z v0 v1 h0 n0 _ T49.heap _
        rw [e49]
        exact ⟨congrArg (fun z => some (Value.int z)) (by rw [f_law]; rw [if_neg hc5_1, if_pos hc21_21, if_pos hc34_22]), N49⟩
      · refine G_ifNo X0 hx (pc' := 37) rfl (hb hby at_34) ((if0 _ _).trans (feq hc34_22).1) ?_
        refine G_iconst X0 hx (pc' := 38) rfl (hb hby at_37) (z := (1 : Int32)) rfl ?_
        refine G_goto X0 hx (pc' := 42) (hb hby at_38)  (by decide) (by decide) ?_
        refine G_istore X0 hx (pc' := 44) rfl (hb hby at_42) (L' := #[.val (.long v0), .second, .val (.int v1), .val (.long (v0 - (2 : Int64))), .second, .val (.int (0 : Int32)), .val (.int (1 : Int32)), .unset, .unset, .unset, .unset, .unset, .unset, .unset]) rfl ?_
        obtain ⟨T50, h50, X50, e50, E50, A50, D50, -, st50⟩ := newO X0 hx hZ hown (hw _ (List.mem_of_getElem? (i := 1) rfl)) (hw _ (List.mem_of_getElem? (i := 2) rfl)) (hw _ (List.mem_of_getElem? (i := 3) rfl)) e0 (g := (mkF m 44 #[.val (.long v0), .second, .val (.int v1), .val (.long (v0 - (2 : Int64))), .second, .val (.int (0 : Int32)), .val (.int (1 : Int32)), .unset, .unset, .unset, .unset, .unset, .unset, .unset] [])) rfl (hb hby at_44) (by decide) (by decide)
        obtain ⟨b50, q50⟩ : ∃ z, z = h0.size := ⟨_, rfl⟩
        rw [← q50] at A50 D50 st50
        refine Go.st st50 ?_
        have g_b50 : n0 ≤ b50 := Nat.le_trans Z0 (Nat.le_of_eq q50.symm)
        have sz_b50 : h0.size ≤ b50 := Nat.le_trans (Nat.le_refl _) (Nat.le_of_eq q50.symm)
        have F_b50_time : Fld Z h50 b50 "com/example/fencing/fencing/protocol/LamportClock" "time" "J" (.long (0 : Int64)) := D50 (Or.inl (hw _ (List.mem_of_getElem? (i := 16) rfl))) (ty := .long) (by decide)
        have K_50 : Keep h0 h50 [] := (Keep.refl h0 []).ext E50
        have Z_50 : n0 ≤ h50.size := Nat.le_trans Z0 K_50.1
        show Go p e below s _ _ _ T50 (mkF m 47 #[.val (.long v0), .second, .val (.int v1), .val (.long (v0 - (2 : Int64))), .second, .val (.int (0 : Int32)), .val (.int (1 : Int32)), .unset, .unset, .unset, .unset, .unset, .unset, .unset] [(.ref b50)])
        refine G_dup X50 hx (pc' := 48) rfl (hb hby at_47) rfl ?_
        obtain ⟨_, _, ⟨T51, L51, k51, n51⟩, -, X51, ⟨Lc51, hQ51, l51, y51, z51⟩, st51⟩ := X50.specialBack hx (y := (⟨"com/example/fencing/fencing/protocol/LamportClock", "<init>", "()V"⟩ : MethodName)) rfl hown (mvT hZ (hw _ (List.mem_of_getElem? (i := 4) rfl))) (mvT hZ (hw _ (List.mem_of_getElem? (i := 5) rfl))) (mvT hZ (hw _ (List.mem_of_getElem? (i := 6) rfl))) (by decide) (backOf (W := 1) (rm_init l Z a0 hw [] b50 h50 n0 Z_50 A50) hZ (hw _ (List.mem_of_getElem? (i := 6) rfl)) (hw _ (List.mem_of_getElem? (i := 3) rfl)) (by decide) (by decide)) (g := (mkF m 48 #[.val (.long v0), .second, .val (.int v1), .val (.long (v0 - (2 : Int64))), .second, .val (.int (0 : Int32)), .val (.int (1 : Int32)), .unset, .unset, .unset, .unset, .unset, .unset, .unset] [(.ref b50), (.ref b50)])) rfl (by rw [hml]; rfl) (Steps.refl _) (a := b50) (argsL := []) (rest := [(.ref b50)]) (lenOf pd_1 rfl) rfl (by show 2 * 0 + _ ≤ _; exact Nat.le_of_eq rfl) (hb hby at_48) (fun _ _ => ⟨rfl, e50, (by decide : 1 + 0 ≤ _), (by decide : 1 + 0 ≤ _)⟩)
        dsimp only [Pt.U, Pt.locs, Pt.cells, Pt.slots] at X51 l51 y51 z51 st51 hQ51
        subst l51 y51 z51
        obtain ⟨rfl, N51q, e51⟩ := hQ51
        have N51 := Fr.app N0 N51q
        refine Go.st (fun _ k => st51.trans k) ?_
        show Go p e below s _ _ _ T51 (mkF m 51 #[.val (.long v0), .second, .val (.int v1), .val (.long (v0 - (2 : Int64))), .second, .val (.int (0 : Int32)), .val (.int (1 : Int32)), .unset, .unset, .unset, .unset, .unset, .unset, .unset] [(.ref b50)])
        refine G_astore X51 hx (pc' := 53) rfl (hb hby at_51) rfl (L' := #[.val (.long v0), .second, .val (.int v1), .val (.long (v0 - (2 : Int64))), .second, .val (.int (0 : Int32)), .val (.int (1 : Int32)), .val (.ref b50), .unset, .unset, .unset, .unset, .unset, .unset]) rfl ?_
        refine G_lconst X51 hx (pc' := 54) rfl (hb hby at_53) (z := (0 : Int64)) rfl ?_
        refine G_lstore X51 hx (pc' := 56) rfl (hb hby at_54) (L' := #[.val (.long v0), .second, .val (.int v1), .val (.long (v0 - (2 : Int64))), .second, .val (.int (0 : Int32)), .val (.int (1 : Int32)), .val (.ref b50), .val (.long (0 : Int64)), .second, .unset, .unset, .unset, .unset]) rfl ?_
        refine G_iload X51 hx (pc' := 58) rfl (hb hby at_56) rfl ?_
        refine G_ifYes X51 hx (pc' := 82) (hb hby at_58) ((if0 _ _).trans (teq (by decide : (0 : Int32) = (0 : Int32))).1) (by decide) (by decide) ?_
        refine G_aload X51 hx (pc' := 84) rfl (hb hby at_82) rfl rfl ?_
        obtain ⟨cq52, kq52, q52a, q52b, q52c⟩ := isOf hZ e51 A50
        obtain ⟨_, _, ⟨T52, L52, k52, n52⟩, -, X52, ⟨Lc52, hQ52, l52, y52, z52⟩, st52⟩ := X51.virtualBack hx (y := (⟨"com/example/fencing/fencing/protocol/LamportClock", "time", "()J"⟩ : MethodName)) (z := (⟨"com/example/fencing/fencing/protocol/LamportClock", "time", "()J"⟩ : MethodName)) hown (mvT hZ (hw _ (List.mem_of_getElem? (i := 10) rfl))) (mvT hZ (hw _ (List.mem_of_getElem? (i := 11) rfl))) (notFace_of_selects (args := #[]) (mvT hZ (hw _ (List.mem_of_getElem? (i := 13) rfl)))) (mvT hZ (hw _ (List.mem_of_getElem? (i := 13) rfl))) (mvT hZ (hw _ (List.mem_of_getElem? (i := 12) rfl))) (by decide) (backOf (W := 0) (rm_time l Z a0 hw [] b50 (0 : Int64) h50 n0 Z_50 F_b50_time) hZ (hw _ (List.mem_of_getElem? (i := 14) rfl)) (hw _ (List.mem_of_getElem? (i := 3) rfl)) (by decide) (by decide)) q52a q52c (g := (mkF m 84 #[.val (.long v0), .second, .val (.int v1), .val (.long (v0 - (2 : Int64))), .second, .val (.int (0 : Int32)), .val (.int (1 : Int32)), .val (.ref b50), .val (.long (0 : Int64)), .second, .unset, .unset, .unset, .unset] [(.ref b50)])) rfl (by rw [hml]; rfl) (Steps.refl _) (argsL := []) (rest := []) (lenOf pd_2 rfl) rfl (by show 2 * 0 + _ ≤ _; exact Nat.le_of_eq rfl) (hb hby at_84) (fun _ _ => ⟨rfl, e51, (by decide : 1 + 0 ≤ _), (by decide : 1 + 0 ≤ _)⟩)
        dsimp only [Pt.U, Pt.locs, Pt.cells, Pt.slots] at X52 l52 y52 z52 st52 hQ52
        subst l52 y52 z52
        obtain ⟨rfl, N52q, e52⟩ := hQ52
        have N52 := Fr.app N51 N52q
        refine Go.st (fun _ k => st52.trans k) ?_
        show Go p e below s _ _ _ T52 (mkF m 87 #[.val (.long v0), .second, .val (.int v1), .val (.long (v0 - (2 : Int64))), .second, .val (.int (0 : Int32)), .val (.int (1 : Int32)), .val (.ref b50), .val (.long (0 : Int64)), .second, .unset, .unset, .unset, .unset] [(.long (0 : Int64))])
        refine G_lload X52 hx (pc' := 89) rfl (hb hby at_87) rfl ?_
        refine G_lcmp X52 hx (pc' := 90) rfl (hb hby at_89)  ?_
        refine G_ifYes X52 hx (pc' := 95) (hb hby at_90) ((if0 _ _).trans (teq ((lw_eq _ _).2 (by decide : (0 : Int64) = (0 : Int64)))).1) (by decide) (by decide) ?_
        refine G_aload X52 hx (pc' := 97) rfl (hb hby at_95) rfl rfl ?_
        obtain ⟨cq53, kq53, q53a, q53b, q53c⟩ := isOf hZ e52 A50
        obtain ⟨_, _, ⟨T53, L53, k53, n53⟩, -, X53, ⟨Lc53, hQ53, l53, y53, z53⟩, st53⟩ := X52.virtualBack hx (y := (⟨"com/example/fencing/fencing/protocol/LamportClock", "tick", "()J"⟩ : MethodName)) (z := (⟨"com/example/fencing/fencing/protocol/LamportClock", "tick", "()J"⟩ : MethodName)) hown (mvT hZ (hw _ (List.mem_of_getElem? (i := 17) rfl))) (mvT hZ (hw _ (List.mem_of_getElem? (i := 18) rfl))) (notFace_of_selects (args := #[]) (mvT hZ (hw _ (List.mem_of_getElem? (i := 20) rfl)))) (mvT hZ (hw _ (List.mem_of_getElem? (i := 20) rfl))) (mvT hZ (hw _ (List.mem_of_getElem? (i := 19) rfl))) (by decide) (backOf (W := 0) (rm_tick l Z a0 hw [] b50 (0 : Int64) h50 n0 Z_50 A50 F_b50_time g_b50 (by first | decide | exact own_tk1 (by assumption) | exact own_tk2 (by assumption))) hZ (hw _ (List.mem_of_getElem? (i := 21) rfl)) (hw _ (List.mem_of_getElem? (i := 3) rfl)) (by decide) (by decide)) q53a q53c (g := (mkF m 97 #[.val (.long v0), .second, .val (.int v1), .val (.long (v0 - (2 : Int64))), .second, .val (.int (0 : Int32)), .val (.int (1 : Int32)), .val (.ref b50), .val (.long (0 : Int64)), .second, .unset, .unset, .unset, .unset] [(.ref b50)])) rfl (by rw [hml]; rfl) (Steps.refl _) (argsL := []) (rest := []) (lenOf pd_2 rfl) rfl (by show 2 * 0 + _ ≤ _; exact Nat.le_of_eq rfl) (hb hby at_97) (fun _ _ => ⟨rfl, e52, (by decide : 1 + 0 ≤ _), (by decide : 1 + 0 ≤ _)⟩)
        dsimp only [Pt.U, Pt.locs, Pt.cells, Pt.slots] at X53 l53 y53 z53 st53 hQ53
        subst l53 y53 z53
        obtain ⟨rfl, N53q, K53, p53_0, p53_1⟩ := hQ53
        have N53 := Fr.app N52 N53q
        refine Go.st (fun _ k => st53.trans k) ?_
        have K_53 : Keep h0 T53.heap [] := K_50.trans K53 (allS (Or.inr sz_b50) all0)
        have Z_53 : n0 ≤ T53.heap.size := Nat.le_trans Z0 K_53.1
        show Go p e below s _ _ _ T53 (mkF m 100 #[.val (.long v0), .second, .val (.int v1), .val (.long (v0 - (2 : Int64))), .second, .val (.int (0 : Int32)), .val (.int (1 : Int32)), .val (.ref b50), .val (.long (0 : Int64)), .second, .unset, .unset, .unset, .unset] [(.long ((0 : Int64) + (1 : Int64)))])
        refine G_lstore X53 hx (pc' := 102) rfl (hb hby at_100) (L' := #[.val (.long v0), .second, .val (.int v1), .val (.long (v0 - (2 : Int64))), .second, .val (.int (0 : Int32)), .val (.int (1 : Int32)), .val (.ref b50), .val (.long (0 : Int64)), .second, .val (.long ((0 : Int64) + (1 : Int64))), .second, .unset, .unset]) rfl ?_
        refine G_lload X53 hx (pc' := 104) rfl (hb hby at_102) rfl ?_
        refine G_lload X53 hx (pc' := 106) rfl (hb hby at_104) rfl ?_
        refine G_lconst X53 hx (pc' := 107) rfl (hb hby at_106) (z := (1 : Int64)) rfl ?_
        refine G_ladd X53 hx (pc' := 108) rfl (hb hby at_107)  ?_
        refine G_lcmp X53 hx (pc' := 109) rfl (hb hby at_108)  ?_
        refine G_ifNo X53 hx (pc' := 112) rfl (hb hby at_109) ((if0 _ _).trans (teq ((lw_eq _ _).2 (rfl : ((0 : Int64) + (1 : Int64)) = ((0 : Int64) + (1 : Int64))))).2) ?_
        refine G_aload X53 hx (pc' := 114) rfl (hb hby at_112) rfl rfl ?_
        obtain ⟨cq54, kq54, q54a, q54b, q54c⟩ := isOf hZ rfl p53_0
        obtain ⟨_, _, ⟨T54, L54, k54, n54⟩, -, X54, ⟨Lc54, hQ54, l54, y54, z54⟩, st54⟩ := X53.virtualBack hx (y := (⟨"com/example/fencing/fencing/protocol/LamportClock", "time", "()J"⟩ : MethodName)) (z := (⟨"com/example/fencing/fencing/protocol/LamportClock", "time", "()J"⟩ : MethodName)) hown (mvT hZ (hw _ (List.mem_of_getElem? (i := 10) rfl))) (mvT hZ (hw _ (List.mem_of_getElem? (i := 11) rfl))) (notFace_of_selects (args := #[]) (mvT hZ (hw _ (List.mem_of_getElem? (i := 13) rfl)))) (mvT hZ (hw _ (List.mem_of_getElem? (i := 13) rfl))) (mvT hZ (hw _ (List.mem_of_getElem? (i := 12) rfl))) (by decide) (backOf (W := 0) (rm_time l Z a0 hw [] b50 ((0 : Int64) + (1 : Int64)) T53.heap n0 Z_53 p53_1) hZ (hw _ (List.mem_of_getElem? (i := 14) rfl)) (hw _ (List.mem_of_getElem? (i := 3) rfl)) (by decide) (by decide)) q54a q54c (g := (mkF m 114 #[.val (.long v0), .second, .val (.int v1), .val (.long (v0 - (2 : Int64))), .second, .val (.int (0 : Int32)), .val (.int (1 : Int32)), .val (.ref b50), .val (.long (0 : Int64)), .second, .val (.long ((0 : Int64) + (1 : Int64))), .second, .unset, .unset] [(.ref b50)])) rfl (by rw [hml]; rfl) (Steps.refl _) (argsL := []) (rest := []) (lenOf pd_2 rfl) rfl (by show 2 * 0 + _ ≤ _; exact Nat.le_of_eq rfl) (hb hby at_114) (fun _ _ => ⟨rfl, rfl, (by decide : 1 + 0 ≤ _), (by decide : 1 + 0 ≤ _)⟩)
        dsimp only [Pt.U, Pt.locs, Pt.cells, Pt.slots] at X54 l54 y54 z54 st54 hQ54
        subst l54 y54 z54
        obtain ⟨rfl, N54q, e54⟩ := hQ54
        have N54 := Fr.app N53 N54q
        refine Go.st (fun _ k => st54.trans k) ?_
        show Go p e below s _ _ _ T54 (mkF m 117 #[.val (.long v0), .second, .val (.int v1), .val (.long (v0 - (2 : Int64))), .second, .val (.int (0 : Int32)), .val (.int (1 : Int32)), .val (.ref b50), .val (.long (0 : Int64)), .second, .val (.long ((0 : Int64) + (1 : Int64))), .second, .unset, .unset] [(.long ((0 : Int64) + (1 : Int64)))])
        refine G_lload X54 hx (pc' := 119) rfl (hb hby at_117) rfl ?_
        refine G_lconst X54 hx (pc' := 120) rfl (hb hby at_119) (z := (1 : Int64)) rfl ?_
        refine G_ladd X54 hx (pc' := 121) rfl (hb hby at_120)  ?_
        refine G_lcmp X54 hx (pc' := 122) rfl (hb hby at_121)  ?_
        refine G_ifYes X54 hx (pc' := 127) (hb hby at_122) ((if0 _ _).trans (teq ((lw_eq _ _).2 (rfl : ((0 : Int64) + (1 : Int64)) = ((0 : Int64) + (1 : Int64))))).1) (by decide) (by decide) ?_
        refine G_iload X54 hx (pc' := 129) rfl (hb hby at_127) rfl ?_
        refine G_ifNo X54 hx (pc' := 132) rfl (hb hby at_129) ((if0 _ _).trans (feq (by decide : ¬ ((1 : Int32) = (0 : Int32)))).1) ?_
        refine G_lload X54 hx (pc' := 134) rfl (hb hby at_132) rfl ?_
        refine G_ldc2 X54 hx (pc' := 137) rfl hown (mvT hZ (hw _ (List.mem_of_getElem? (i := 26) rfl))) (hb hby at_134) ?_
        refine G_lcmp X54 hx (pc' := 138) rfl (hb hby at_137)  ?_
        by_cases hc138_23 : ((0 : Int64) + (1 : Int64)) = (9223372036854775807 : Int64)
        · refine G_ifYes X54 hx (pc' := 177) (hb hby at_138) ((if0 _ _).trans (teq ((lw_eq _ _).2 hc138_23)).1) (by decide) (by decide) ?_
          refine G_iconst X54 hx (pc' := 178) rfl (hb hby at_177) (z := (1 : Int32)) rfl ?_
          refine Go.fin X54 hlk (v := some (.int (1 : Int32))) (fun h => by rw [Bd.returns] at h; cases h) (by decide) (by decide) ?_ (fun fs hr => retN X54 hx (t := .boolean) Bd.returns (by simp) (hb hby at_178) hr)
          show Q_law Z v0 v1 h0 n0 _ T54.heap _
          rw [e54]
          exact ⟨congrArg (fun z => some (Value.int z)) (by rw [f_law]; rw [if_neg hc5_1, if_pos hc21_21, if_neg hc34_22, if_pos hc138_23]), N54⟩
        · refine G_ifNo X54 hx (pc' := 141) rfl (hb hby at_138) ((if0 _ _).trans (feq (fun q => hc138_23 ((lw_eq _ _).1 q))).1) ?_
          refine G_aload X54 hx (pc' := 143) rfl (hb hby at_141) rfl rfl ?_
          obtain ⟨cq55, kq55, q55a, q55b, q55c⟩ := isOf hZ e54 p53_0
          obtain ⟨_, _, ⟨T55, L55, k55, n55⟩, -, X55, ⟨Lc55, hQ55, l55, y55, z55⟩, st55⟩ := X54.virtualBack hx (y := (⟨"com/example/fencing/fencing/protocol/LamportClock", "tick", "()J"⟩ : MethodName)) (z := (⟨"com/example/fencing/fencing/protocol/LamportClock", "tick", "()J"⟩ : MethodName)) hown (mvT hZ (hw _ (List.mem_of_getElem? (i := 17) rfl))) (mvT hZ (hw _ (List.mem_of_getElem? (i := 18) rfl))) (notFace_of_selects (args := #[]) (mvT hZ (hw _ (List.mem_of_getElem? (i := 20) rfl)))) (mvT hZ (hw _ (List.mem_of_getElem? (i := 20) rfl))) (mvT hZ (hw _ (List.mem_of_getElem? (i := 19) rfl))) (by decide) (backOf (W := 0) (rm_tick l Z a0 hw [] b50 ((0 : Int64) + (1 : Int64)) T53.heap n0 Z_53 p53_0 p53_1 g_b50 (by first | decide | assumption)) hZ (hw _ (List.mem_of_getElem? (i := 21) rfl)) (hw _ (List.mem_of_getElem? (i := 3) rfl)) (by decide) (by decide)) q55a q55c (g := (mkF m 143 #[.val (.long v0), .second, .val (.int v1), .val (.long (v0 - (2 : Int64))), .second, .val (.int (0 : Int32)), .val (.int (1 : Int32)), .val (.ref b50), .val (.long (0 : Int64)), .second, .val (.long ((0 : Int64) + (1 : Int64))), .second, .unset, .unset] [(.ref b50)])) rfl (by rw [hml]; rfl) (Steps.refl _) (argsL := []) (rest := []) (lenOf pd_2 rfl) rfl (by show 2 * 0 + _ ≤ _; exact Nat.le_of_eq rfl) (hb hby at_143) (fun _ _ => ⟨rfl, e54, (by decide : 1 + 0 ≤ _), (by decide : 1 + 0 ≤ _)⟩)
          dsimp only [Pt.U, Pt.locs, Pt.cells, Pt.slots] at X55 l55 y55 z55 st55 hQ55
          subst l55 y55 z55
          obtain ⟨rfl, N55q, K55, p55_0, p55_1⟩ := hQ55
          have N55 := Fr.app N54 N55q
          refine Go.st (fun _ k => st55.trans k) ?_
          have K_55 : Keep h0 T55.heap [] := K_53.trans K55 (allS (Or.inr sz_b50) all0)
          have Z_55 : n0 ≤ T55.heap.size := Nat.le_trans Z0 K_55.1
          show Go p e below s _ _ _ T55 (mkF m 146 #[.val (.long v0), .second, .val (.int v1), .val (.long (v0 - (2 : Int64))), .second, .val (.int (0 : Int32)), .val (.int (1 : Int32)), .val (.ref b50), .val (.long (0 : Int64)), .second, .val (.long ((0 : Int64) + (1 : Int64))), .second, .unset, .unset] [(.long (((0 : Int64) + (1 : Int64)) + (1 : Int64)))])
          refine G_lstore X55 hx (pc' := 148) rfl (hb hby at_146) (L' := #[.val (.long v0), .second, .val (.int v1), .val (.long (v0 - (2 : Int64))), .second, .val (.int (0 : Int32)), .val (.int (1 : Int32)), .val (.ref b50), .val (.long (0 : Int64)), .second, .val (.long ((0 : Int64) + (1 : Int64))), .second, .val (.long (((0 : Int64) + (1 : Int64)) + (1 : Int64))), .second]) rfl ?_
          refine G_lload X55 hx (pc' := 150) rfl (hb hby at_148) rfl ?_
          refine G_lload X55 hx (pc' := 152) rfl (hb hby at_150) rfl ?_
          refine G_ldc2 X55 hx (pc' := 155) rfl hown (mvT hZ (hw _ (List.mem_of_getElem? (i := 27) rfl))) (hb hby at_152) ?_
          refine G_ladd X55 hx (pc' := 156) rfl (hb hby at_155)  ?_
          refine G_lcmp X55 hx (pc' := 157) rfl (hb hby at_156)  ?_
          by_cases hc157_24 : (((0 : Int64) + (1 : Int64)) + (1 : Int64)) = ((0 : Int64) + (2 : Int64))
          · refine G_ifNo X55 hx (pc' := 160) rfl (hb hby at_157) ((if0 _ _).trans (teq ((lw_eq _ _).2 hc157_24)).2) ?_
            refine G_aload X55 hx (pc' := 162) rfl (hb hby at_160) rfl rfl ?_
            obtain ⟨cq56, kq56, q56a, q56b, q56c⟩ := isOf hZ rfl p55_0
            obtain ⟨_, _, ⟨T56, L56, k56, n56⟩, -, X56, ⟨Lc56, hQ56, l56, y56, z56⟩, st56⟩ := X55.virtualBack hx (y := (⟨"com/example/fencing/fencing/protocol/LamportClock", "time", "()J"⟩ : MethodName)) (z := (⟨"com/example/fencing/fencing/protocol/LamportClock", "time", "()J"⟩ : MethodName)) hown (mvT hZ (hw _ (List.mem_of_getElem? (i := 10) rfl))) (mvT hZ (hw _ (List.mem_of_getElem? (i := 11) rfl))) (notFace_of_selects (args := #[]) (mvT hZ (hw _ (List.mem_of_getElem? (i := 13) rfl)))) (mvT hZ (hw _ (List.mem_of_getElem? (i := 13) rfl))) (mvT hZ (hw _ (List.mem_of_getElem? (i := 12) rfl))) (by decide) (backOf (W := 0) (rm_time l Z a0 hw [] b50 (((0 : Int64) + (1 : Int64)) + (1 : Int64)) T55.heap n0 Z_55 p55_1) hZ (hw _ (List.mem_of_getElem? (i := 14) rfl)) (hw _ (List.mem_of_getElem? (i := 3) rfl)) (by decide) (by decide)) q56a q56c (g := (mkF m 162 #[.val (.long v0), .second, .val (.int v1), .val (.long (v0 - (2 : Int64))), .second, .val (.int (0 : Int32)), .val (.int (1 : Int32)), .val (.ref b50), .val (.long (0 : Int64)), .second, .val (.long ((0 : Int64) + (1 : Int64))), .second, .val (.long (((0 : Int64) + (1 : Int64)) + (1 : Int64))), .second] [(.ref b50)])) rfl (by rw [hml]; rfl) (Steps.refl _) (argsL := []) (rest := []) (lenOf pd_2 rfl) rfl (by show 2 * 0 + _ ≤ _; exact Nat.le_of_eq rfl) (hb hby at_162) (fun _ _ => ⟨rfl, rfl, (by decide : 1 + 0 ≤ _), (by decide : 1 + 0 ≤ _)⟩)
            dsimp only [Pt.U, Pt.locs, Pt.cells, Pt.slots] at X56 l56 y56 z56 st56 hQ56
            subst l56 y56 z56
            obtain ⟨rfl, N56q, e56⟩ := hQ56
            have N56 := Fr.app N55 N56q
            refine Go.st (fun _ k => st56.trans k) ?_
            show Go p e below s _ _ _ T56 (mkF m 165 #[.val (.long v0), .second, .val (.int v1), .val (.long (v0 - (2 : Int64))), .second, .val (.int (0 : Int32)), .val (.int (1 : Int32)), .val (.ref b50), .val (.long (0 : Int64)), .second, .val (.long ((0 : Int64) + (1 : Int64))), .second, .val (.long (((0 : Int64) + (1 : Int64)) + (1 : Int64))), .second] [(.long (((0 : Int64) + (1 : Int64)) + (1 : Int64)))])
            refine G_lload X56 hx (pc' := 167) rfl (hb hby at_165) rfl ?_
            refine G_ldc2 X56 hx (pc' := 170) rfl hown (mvT hZ (hw _ (List.mem_of_getElem? (i := 27) rfl))) (hb hby at_167) ?_
            refine G_ladd X56 hx (pc' := 171) rfl (hb hby at_170)  ?_
            refine G_lcmp X56 hx (pc' := 172) rfl (hb hby at_171)  ?_
            refine G_ifYes X56 hx (pc' := 177) (hb hby at_172) ((if0 _ _).trans (teq ((lw_eq _ _).2 hc157_24)).1) (by decide) (by decide) ?_
            refine G_iconst X56 hx (pc' := 178) rfl (hb hby at_177) (z := (1 : Int32)) rfl ?_
            refine Go.fin X56 hlk (v := some (.int (1 : Int32))) (fun h => by rw [Bd.returns] at h; cases h) (by decide) (by decide) ?_ (fun fs hr => retN X56 hx (t := .boolean) Bd.returns (by simp) (hb hby at_178) hr)
            show Q_law Z v0 v1 h0 n0 _ T56.heap _
            rw [e56]
            exact ⟨congrArg (fun z => some (Value.int z)) (by rw [f_law]; rw [if_neg hc5_1, if_pos hc21_21, if_neg hc34_22, if_neg hc138_23, if_pos hc157_24]), N56⟩
          · refine G_ifYes X55 hx (pc' := 175) (hb hby at_157) ((if0 _ _).trans (feq (fun q => hc157_24 ((lw_eq _ _).1 q))).2) (by decide) (by decide) ?_
            refine G_iconst X55 hx (pc' := 176) rfl (hb hby at_175) (z := (0 : Int32)) rfl ?_
            refine Go.fin X55 hlk (v := some (.int (0 : Int32))) (fun h => by rw [Bd.returns] at h; cases h) (by decide) (by decide) ?_ (fun fs hr => retN X55 hx (t := .boolean) Bd.returns (by simp) (hb hby at_176) hr)
            show Q_law Z v0 v1 h0 n0 _ T55.heap _
            exact ⟨congrArg (fun z => some (Value.int z)) (by rw [f_law]; rw [if_neg hc5_1, if_pos hc21_21, if_neg hc34_22, if_neg hc138_23, if_neg hc157_24]), N55⟩
    · refine G_ifNo X0 hx (pc' := 24) rfl (hb hby at_21) ((if0 _ _).trans (feq hc21_21).1) ?_
      refine G_iconst X0 hx (pc' := 25) rfl (hb hby at_24) (z := (1 : Int32)) rfl ?_
      refine G_goto X0 hx (pc' := 29) (hb hby at_25)  (by decide) (by decide) ?_
      refine G_istore X0 hx (pc' := 31) rfl (hb hby at_29) (L' := #[.val (.long v0), .second, .val (.int v1), .val (.long (v0 - (2 : Int64))), .second, .val (.int (1 : Int32)), .unset, .unset, .unset, .unset, .unset, .unset, .unset, .unset]) rfl ?_
      refine G_iloadN X0 hx (pc' := 32) rfl (hb hby at_31) rfl ?_
      refine G_iconst X0 hx (pc' := 33) rfl (hb hby at_32) (z := (2 : Int32)) rfl ?_
      refine G_iand X0 hx (pc' := 34) rfl (hb hby at_33)  ?_
      by_cases hc34_25 : (v1 &&& (2 : Int32)) = (0 : Int32)
      · refine G_ifYes X0 hx (pc' := 41) (hb hby at_34) ((if0 _ _).trans (teq hc34_25).1) (by decide) (by decide) ?_
        refine G_iconst X0 hx (pc' := 42) rfl (hb hby at_41) (z := (0 : Int32)) rfl ?_
        refine G_istore X0 hx (pc' := 44) rfl (hb hby at_42) (L' := #[.val (.long v0), .second, .val (.int v1), .val (.long (v0 - (2 : Int64))), .second, .val (.int (1 : Int32)), .val (.int (0 : Int32)), .unset, .unset, .unset, .unset, .unset, .unset, .unset]) rfl ?_
        obtain ⟨T57, h57, X57, e57, E57, A57, D57, -, st57⟩ := newO X0 hx hZ hown (hw _ (List.mem_of_getElem? (i := 1) rfl)) (hw _ (List.mem_of_getElem? (i := 2) rfl)) (hw _ (List.mem_of_getElem? (i := 3) rfl)) e0 (g := (mkF m 44 #[.val (.long v0), .second, .val (.int v1), .val (.long (v0 - (2 : Int64))), .second, .val (.int (1 : Int32)), .val (.int (0 : Int32)), .unset, .unset, .unset, .unset, .unset, .unset, .unset] [])) rfl (hb hby at_44) (by decide) (by decide)
        obtain ⟨b57, q57⟩ : ∃ z, z = h0.size := ⟨_, rfl⟩
        rw [← q57] at A57 D57 st57
        refine Go.st st57 ?_
        have g_b57 : n0 ≤ b57 := Nat.le_trans Z0 (Nat.le_of_eq q57.symm)
        have sz_b57 : h0.size ≤ b57 := Nat.le_trans (Nat.le_refl _) (Nat.le_of_eq q57.symm)
        have F_b57_time : Fld Z h57 b57 "com/example/fencing/fencing/protocol/LamportClock" "time" "J" (.long (0 : Int64)) := D57 (Or.inl (hw _ (List.mem_of_getElem? (i := 16) rfl))) (ty := .long) (by decide)
        have K_57 : Keep h0 h57 [] := (Keep.refl h0 []).ext E57
        have Z_57 : n0 ≤ h57.size := Nat.le_trans Z0 K_57.1
        show Go p e below s _ _ _ T57 (mkF m 47 #[.val (.long v0), .second, .val (.int v1), .val (.long (v0 - (2 : Int64))), .second, .val (.int (1 : Int32)), .val (.int (0 : Int32)), .unset, .unset, .unset, .unset, .unset, .unset, .unset] [(.ref b57)])
        refine G_dup X57 hx (pc' := 48) rfl (hb hby at_47) rfl ?_
        obtain ⟨_, _, ⟨T58, L58, k58, n58⟩, -, X58, ⟨Lc58, hQ58, l58, y58, z58⟩, st58⟩ := X57.specialBack hx (y := (⟨"com/example/fencing/fencing/protocol/LamportClock", "<init>", "()V"⟩ : MethodName)) rfl hown (mvT hZ (hw _ (List.mem_of_getElem? (i := 4) rfl))) (mvT hZ (hw _ (List.mem_of_getElem? (i := 5) rfl))) (mvT hZ (hw _ (List.mem_of_getElem? (i := 6) rfl))) (by decide) (backOf (W := 1) (rm_init l Z a0 hw [] b57 h57 n0 Z_57 A57) hZ (hw _ (List.mem_of_getElem? (i := 6) rfl)) (hw _ (List.mem_of_getElem? (i := 3) rfl)) (by decide) (by decide)) (g := (mkF m 48 #[.val (.long v0), .second, .val (.int v1), .val (.long (v0 - (2 : Int64))), .second, .val (.int (1 : Int32)), .val (.int (0 : Int32)), .unset, .unset, .unset, .unset, .unset, .unset, .unset] [(.ref b57), (.ref b57)])) rfl (by rw [hml]; rfl) (Steps.refl _) (a := b57) (argsL := []) (rest := [(.ref b57)]) (lenOf pd_1 rfl) rfl (by show 2 * 0 + _ ≤ _; exact Nat.le_of_eq rfl) (hb hby at_48) (fun _ _ => ⟨rfl, e57, (by decide : 1 + 0 ≤ _), (by decide : 1 + 0 ≤ _)⟩)
        dsimp only [Pt.U, Pt.locs, Pt.cells, Pt.slots] at X58 l58 y58 z58 st58 hQ58
        subst l58 y58 z58
        obtain ⟨rfl, N58q, e58⟩ := hQ58
        have N58 := Fr.app N0 N58q
        refine Go.st (fun _ k => st58.trans k) ?_
        show Go p e below s _ _ _ T58 (mkF m 51 #[.val (.long v0), .second, .val (.int v1), .val (.long (v0 - (2 : Int64))), .second, .val (.int (1 : Int32)), .val (.int (0 : Int32)), .unset, .unset, .unset, .unset, .unset, .unset, .unset] [(.ref b57)])
        refine G_astore X58 hx (pc' := 53) rfl (hb hby at_51) rfl (L' := #[.val (.long v0), .second, .val (.int v1), .val (.long (v0 - (2 : Int64))), .second, .val (.int (1 : Int32)), .val (.int (0 : Int32)), .val (.ref b57), .unset, .unset, .unset, .unset, .unset, .unset]) rfl ?_
        refine G_lconst X58 hx (pc' := 54) rfl (hb hby at_53) (z := (0 : Int64)) rfl ?_
        refine G_lstore X58 hx (pc' := 56) rfl (hb hby at_54) (L' := #[.val (.long v0), .second, .val (.int v1), .val (.long (v0 - (2 : Int64))), .second, .val (.int (1 : Int32)), .val (.int (0 : Int32)), .val (.ref b57), .val (.long (0 : Int64)), .second, .unset, .unset, .unset, .unset]) rfl ?_
        refine G_iload X58 hx (pc' := 58) rfl (hb hby at_56) rfl ?_
        refine G_ifNo X58 hx (pc' := 61) rfl (hb hby at_58) ((if0 _ _).trans (feq (by decide : ¬ ((1 : Int32) = (0 : Int32)))).1) ?_
        refine G_aload X58 hx (pc' := 63) rfl (hb hby at_61) rfl rfl ?_
        refine G_lloadN X58 hx (pc' := 64) rfl (hb hby at_63) rfl ?_
        obtain ⟨cq59, kq59, q59a, q59b, q59c⟩ := isOf hZ e58 A57
        obtain ⟨_, _, ⟨T59, L59, k59, n59⟩, -, X59, ⟨Lc59, hQ59, l59, y59, z59⟩, st59⟩ := X58.virtualBack hx (y := (⟨"com/example/fencing/fencing/protocol/LamportClock", "receive", "(J)V"⟩ : MethodName)) (z := (⟨"com/example/fencing/fencing/protocol/LamportClock", "receive", "(J)V"⟩ : MethodName)) hown (mvT hZ (hw _ (List.mem_of_getElem? (i := 28) rfl))) (mvT hZ (hw _ (List.mem_of_getElem? (i := 29) rfl))) (notFace_of_selects (args := #[]) (mvT hZ (hw _ (List.mem_of_getElem? (i := 31) rfl)))) (mvT hZ (hw _ (List.mem_of_getElem? (i := 31) rfl))) (mvT hZ (hw _ (List.mem_of_getElem? (i := 30) rfl))) (by decide) (backOf (W := 0) (rm_recv l Z a0 hw [] b57 (v0 - (2 : Int64)) (0 : Int64) h57 n0 Z_57 A57 F_b57_time g_b57 (by first | exact own_rec1 (by assumption) | exact own_rec2 (by assumption))) hZ (hw _ (List.mem_of_getElem? (i := 32) rfl)) (hw _ (List.mem_of_getElem? (i := 3) rfl)) (by decide) (by decide)) q59a q59c (g := (mkF m 64 #[.val (.long v0), .second, .val (.int v1), .val (.long (v0 - (2 : Int64))), .second, .val (.int (1 : Int32)), .val (.int (0 : Int32)), .val (.ref b57), .val (.long (0 : Int64)), .second, .unset, .unset, .unset, .unset] [(.long (v0 - (2 : Int64))), (.ref b57)])) rfl (by rw [hml]; rfl) (Steps.refl _) (argsL := [(.long (v0 - (2 : Int64)))]) (rest := []) (lenOf pd_3 rfl) rfl (by show 2 * 0 + _ ≤ _; exact Nat.le_of_eq rfl) (hb hby at_64) (fun _ _ => ⟨rfl, e58, (by decide : 1 + 0 ≤ _), (by decide : 1 + 0 ≤ _)⟩)
        dsimp only [Pt.U, Pt.locs, Pt.cells, Pt.slots] at X59 l59 y59 z59 st59 hQ59
        subst l59 y59 z59
        obtain ⟨rfl, N59q, K59, p59_0, p59_1⟩ := hQ59
        have N59 := Fr.app N58 N59q
        refine Go.st (fun _ k => st59.trans k) ?_
        have K_59 : Keep h0 T59.heap [] := K_57.trans K59 (allS (Or.inr sz_b57) all0)
        have Z_59 : n0 ≤ T59.heap.size := Nat.le_trans Z0 K_59.1
        show Go p e below s _ _ _ T59 (mkF m 67 #[.val (.long v0), .second, .val (.int v1), .val (.long (v0 - (2 : Int64))), .second, .val (.int (1 : Int32)), .val (.int (0 : Int32)), .val (.ref b57), .val (.long (0 : Int64)), .second, .unset, .unset, .unset, .unset] [])
        refine G_lloadN X59 hx (pc' := 68) rfl (hb hby at_67) rfl ?_
        refine G_lconst X59 hx (pc' := 69) rfl (hb hby at_68) (z := (0 : Int64)) rfl ?_
        refine G_lcmp X59 hx (pc' := 70) rfl (hb hby at_69)  ?_
        by_cases hc70_26 : (0 : Int64) < (v0 - (2 : Int64))
        · refine G_ifNo X59 hx (pc' := 73) rfl (hb hby at_70) ((if0 _ _).trans (tlt ((lw_gt _ _).2 hc70_26)).2.2.2) ?_
          refine G_lloadN X59 hx (pc' := 74) rfl (hb hby at_73) rfl ?_
          refine G_goto X59 hx (pc' := 78) (hb hby at_74)  (by decide) (by decide) ?_
          refine G_lconst X59 hx (pc' := 79) rfl (hb hby at_78) (z := (1 : Int64)) rfl ?_
          refine G_ladd X59 hx (pc' := 80) rfl (hb hby at_79)  ?_
          refine G_lstore X59 hx (pc' := 82) rfl (hb hby at_80) (L' := #[.val (.long v0), .second, .val (.int v1), .val (.long (v0 - (2 : Int64))), .second, .val (.int (1 : Int32)), .val (.int (0 : Int32)), .val (.ref b57), .val (.long ((v0 - (2 : Int64)) + (1 : Int64))), .second, .unset, .unset, .unset, .unset]) rfl ?_
          refine G_aload X59 hx (pc' := 84) rfl (hb hby at_82) rfl rfl ?_
          obtain ⟨cq60, kq60, q60a, q60b, q60c⟩ := isOf hZ rfl p59_0
          obtain ⟨_, _, ⟨T60, L60, k60, n60⟩, -, X60, ⟨Lc60, hQ60, l60, y60, z60⟩, st60⟩ := X59.virtualBack hx (y := (⟨"com/example/fencing/fencing/protocol/LamportClock", "time", "()J"⟩ : MethodName)) (z := (⟨"com/example/fencing/fencing/protocol/LamportClock", "time", "()J"⟩ : MethodName)) hown (mvT hZ (hw _ (List.mem_of_getElem? (i := 10) rfl))) (mvT hZ (hw _ (List.mem_of_getElem? (i := 11) rfl))) (notFace_of_selects (args := #[]) (mvT hZ (hw _ (List.mem_of_getElem? (i := 13) rfl)))) (mvT hZ (hw _ (List.mem_of_getElem? (i := 13) rfl))) (mvT hZ (hw _ (List.mem_of_getElem? (i := 12) rfl))) (by decide) (backOf (W := 0) (rm_time l Z a0 hw [] b57 ((f_max (0 : Int64) (v0 - (2 : Int64))) + (1 : Int64)) T59.heap n0 Z_59 p59_1) hZ (hw _ (List.mem_of_getElem? (i := 14) rfl)) (hw _ (List.mem_of_getElem? (i := 3) rfl)) (by decide) (by decide)) q60a q60c (g := (mkF m 84 #[.val (.long v0), .second, .val (.int v1), .val (.long (v0 - (2 : Int64))), .second, .val (.int (1 : Int32)), .val (.int (0 : Int32)), .val (.ref b57), .val (.long ((v0 - (2 : Int64)) + (1 : Int64))), .second, .unset, .unset, .unset, .unset] [(.ref b57)])) rfl (by rw [hml]; rfl) (Steps.refl _) (argsL := []) (rest := []) (lenOf pd_2 rfl) rfl (by show 2 * 0 + _ ≤ _; exact Nat.le_of_eq rfl) (hb hby at_84) (fun _ _ => ⟨rfl, rfl, (by decide : 1 + 0 ≤ _), (by decide : 1 + 0 ≤ _)⟩)
          dsimp only [Pt.U, Pt.locs, Pt.cells, Pt.slots] at X60 l60 y60 z60 st60 hQ60
          subst l60 y60 z60
          obtain ⟨rfl, N60q, e60⟩ := hQ60
          have N60 := Fr.app N59 N60q
          refine Go.st (fun _ k => st60.trans k) ?_
          show Go p e below s _ _ _ T60 (mkF m 87 #[.val (.long v0), .second, .val (.int v1), .val (.long (v0 - (2 : Int64))), .second, .val (.int (1 : Int32)), .val (.int (0 : Int32)), .val (.ref b57), .val (.long ((v0 - (2 : Int64)) + (1 : Int64))), .second, .unset, .unset, .unset, .unset] [(.long ((f_max (0 : Int64) (v0 - (2 : Int64))) + (1 : Int64)))])
          refine G_lload X60 hx (pc' := 89) rfl (hb hby at_87) rfl ?_
          refine G_lcmp X60 hx (pc' := 90) rfl (hb hby at_89)  ?_
          by_cases hc90_27 : ((f_max (0 : Int64) (v0 - (2 : Int64))) + (1 : Int64)) = ((v0 - (2 : Int64)) + (1 : Int64))
          · refine G_ifYes X60 hx (pc' := 95) (hb hby at_90) ((if0 _ _).trans (teq ((lw_eq _ _).2 hc90_27)).1) (by decide) (by decide) ?_
            refine G_aload X60 hx (pc' := 97) rfl (hb hby at_95) rfl rfl ?_
            obtain ⟨cq61, kq61, q61a, q61b, q61c⟩ := isOf hZ e60 p59_0
            obtain ⟨_, _, ⟨T61, L61, k61, n61⟩, -, X61, ⟨Lc61, hQ61, l61, y61, z61⟩, st61⟩ := X60.virtualBack hx (y := (⟨"com/example/fencing/fencing/protocol/LamportClock", "tick", "()J"⟩ : MethodName)) (z := (⟨"com/example/fencing/fencing/protocol/LamportClock", "tick", "()J"⟩ : MethodName)) hown (mvT hZ (hw _ (List.mem_of_getElem? (i := 17) rfl))) (mvT hZ (hw _ (List.mem_of_getElem? (i := 18) rfl))) (notFace_of_selects (args := #[]) (mvT hZ (hw _ (List.mem_of_getElem? (i := 20) rfl)))) (mvT hZ (hw _ (List.mem_of_getElem? (i := 20) rfl))) (mvT hZ (hw _ (List.mem_of_getElem? (i := 19) rfl))) (by decide) (backOf (W := 0) (rm_tick l Z a0 hw [] b57 ((f_max (0 : Int64) (v0 - (2 : Int64))) + (1 : Int64)) T59.heap n0 Z_59 p59_0 p59_1 g_b57 (by first | decide | exact own_tk1 (by assumption) | exact own_tk2 (by assumption))) hZ (hw _ (List.mem_of_getElem? (i := 21) rfl)) (hw _ (List.mem_of_getElem? (i := 3) rfl)) (by decide) (by decide)) q61a q61c (g := (mkF m 97 #[.val (.long v0), .second, .val (.int v1), .val (.long (v0 - (2 : Int64))), .second, .val (.int (1 : Int32)), .val (.int (0 : Int32)), .val (.ref b57), .val (.long ((v0 - (2 : Int64)) + (1 : Int64))), .second, .unset, .unset, .unset, .unset] [(.ref b57)])) rfl (by rw [hml]; rfl) (Steps.refl _) (argsL := []) (rest := []) (lenOf pd_2 rfl) rfl (by show 2 * 0 + _ ≤ _; exact Nat.le_of_eq rfl) (hb hby at_97) (fun _ _ => ⟨rfl, e60, (by decide : 1 + 0 ≤ _), (by decide : 1 + 0 ≤ _)⟩)
            dsimp only [Pt.U, Pt.locs, Pt.cells, Pt.slots] at X61 l61 y61 z61 st61 hQ61
            subst l61 y61 z61
            obtain ⟨rfl, N61q, K61, p61_0, p61_1⟩ := hQ61
            have N61 := Fr.app N60 N61q
            refine Go.st (fun _ k => st61.trans k) ?_
            have K_61 : Keep h0 T61.heap [] := K_59.trans K61 (allS (Or.inr sz_b57) all0)
            have Z_61 : n0 ≤ T61.heap.size := Nat.le_trans Z0 K_61.1
            show Go p e below s _ _ _ T61 (mkF m 100 #[.val (.long v0), .second, .val (.int v1), .val (.long (v0 - (2 : Int64))), .second, .val (.int (1 : Int32)), .val (.int (0 : Int32)), .val (.ref b57), .val (.long ((v0 - (2 : Int64)) + (1 : Int64))), .second, .unset, .unset, .unset, .unset] [(.long (((f_max (0 : Int64) (v0 - (2 : Int64))) + (1 : Int64)) + (1 : Int64)))])
            refine G_lstore X61 hx (pc' := 102) rfl (hb hby at_100) (L' := #[.val (.long v0), .second, .val (.int v1), .val (.long (v0 - (2 : Int64))), .second, .val (.int (1 : Int32)), .val (.int (0 : Int32)), .val (.ref b57), .val (.long ((v0 - (2 : Int64)) + (1 : Int64))), .second, .val (.long (((f_max (0 : Int64) (v0 - (2 : Int64))) + (1 : Int64)) + (1 : Int64))), .second, .unset, .unset]) rfl ?_
            refine G_lload X61 hx (pc' := 104) rfl (hb hby at_102) rfl ?_
            refine G_lload X61 hx (pc' := 106) rfl (hb hby at_104) rfl ?_
            refine G_lconst X61 hx (pc' := 107) rfl (hb hby at_106) (z := (1 : Int64)) rfl ?_
            refine G_ladd X61 hx (pc' := 108) rfl (hb hby at_107)  ?_
            refine G_lcmp X61 hx (pc' := 109) rfl (hb hby at_108)  ?_
            by_cases hc109_28 : (((f_max (0 : Int64) (v0 - (2 : Int64))) + (1 : Int64)) + (1 : Int64)) = (((v0 - (2 : Int64)) + (1 : Int64)) + (1 : Int64))
            · refine G_ifNo X61 hx (pc' := 112) rfl (hb hby at_109) ((if0 _ _).trans (teq ((lw_eq _ _).2 hc109_28)).2) ?_
              refine G_aload X61 hx (pc' := 114) rfl (hb hby at_112) rfl rfl ?_
              obtain ⟨cq62, kq62, q62a, q62b, q62c⟩ := isOf hZ rfl p61_0
              obtain ⟨_, _, ⟨T62, L62, k62, n62⟩, -, X62, ⟨Lc62, hQ62, l62, y62, z62⟩, st62⟩ := X61.virtualBack hx (y := (⟨"com/example/fencing/fencing/protocol/LamportClock", "time", "()J"⟩ : MethodName)) (z := (⟨"com/example/fencing/fencing/protocol/LamportClock", "time", "()J"⟩ : MethodName)) hown (mvT hZ (hw _ (List.mem_of_getElem? (i := 10) rfl))) (mvT hZ (hw _ (List.mem_of_getElem? (i := 11) rfl))) (notFace_of_selects (args := #[]) (mvT hZ (hw _ (List.mem_of_getElem? (i := 13) rfl)))) (mvT hZ (hw _ (List.mem_of_getElem? (i := 13) rfl))) (mvT hZ (hw _ (List.mem_of_getElem? (i := 12) rfl))) (by decide) (backOf (W := 0) (rm_time l Z a0 hw [] b57 (((f_max (0 : Int64) (v0 - (2 : Int64))) + (1 : Int64)) + (1 : Int64)) T61.heap n0 Z_61 p61_1) hZ (hw _ (List.mem_of_getElem? (i := 14) rfl)) (hw _ (List.mem_of_getElem? (i := 3) rfl)) (by decide) (by decide)) q62a q62c (g := (mkF m 114 #[.val (.long v0), .second, .val (.int v1), .val (.long (v0 - (2 : Int64))), .second, .val (.int (1 : Int32)), .val (.int (0 : Int32)), .val (.ref b57), .val (.long ((v0 - (2 : Int64)) + (1 : Int64))), .second, .val (.long (((f_max (0 : Int64) (v0 - (2 : Int64))) + (1 : Int64)) + (1 : Int64))), .second, .unset, .unset] [(.ref b57)])) rfl (by rw [hml]; rfl) (Steps.refl _) (argsL := []) (rest := []) (lenOf pd_2 rfl) rfl (by show 2 * 0 + _ ≤ _; exact Nat.le_of_eq rfl) (hb hby at_114) (fun _ _ => ⟨rfl, rfl, (by decide : 1 + 0 ≤ _), (by decide : 1 + 0 ≤ _)⟩)
              dsimp only [Pt.U, Pt.locs, Pt.cells, Pt.slots] at X62 l62 y62 z62 st62 hQ62
              subst l62 y62 z62
              obtain ⟨rfl, N62q, e62⟩ := hQ62
              have N62 := Fr.app N61 N62q
              refine Go.st (fun _ k => st62.trans k) ?_
              show Go p e below s _ _ _ T62 (mkF m 117 #[.val (.long v0), .second, .val (.int v1), .val (.long (v0 - (2 : Int64))), .second, .val (.int (1 : Int32)), .val (.int (0 : Int32)), .val (.ref b57), .val (.long ((v0 - (2 : Int64)) + (1 : Int64))), .second, .val (.long (((f_max (0 : Int64) (v0 - (2 : Int64))) + (1 : Int64)) + (1 : Int64))), .second, .unset, .unset] [(.long (((f_max (0 : Int64) (v0 - (2 : Int64))) + (1 : Int64)) + (1 : Int64)))])
              refine G_lload X62 hx (pc' := 119) rfl (hb hby at_117) rfl ?_
              refine G_lconst X62 hx (pc' := 120) rfl (hb hby at_119) (z := (1 : Int64)) rfl ?_
              refine G_ladd X62 hx (pc' := 121) rfl (hb hby at_120)  ?_
              refine G_lcmp X62 hx (pc' := 122) rfl (hb hby at_121)  ?_
              refine G_ifYes X62 hx (pc' := 127) (hb hby at_122) ((if0 _ _).trans (teq ((lw_eq _ _).2 hc109_28)).1) (by decide) (by decide) ?_
              refine G_iload X62 hx (pc' := 129) rfl (hb hby at_127) rfl ?_
              refine G_ifYes X62 hx (pc' := 177) (hb hby at_129) ((if0 _ _).trans (teq (by decide : (0 : Int32) = (0 : Int32))).1) (by decide) (by decide) ?_
              refine G_iconst X62 hx (pc' := 178) rfl (hb hby at_177) (z := (1 : Int32)) rfl ?_
              refine Go.fin X62 hlk (v := some (.int (1 : Int32))) (fun h => by rw [Bd.returns] at h; cases h) (by decide) (by decide) ?_ (fun fs hr => retN X62 hx (t := .boolean) Bd.returns (by simp) (hb hby at_178) hr)
              show Q_law Z v0 v1 h0 n0 _ T62.heap _
              rw [e62]
              exact ⟨congrArg (fun z => some (Value.int z)) (by rw [f_law]; rw [if_neg hc5_1, if_neg hc21_21, if_pos hc34_25, if_pos hc70_26, if_pos hc90_27, if_pos hc109_28]), N62⟩
            · refine G_ifYes X61 hx (pc' := 125) (hb hby at_109) ((if0 _ _).trans (feq (fun q => hc109_28 ((lw_eq _ _).1 q))).2) (by decide) (by decide) ?_
              refine G_iconst X61 hx (pc' := 126) rfl (hb hby at_125) (z := (0 : Int32)) rfl ?_
              refine Go.fin X61 hlk (v := some (.int (0 : Int32))) (fun h => by rw [Bd.returns] at h; cases h) (by decide) (by decide) ?_ (fun fs hr => retN X61 hx (t := .boolean) Bd.returns (by simp) (hb hby at_126) hr)
              show Q_law Z v0 v1 h0 n0 _ T61.heap _
              exact ⟨congrArg (fun z => some (Value.int z)) (by rw [f_law]; rw [if_neg hc5_1, if_neg hc21_21, if_pos hc34_25, if_pos hc70_26, if_pos hc90_27, if_neg hc109_28]), N61⟩
          · refine G_ifNo X60 hx (pc' := 93) rfl (hb hby at_90) ((if0 _ _).trans (feq (fun q => hc90_27 ((lw_eq _ _).1 q))).1) ?_
            refine G_iconst X60 hx (pc' := 94) rfl (hb hby at_93) (z := (0 : Int32)) rfl ?_
            refine Go.fin X60 hlk (v := some (.int (0 : Int32))) (fun h => by rw [Bd.returns] at h; cases h) (by decide) (by decide) ?_ (fun fs hr => retN X60 hx (t := .boolean) Bd.returns (by simp) (hb hby at_94) hr)
            show Q_law Z v0 v1 h0 n0 _ T60.heap _
            rw [e60]
            exact ⟨congrArg (fun z => some (Value.int z)) (by rw [f_law]; rw [if_neg hc5_1, if_neg hc21_21, if_pos hc34_25, if_pos hc70_26, if_neg hc90_27]), N60⟩
        · refine G_ifYes X59 hx (pc' := 77) (hb hby at_70) ((if0 _ _).trans (flt (fun q => hc70_26 ((lw_gt _ _).1 q))).2.2.2) (by decide) (by decide) ?_
          refine G_lconst X59 hx (pc' := 78) rfl (hb hby at_77) (z := (0 : Int64)) rfl ?_
          refine G_lconst X59 hx (pc' := 79) rfl (hb hby at_78) (z := (1 : Int64)) rfl ?_
          refine G_ladd X59 hx (pc' := 80) rfl (hb hby at_79)  ?_
          refine G_lstore X59 hx (pc' := 82) rfl (hb hby at_80) (L' := #[.val (.long v0), .second, .val (.int v1), .val (.long (v0 - (2 : Int64))), .second, .val (.int (1 : Int32)), .val (.int (0 : Int32)), .val (.ref b57), .val (.long ((0 : Int64) + (1 : Int64))), .second, .unset, .unset, .unset, .unset]) rfl ?_
          refine G_aload X59 hx (pc' := 84) rfl (hb hby at_82) rfl rfl ?_
          obtain ⟨cq63, kq63, q63a, q63b, q63c⟩ := isOf hZ rfl p59_0
          obtain ⟨_, _, ⟨T63, L63, k63, n63⟩, -, X63, ⟨Lc63, hQ63, l63, y63, z63⟩, st63⟩ := X59.virtualBack hx (y := (⟨"com/example/fencing/fencing/protocol/LamportClock", "time", "()J"⟩ : MethodName)) (z := (⟨"com/example/fencing/fencing/protocol/LamportClock", "time", "()J"⟩ : MethodName)) hown (mvT hZ (hw _ (List.mem_of_getElem? (i := 10) rfl))) (mvT hZ (hw _ (List.mem_of_getElem? (i := 11) rfl))) (notFace_of_selects (args := #[]) (mvT hZ (hw _ (List.mem_of_getElem? (i := 13) rfl)))) (mvT hZ (hw _ (List.mem_of_getElem? (i := 13) rfl))) (mvT hZ (hw _ (List.mem_of_getElem? (i := 12) rfl))) (by decide) (backOf (W := 0) (rm_time l Z a0 hw [] b57 ((f_max (0 : Int64) (v0 - (2 : Int64))) + (1 : Int64)) T59.heap n0 Z_59 p59_1) hZ (hw _ (List.mem_of_getElem? (i := 14) rfl)) (hw _ (List.mem_of_getElem? (i := 3) rfl)) (by decide) (by decide)) q63a q63c (g := (mkF m 84 #[.val (.long v0), .second, .val (.int v1), .val (.long (v0 - (2 : Int64))), .second, .val (.int (1 : Int32)), .val (.int (0 : Int32)), .val (.ref b57), .val (.long ((0 : Int64) + (1 : Int64))), .second, .unset, .unset, .unset, .unset] [(.ref b57)])) rfl (by rw [hml]; rfl) (Steps.refl _) (argsL := []) (rest := []) (lenOf pd_2 rfl) rfl (by show 2 * 0 + _ ≤ _; exact Nat.le_of_eq rfl) (hb hby at_84) (fun _ _ => ⟨rfl, rfl, (by decide : 1 + 0 ≤ _), (by decide : 1 + 0 ≤ _)⟩)
          dsimp only [Pt.U, Pt.locs, Pt.cells, Pt.slots] at X63 l63 y63 z63 st63 hQ63
          subst l63 y63 z63
          obtain ⟨rfl, N63q, e63⟩ := hQ63
          have N63 := Fr.app N59 N63q
          refine Go.st (fun _ k => st63.trans k) ?_
          show Go p e below s _ _ _ T63 (mkF m 87 #[.val (.long v0), .second, .val (.int v1), .val (.long (v0 - (2 : Int64))), .second, .val (.int (1 : Int32)), .val (.int (0 : Int32)), .val (.ref b57), .val (.long ((0 : Int64) + (1 : Int64))), .second, .unset, .unset, .unset, .unset] [(.long ((f_max (0 : Int64) (v0 - (2 : Int64))) + (1 : Int64)))])
          refine G_lload X63 hx (pc' := 89) rfl (hb hby at_87) rfl ?_
          refine G_lcmp X63 hx (pc' := 90) rfl (hb hby at_89)  ?_
          by_cases hc90_29 : ((f_max (0 : Int64) (v0 - (2 : Int64))) + (1 : Int64)) = ((0 : Int64) + (1 : Int64))
          · refine G_ifYes X63 hx (pc' := 95) (hb hby at_90) ((if0 _ _).trans (teq ((lw_eq _ _).2 hc90_29)).1) (by decide) (by decide) ?_
            refine G_aload X63 hx (pc' := 97) rfl (hb hby at_95) rfl rfl ?_
            obtain ⟨cq64, kq64, q64a, q64b, q64c⟩ := isOf hZ e63 p59_0
            obtain ⟨_, _, ⟨T64, L64, k64, n64⟩, -, X64, ⟨Lc64, hQ64, l64, y64, z64⟩, st64⟩ := X63.virtualBack hx (y := (⟨"com/example/fencing/fencing/protocol/LamportClock", "tick", "()J"⟩ : MethodName)) (z := (⟨"com/example/fencing/fencing/protocol/LamportClock", "tick", "()J"⟩ : MethodName)) hown (mvT hZ (hw _ (List.mem_of_getElem? (i := 17) rfl))) (mvT hZ (hw _ (List.mem_of_getElem? (i := 18) rfl))) (notFace_of_selects (args := #[]) (mvT hZ (hw _ (List.mem_of_getElem? (i := 20) rfl)))) (mvT hZ (hw _ (List.mem_of_getElem? (i := 20) rfl))) (mvT hZ (hw _ (List.mem_of_getElem? (i := 19) rfl))) (by decide) (backOf (W := 0) (rm_tick l Z a0 hw [] b57 ((f_max (0 : Int64) (v0 - (2 : Int64))) + (1 : Int64)) T59.heap n0 Z_59 p59_0 p59_1 g_b57 (by first | decide | exact own_tk1 (by assumption) | exact own_tk2 (by assumption))) hZ (hw _ (List.mem_of_getElem? (i := 21) rfl)) (hw _ (List.mem_of_getElem? (i := 3) rfl)) (by decide) (by decide)) q64a q64c (g := (mkF m 97 #[.val (.long v0), .second, .val (.int v1), .val (.long (v0 - (2 : Int64))), .second, .val (.int (1 : Int32)), .val (.int (0 : Int32)), .val (.ref b57), .val (.long ((0 : Int64) + (1 : Int64))), .second, .unset, .unset, .unset, .unset] [(.ref b57)])) rfl (by rw [hml]; rfl) (Steps.refl _) (argsL := []) (rest := []) (lenOf pd_2 rfl) rfl (by show 2 * 0 + _ ≤ _; exact Nat.le_of_eq rfl) (hb hby at_97) (fun _ _ => ⟨rfl, e63, (by decide : 1 + 0 ≤ _), (by decide : 1 + 0 ≤ _)⟩)
            dsimp only [Pt.U, Pt.locs, Pt.cells, Pt.slots] at X64 l64 y64 z64 st64 hQ64
            subst l64 y64 z64
            obtain ⟨rfl, N64q, K64, p64_0, p64_1⟩ := hQ64
            have N64 := Fr.app N63 N64q
            refine Go.st (fun _ k => st64.trans k) ?_
            have K_64 : Keep h0 T64.heap [] := K_59.trans K64 (allS (Or.inr sz_b57) all0)
            have Z_64 : n0 ≤ T64.heap.size := Nat.le_trans Z0 K_64.1
            show Go p e below s _ _ _ T64 (mkF m 100 #[.val (.long v0), .second, .val (.int v1), .val (.long (v0 - (2 : Int64))), .second, .val (.int (1 : Int32)), .val (.int (0 : Int32)), .val (.ref b57), .val (.long ((0 : Int64) + (1 : Int64))), .second, .unset, .unset, .unset, .unset] [(.long (((f_max (0 : Int64) (v0 - (2 : Int64))) + (1 : Int64)) + (1 : Int64)))])
            refine G_lstore X64 hx (pc' := 102) rfl (hb hby at_100) (L' := #[.val (.long v0), .second, .val (.int v1), .val (.long (v0 - (2 : Int64))), .second, .val (.int (1 : Int32)), .val (.int (0 : Int32)), .val (.ref b57), .val (.long ((0 : Int64) + (1 : Int64))), .second, .val (.long (((f_max (0 : Int64) (v0 - (2 : Int64))) + (1 : Int64)) + (1 : Int64))), .second, .unset, .unset]) rfl ?_
            refine G_lload X64 hx (pc' := 104) rfl (hb hby at_102) rfl ?_
            refine G_lload X64 hx (pc' := 106) rfl (hb hby at_104) rfl ?_
            refine G_lconst X64 hx (pc' := 107) rfl (hb hby at_106) (z := (1 : Int64)) rfl ?_
            refine G_ladd X64 hx (pc' := 108) rfl (hb hby at_107)  ?_
            refine G_lcmp X64 hx (pc' := 109) rfl (hb hby at_108)  ?_
            by_cases hc109_30 : (((f_max (0 : Int64) (v0 - (2 : Int64))) + (1 : Int64)) + (1 : Int64)) = (((0 : Int64) + (1 : Int64)) + (1 : Int64))
            · refine G_ifNo X64 hx (pc' := 112) rfl (hb hby at_109) ((if0 _ _).trans (teq ((lw_eq _ _).2 hc109_30)).2) ?_
              refine G_aload X64 hx (pc' := 114) rfl (hb hby at_112) rfl rfl ?_
              obtain ⟨cq65, kq65, q65a, q65b, q65c⟩ := isOf hZ rfl p64_0
              obtain ⟨_, _, ⟨T65, L65, k65, n65⟩, -, X65, ⟨Lc65, hQ65, l65, y65, z65⟩, st65⟩ := X64.virtualBack hx (y := (⟨"com/example/fencing/fencing/protocol/LamportClock", "time", "()J"⟩ : MethodName)) (z := (⟨"com/example/fencing/fencing/protocol/LamportClock", "time", "()J"⟩ : MethodName)) hown (mvT hZ (hw _ (List.mem_of_getElem? (i := 10) rfl))) (mvT hZ (hw _ (List.mem_of_getElem? (i := 11) rfl))) (notFace_of_selects (args := #[]) (mvT hZ (hw _ (List.mem_of_getElem? (i := 13) rfl)))) (mvT hZ (hw _ (List.mem_of_getElem? (i := 13) rfl))) (mvT hZ (hw _ (List.mem_of_getElem? (i := 12) rfl))) (by decide) (backOf (W := 0) (rm_time l Z a0 hw [] b57 (((f_max (0 : Int64) (v0 - (2 : Int64))) + (1 : Int64)) + (1 : Int64)) T64.heap n0 Z_64 p64_1) hZ (hw _ (List.mem_of_getElem? (i := 14) rfl)) (hw _ (List.mem_of_getElem? (i := 3) rfl)) (by decide) (by decide)) q65a q65c (g := (mkF m 114 #[.val (.long v0), .second, .val (.int v1), .val (.long (v0 - (2 : Int64))), .second, .val (.int (1 : Int32)), .val (.int (0 : Int32)), .val (.ref b57), .val (.long ((0 : Int64) + (1 : Int64))), .second, .val (.long (((f_max (0 : Int64) (v0 - (2 : Int64))) + (1 : Int64)) + (1 : Int64))), .second, .unset, .unset] [(.ref b57)])) rfl (by rw [hml]; rfl) (Steps.refl _) (argsL := []) (rest := []) (lenOf pd_2 rfl) rfl (by show 2 * 0 + _ ≤ _; exact Nat.le_of_eq rfl) (hb hby at_114) (fun _ _ => ⟨rfl, rfl, (by decide : 1 + 0 ≤ _), (by decide : 1 + 0 ≤ _)⟩)
              dsimp only [Pt.U, Pt.locs, Pt.cells, Pt.slots] at X65 l65 y65 z65 st65 hQ65
              subst l65 y65 z65
              obtain ⟨rfl, N65q, e65⟩ := hQ65
              have N65 := Fr.app N64 N65q
              refine Go.st (fun _ k => st65.trans k) ?_
              show Go p e below s _ _ _ T65 (mkF m 117 #[.val (.long v0), .second, .val (.int v1), .val (.long (v0 - (2 : Int64))), .second, .val (.int (1 : Int32)), .val (.int (0 : Int32)), .val (.ref b57), .val (.long ((0 : Int64) + (1 : Int64))), .second, .val (.long (((f_max (0 : Int64) (v0 - (2 : Int64))) + (1 : Int64)) + (1 : Int64))), .second, .unset, .unset] [(.long (((f_max (0 : Int64) (v0 - (2 : Int64))) + (1 : Int64)) + (1 : Int64)))])
              refine G_lload X65 hx (pc' := 119) rfl (hb hby at_117) rfl ?_
              refine G_lconst X65 hx (pc' := 120) rfl (hb hby at_119) (z := (1 : Int64)) rfl ?_
              refine G_ladd X65 hx (pc' := 121) rfl (hb hby at_120)  ?_
              refine G_lcmp X65 hx (pc' := 122) rfl (hb hby at_121)  ?_
              refine G_ifYes X65 hx (pc' := 127) (hb hby at_122) ((if0 _ _).trans (teq ((lw_eq _ _).2 hc109_30)).1) (by decide) (by decide) ?_
              refine G_iload X65 hx (pc' := 129) rfl (hb hby at_127) rfl ?_
              refine G_ifYes X65 hx (pc' := 177) (hb hby at_129) ((if0 _ _).trans (teq (by decide : (0 : Int32) = (0 : Int32))).1) (by decide) (by decide) ?_
              refine G_iconst X65 hx (pc' := 178) rfl (hb hby at_177) (z := (1 : Int32)) rfl ?_
              refine Go.fin X65 hlk (v := some (.int (1 : Int32))) (fun h => by rw [Bd.returns] at h; cases h) (by decide) (by decide) ?_ (fun fs hr => retN X65 hx (t := .boolean) Bd.returns (by simp) (hb hby at_178) hr)
              show Q_law Z v0 v1 h0 n0 _ T65.heap _
              rw [e65]
              exact ⟨congrArg (fun z => some (Value.int z)) (by rw [f_law]; rw [if_neg hc5_1, if_neg hc21_21, if_pos hc34_25, if_neg hc70_26, if_pos hc90_29, if_pos hc109_30]), N65⟩
            · refine G_ifYes X64 hx (pc' := 125) (hb hby at_109) ((if0 _ _).trans (feq (fun q => hc109_30 ((lw_eq _ _).1 q))).2) (by decide) (by decide) ?_
              refine G_iconst X64 hx (pc' := 126) rfl (hb hby at_125) (z := (0 : Int32)) rfl ?_
              refine Go.fin X64 hlk (v := some (.int (0 : Int32))) (fun h => by rw [Bd.returns] at h; cases h) (by decide) (by decide) ?_ (fun fs hr => retN X64 hx (t := .boolean) Bd.returns (by simp) (hb hby at_126) hr)
              show Q_law Z v0 v1 h0 n0 _ T64.heap _
              exact ⟨congrArg (fun z => some (Value.int z)) (by rw [f_law]; rw [if_neg hc5_1, if_neg hc21_21, if_pos hc34_25, if_neg hc70_26, if_pos hc90_29, if_neg hc109_30]), N64⟩
          · refine G_ifNo X63 hx (pc' := 93) rfl (hb hby at_90) ((if0 _ _).trans (feq (fun q => hc90_29 ((lw_eq _ _).1 q))).1) ?_
            refine G_iconst X63 hx (pc' := 94) rfl (hb hby at_93) (z := (0 : Int32)) rfl ?_
            refine Go.fin X63 hlk (v := some (.int (0 : Int32))) (fun h => by rw [Bd.returns] at h; cases h) (by decide) (by decide) ?_ (fun fs hr => retN X63 hx (t := .boolean) Bd.returns (by simp) (hb hby at_94) hr)
            show Q_law Z v0 v1 h0 n0 _ T63.heap _
            rw [e63]
            exact ⟨congrArg (fun z => some (Value.int z)) (by rw [f_law]; rw [if_neg hc5_1, if_neg hc21_21, if_pos hc34_25, if_neg hc70_26, if_neg hc90_29]), N63⟩
      · refine G_ifNo X0 hx (pc' := 37) rfl (hb hby at_34) ((if0 _ _).trans (feq hc34_25).1) ?_
        refine G_iconst X0 hx (pc' := 38) rfl (hb hby at_37) (z := (1 : Int32)) rfl ?_
        refine G_goto X0 hx (pc' := 42) (hb hby at_38)  (by decide) (by decide) ?_
        refine G_istore X0 hx (pc' := 44) rfl (hb hby at_42) (L' := #[.val (.long v0), .second, .val (.int v1), .val (.long (v0 - (2 : Int64))), .second, .val (.int (1 : Int32)), .val (.int (1 : Int32)), .unset, .unset, .unset, .unset, .unset, .unset, .unset]) rfl ?_
        obtain ⟨T66, h66, X66, e66, E66, A66, D66, -, st66⟩ := newO X0 hx hZ hown (hw _ (List.mem_of_getElem? (i := 1) rfl)) (hw _ (List.mem_of_getElem? (i := 2) rfl)) (hw _ (List.mem_of_getElem? (i := 3) rfl)) e0 (g := (mkF m 44 #[.val (.long v0), .second, .val (.int v1), .val (.long (v0 - (2 : Int64))), .second, .val (.int (1 : Int32)), .val (.int (1 : Int32)), .unset, .unset, .unset, .unset, .unset, .unset, .unset] [])) rfl (hb hby at_44) (by decide) (by decide)
        obtain ⟨b66, q66⟩ : ∃ z, z = h0.size := ⟨_, rfl⟩
        rw [← q66] at A66 D66 st66
        refine Go.st st66 ?_
        have g_b66 : n0 ≤ b66 := Nat.le_trans Z0 (Nat.le_of_eq q66.symm)
        have sz_b66 : h0.size ≤ b66 := Nat.le_trans (Nat.le_refl _) (Nat.le_of_eq q66.symm)
        have F_b66_time : Fld Z h66 b66 "com/example/fencing/fencing/protocol/LamportClock" "time" "J" (.long (0 : Int64)) := D66 (Or.inl (hw _ (List.mem_of_getElem? (i := 16) rfl))) (ty := .long) (by decide)
        have K_66 : Keep h0 h66 [] := (Keep.refl h0 []).ext E66
        have Z_66 : n0 ≤ h66.size := Nat.le_trans Z0 K_66.1
        show Go p e below s _ _ _ T66 (mkF m 47 #[.val (.long v0), .second, .val (.int v1), .val (.long (v0 - (2 : Int64))), .second, .val (.int (1 : Int32)), .val (.int (1 : Int32)), .unset, .unset, .unset, .unset, .unset, .unset, .unset] [(.ref b66)])
        refine G_dup X66 hx (pc' := 48) rfl (hb hby at_47) rfl ?_
        obtain ⟨_, _, ⟨T67, L67, k67, n67⟩, -, X67, ⟨Lc67, hQ67, l67, y67, z67⟩, st67⟩ := X66.specialBack hx (y := (⟨"com/example/fencing/fencing/protocol/LamportClock", "<init>", "()V"⟩ : MethodName)) rfl hown (mvT hZ (hw _ (List.mem_of_getElem? (i := 4) rfl))) (mvT hZ (hw _ (List.mem_of_getElem? (i := 5) rfl))) (mvT hZ (hw _ (List.mem_of_getElem? (i := 6) rfl))) (by decide) (backOf (W := 1) (rm_init l Z a0 hw [] b66 h66 n0 Z_66 A66) hZ (hw _ (List.mem_of_getElem? (i := 6) rfl)) (hw _ (List.mem_of_getElem? (i := 3) rfl)) (by decide) (by decide)) (g := (mkF m 48 #[.val (.long v0), .second, .val (.int v1), .val (.long (v0 - (2 : Int64))), .second, .val (.int (1 : Int32)), .val (.int (1 : Int32)), .unset, .unset, .unset, .unset, .unset, .unset, .unset] [(.ref b66), (.ref b66)])) rfl (by rw [hml]; rfl) (Steps.refl _) (a := b66) (argsL := []) (rest := [(.ref b66)]) (lenOf pd_1 rfl) rfl (by show 2 * 0 + _ ≤ _; exact Nat.le_of_eq rfl) (hb hby at_48) (fun _ _ => ⟨rfl, e66, (by decide : 1 + 0 ≤ _), (by decide : 1 + 0 ≤ _)⟩)
        dsimp only [Pt.U, Pt.locs, Pt.cells, Pt.slots] at X67 l67 y67 z67 st67 hQ67
        subst l67 y67 z67
        obtain ⟨rfl, N67q, e67⟩ := hQ67
        have N67 := Fr.app N0 N67q
        refine Go.st (fun _ k => st67.trans k) ?_
        show Go p e below s _ _ _ T67 (mkF m 51 #[.val (.long v0), .second, .val (.int v1), .val (.long (v0 - (2 : Int64))), .second, .val (.int (1 : Int32)), .val (.int (1 : Int32)), .unset, .unset, .unset, .unset, .unset, .unset, .unset] [(.ref b66)])
        refine G_astore X67 hx (pc' := 53) rfl (hb hby at_51) rfl (L' := #[.val (.long v0), .second, .val (.int v1), .val (.long (v0 - (2 : Int64))), .second, .val (.int (1 : Int32)), .val (.int (1 : Int32)), .val (.ref b66), .unset, .unset, .unset, .unset, .unset, .unset]) rfl ?_
        refine G_lconst X67 hx (pc' := 54) rfl (hb hby at_53) (z := (0 : Int64)) rfl ?_
        refine G_lstore X67 hx (pc' := 56) rfl (hb hby at_54) (L' := #[.val (.long v0), .second, .val (.int v1), .val (.long (v0 - (2 : Int64))), .second, .val (.int (1 : Int32)), .val (.int (1 : Int32)), .val (.ref b66), .val (.long (0 : Int64)), .second, .unset, .unset, .unset, .unset]) rfl ?_
        refine G_iload X67 hx (pc' := 58) rfl (hb hby at_56) rfl ?_
        refine G_ifNo X67 hx (pc' := 61) rfl (hb hby at_58) ((if0 _ _).trans (feq (by decide : ¬ ((1 : Int32) = (0 : Int32)))).1) ?_
        refine G_aload X67 hx (pc' := 63) rfl (hb hby at_61) rfl rfl ?_
        refine G_lloadN X67 hx (pc' := 64) rfl (hb hby at_63) rfl ?_
        obtain ⟨cq68, kq68, q68a, q68b, q68c⟩ := isOf hZ e67 A66
        obtain ⟨_, _, ⟨T68, L68, k68, n68⟩, -, X68, ⟨Lc68, hQ68, l68, y68, z68⟩, st68⟩ := X67.virtualBack hx (y := (⟨"com/example/fencing/fencing/protocol/LamportClock", "receive", "(J)V"⟩ : MethodName)) (z := (⟨"com/example/fencing/fencing/protocol/LamportClock", "receive", "(J)V"⟩ : MethodName)) hown (mvT hZ (hw _ (List.mem_of_getElem? (i := 28) rfl))) (mvT hZ (hw _ (List.mem_of_getElem? (i := 29) rfl))) (notFace_of_selects (args := #[]) (mvT hZ (hw _ (List.mem_of_getElem? (i := 31) rfl)))) (mvT hZ (hw _ (List.mem_of_getElem? (i := 31) rfl))) (mvT hZ (hw _ (List.mem_of_getElem? (i := 30) rfl))) (by decide) (backOf (W := 0) (rm_recv l Z a0 hw [] b66 (v0 - (2 : Int64)) (0 : Int64) h66 n0 Z_66 A66 F_b66_time g_b66 (by first | exact own_rec1 (by assumption) | exact own_rec2 (by assumption))) hZ (hw _ (List.mem_of_getElem? (i := 32) rfl)) (hw _ (List.mem_of_getElem? (i := 3) rfl)) (by decide) (by decide)) q68a q68c (g := (mkF m 64 #[.val (.long v0), .second, .val (.int v1), .val (.long (v0 - (2 : Int64))), .second, .val (.int (1 : Int32)), .val (.int (1 : Int32)), .val (.ref b66), .val (.long (0 : Int64)), .second, .unset, .unset, .unset, .unset] [(.long (v0 - (2 : Int64))), (.ref b66)])) rfl (by rw [hml]; rfl) (Steps.refl _) (argsL := [(.long (v0 - (2 : Int64)))]) (rest := []) (lenOf pd_3 rfl) rfl (by show 2 * 0 + _ ≤ _; exact Nat.le_of_eq rfl) (hb hby at_64) (fun _ _ => ⟨rfl, e67, (by decide : 1 + 0 ≤ _), (by decide : 1 + 0 ≤ _)⟩)
        dsimp only [Pt.U, Pt.locs, Pt.cells, Pt.slots] at X68 l68 y68 z68 st68 hQ68
        subst l68 y68 z68
        obtain ⟨rfl, N68q, K68, p68_0, p68_1⟩ := hQ68
        have N68 := Fr.app N67 N68q
        refine Go.st (fun _ k => st68.trans k) ?_
        have K_68 : Keep h0 T68.heap [] := K_66.trans K68 (allS (Or.inr sz_b66) all0)
        have Z_68 : n0 ≤ T68.heap.size := Nat.le_trans Z0 K_68.1
        show Go p e below s _ _ _ T68 (mkF m 67 #[.val (.long v0), .second, .val (.int v1), .val (.long (v0 - (2 : Int64))), .second, .val (.int (1 : Int32)), .val (.int (1 : Int32)), .val (.ref b66), .val (.long (0 : Int64)), .second, .unset, .unset, .unset, .unset] [])
        refine G_lloadN X68 hx (pc' := 68) rfl (hb hby at_67) rfl ?_
        refine G_lconst X68 hx (pc' := 69) rfl (hb hby at_68) (z := (0 : Int64)) rfl ?_
        refine G_lcmp X68 hx (pc' := 70) rfl (hb hby at_69)  ?_
        by_cases hc70_31 : (0 : Int64) < (v0 - (2 : Int64))
        · refine G_ifNo X68 hx (pc' := 73) rfl (hb hby at_70) ((if0 _ _).trans (tlt ((lw_gt _ _).2 hc70_31)).2.2.2) ?_
          refine G_lloadN X68 hx (pc' := 74) rfl (hb hby at_73) rfl ?_
          refine G_goto X68 hx (pc' := 78) (hb hby at_74)  (by decide) (by decide) ?_
          refine G_lconst X68 hx (pc' := 79) rfl (hb hby at_78) (z := (1 : Int64)) rfl ?_
          refine G_ladd X68 hx (pc' := 80) rfl (hb hby at_79)  ?_
          refine G_lstore X68 hx (pc' := 82) rfl (hb hby at_80) (L' := #[.val (.long v0), .second, .val (.int v1), .val (.long (v0 - (2 : Int64))), .second, .val (.int (1 : Int32)), .val (.int (1 : Int32)), .val (.ref b66), .val (.long ((v0 - (2 : Int64)) + (1 : Int64))), .second, .unset, .unset, .unset, .unset]) rfl ?_
          refine G_aload X68 hx (pc' := 84) rfl (hb hby at_82) rfl rfl ?_
          obtain ⟨cq69, kq69, q69a, q69b, q69c⟩ := isOf hZ rfl p68_0
          obtain ⟨_, _, ⟨T69, L69, k69, n69⟩, -, X69, ⟨Lc69, hQ69, l69, y69, z69⟩, st69⟩ := X68.virtualBack hx (y := (⟨"com/example/fencing/fencing/protocol/LamportClock", "time", "()J"⟩ : MethodName)) (z := (⟨"com/example/fencing/fencing/protocol/LamportClock", "time", "()J"⟩ : MethodName)) hown (mvT hZ (hw _ (List.mem_of_getElem? (i := 10) rfl))) (mvT hZ (hw _ (List.mem_of_getElem? (i := 11) rfl))) (notFace_of_selects (args := #[]) (mvT hZ (hw _ (List.mem_of_getElem? (i := 13) rfl)))) (mvT hZ (hw _ (List.mem_of_getElem? (i := 13) rfl))) (mvT hZ (hw _ (List.mem_of_getElem? (i := 12) rfl))) (by decide) (backOf (W := 0) (rm_time l Z a0 hw [] b66 ((f_max (0 : Int64) (v0 - (2 : Int64))) + (1 : Int64)) T68.heap n0 Z_68 p68_1) hZ (hw _ (List.mem_of_getElem? (i := 14) rfl)) (hw _ (List.mem_of_getElem? (i := 3) rfl)) (by decide) (by decide)) q69a q69c (g := (mkF m 84 #[.val (.long v0), .second, .val (.int v1), .val (.long (v0 - (2 : Int64))), .second, .val (.int (1 : Int32)), .val (.int (1 : Int32)), .val (.ref b66), .val (.long ((v0 - (2 : Int64)) + (1 : Int64))), .second, .unset, .unset, .unset, .unset] [(.ref b66)])) rfl (by rw [hml]; rfl) (Steps.refl _) (argsL := []) (rest := []) (lenOf pd_2 rfl) rfl (by show 2 * 0 + _ ≤ _; exact Nat.le_of_eq rfl) (hb hby at_84) (fun _ _ => ⟨rfl, rfl, (by decide : 1 + 0 ≤ _), (by decide : 1 + 0 ≤ _)⟩)
          dsimp only [Pt.U, Pt.locs, Pt.cells, Pt.slots] at X69 l69 y69 z69 st69 hQ69
          subst l69 y69 z69
          obtain ⟨rfl, N69q, e69⟩ := hQ69
          have N69 := Fr.app N68 N69q
          refine Go.st (fun _ k => st69.trans k) ?_
          show Go p e below s _ _ _ T69 (mkF m 87 #[.val (.long v0), .second, .val (.int v1), .val (.long (v0 - (2 : Int64))), .second, .val (.int (1 : Int32)), .val (.int (1 : Int32)), .val (.ref b66), .val (.long ((v0 - (2 : Int64)) + (1 : Int64))), .second, .unset, .unset, .unset, .unset] [(.long ((f_max (0 : Int64) (v0 - (2 : Int64))) + (1 : Int64)))])
          refine G_lload X69 hx (pc' := 89) rfl (hb hby at_87) rfl ?_
          refine G_lcmp X69 hx (pc' := 90) rfl (hb hby at_89)  ?_
          by_cases hc90_32 : ((f_max (0 : Int64) (v0 - (2 : Int64))) + (1 : Int64)) = ((v0 - (2 : Int64)) + (1 : Int64))
          · refine G_ifYes X69 hx (pc' := 95) (hb hby at_90) ((if0 _ _).trans (teq ((lw_eq _ _).2 hc90_32)).1) (by decide) (by decide) ?_
            refine G_aload X69 hx (pc' := 97) rfl (hb hby at_95) rfl rfl ?_
            obtain ⟨cq70, kq70, q70a, q70b, q70c⟩ := isOf hZ e69 p68_0
            obtain ⟨_, _, ⟨T70, L70, k70, n70⟩, -, X70, ⟨Lc70, hQ70, l70, y70, z70⟩, st70⟩ := X69.virtualBack hx (y := (⟨"com/example/fencing/fencing/protocol/LamportClock", "tick", "()J"⟩ : MethodName)) (z := (⟨"com/example/fencing/fencing/protocol/LamportClock", "tick", "()J"⟩ : MethodName)) hown (mvT hZ (hw _ (List.mem_of_getElem? (i := 17) rfl))) (mvT hZ (hw _ (List.mem_of_getElem? (i := 18) rfl))) (notFace_of_selects (args := #[]) (mvT hZ (hw _ (List.mem_of_getElem? (i := 20) rfl)))) (mvT hZ (hw _ (List.mem_of_getElem? (i := 20) rfl))) (mvT hZ (hw _ (List.mem_of_getElem? (i := 19) rfl))) (by decide) (backOf (W := 0) (rm_tick l Z a0 hw [] b66 ((f_max (0 : Int64) (v0 - (2 : Int64))) + (1 : Int64)) T68.heap n0 Z_68 p68_0 p68_1 g_b66 (by first | decide | exact own_tk1 (by assumption) | exact own_tk2 (by assumption))) hZ (hw _ (List.mem_of_getElem? (i := 21) rfl)) (hw _ (List.mem_of_getElem? (i := 3) rfl)) (by decide) (by decide)) q70a q70c (g := (mkF m 97 #[.val (.long v0), .second, .val (.int v1), .val (.long (v0 - (2 : Int64))), .second, .val (.int (1 : Int32)), .val (.int (1 : Int32)), .val (.ref b66), .val (.long ((v0 - (2 : Int64)) + (1 : Int64))), .second, .unset, .unset, .unset, .unset] [(.ref b66)])) rfl (by rw [hml]; rfl) (Steps.refl _) (argsL := []) (rest := []) (lenOf pd_2 rfl) rfl (by show 2 * 0 + _ ≤ _; exact Nat.le_of_eq rfl) (hb hby at_97) (fun _ _ => ⟨rfl, e69, (by decide : 1 + 0 ≤ _), (by decide : 1 + 0 ≤ _)⟩)
            dsimp only [Pt.U, Pt.locs, Pt.cells, Pt.slots] at X70 l70 y70 z70 st70 hQ70
            subst l70 y70 z70
            obtain ⟨rfl, N70q, K70, p70_0, p70_1⟩ := hQ70
            have N70 := Fr.app N69 N70q
            refine Go.st (fun _ k => st70.trans k) ?_
            have K_70 : Keep h0 T70.heap [] := K_68.trans K70 (allS (Or.inr sz_b66) all0)
            have Z_70 : n0 ≤ T70.heap.size := Nat.le_trans Z0 K_70.1
            show Go p e below s _ _ _ T70 (mkF m 100 #[.val (.long v0), .second, .val (.int v1), .val (.long (v0 - (2 : Int64))), .second, .val (.int (1 : Int32)), .val (.int (1 : Int32)), .val (.ref b66), .val (.long ((v0 - (2 : Int64)) + (1 : Int64))), .second, .unset, .unset, .unset, .unset] [(.long (((f_max (0 : Int64) (v0 - (2 : Int64))) + (1 : Int64)) + (1 : Int64)))])
            refine G_lstore X70 hx (pc' := 102) rfl (hb hby at_100) (L' := #[.val (.long v0), .second, .val (.int v1), .val (.long (v0 - (2 : Int64))), .second, .val (.int (1 : Int32)), .val (.int (1 : Int32)), .val (.ref b66), .val (.long ((v0 - (2 : Int64)) + (1 : Int64))), .second, .val (.long (((f_max (0 : Int64) (v0 - (2 : Int64))) + (1 : Int64)) + (1 : Int64))), .second, .unset, .unset]) rfl ?_
            refine G_lload X70 hx (pc' := 104) rfl (hb hby at_102) rfl ?_
            refine G_lload X70 hx (pc' := 106) rfl (hb hby at_104) rfl ?_
            refine G_lconst X70 hx (pc' := 107) rfl (hb hby at_106) (z := (1 : Int64)) rfl ?_
            refine G_ladd X70 hx (pc' := 108) rfl (hb hby at_107)  ?_
            refine G_lcmp X70 hx (pc' := 109) rfl (hb hby at_108)  ?_
            by_cases hc109_33 : (((f_max (0 : Int64) (v0 - (2 : Int64))) + (1 : Int64)) + (1 : Int64)) = (((v0 - (2 : Int64)) + (1 : Int64)) + (1 : Int64))
            · refine G_ifNo X70 hx (pc' := 112) rfl (hb hby at_109) ((if0 _ _).trans (teq ((lw_eq _ _).2 hc109_33)).2) ?_
              refine G_aload X70 hx (pc' := 114) rfl (hb hby at_112) rfl rfl ?_
              obtain ⟨cq71, kq71, q71a, q71b, q71c⟩ := isOf hZ rfl p70_0
              obtain ⟨_, _, ⟨T71, L71, k71, n71⟩, -, X71, ⟨Lc71, hQ71, l71, y71, z71⟩, st71⟩ := X70.virtualBack hx (y := (⟨"com/example/fencing/fencing/protocol/LamportClock", "time", "()J"⟩ : MethodName)) (z := (⟨"com/example/fencing/fencing/protocol/LamportClock", "time", "()J"⟩ : MethodName)) hown (mvT hZ (hw _ (List.mem_of_getElem? (i := 10) rfl))) (mvT hZ (hw _ (List.mem_of_getElem? (i := 11) rfl))) (notFace_of_selects (args := #[]) (mvT hZ (hw _ (List.mem_of_getElem? (i := 13) rfl)))) (mvT hZ (hw _ (List.mem_of_getElem? (i := 13) rfl))) (mvT hZ (hw _ (List.mem_of_getElem? (i := 12) rfl))) (by decide) (backOf (W := 0) (rm_time l Z a0 hw [] b66 (((f_max (0 : Int64) (v0 - (2 : Int64))) + (1 : Int64)) + (1 : Int64)) T70.heap n0 Z_70 p70_1) hZ (hw _ (List.mem_of_getElem? (i := 14) rfl)) (hw _ (List.mem_of_getElem? (i := 3) rfl)) (by decide) (by decide)) q71a q71c (g := (mkF m 114 #[.val (.long v0), .second, .val (.int v1), .val (.long (v0 - (2 : Int64))), .second, .val (.int (1 : Int32)), .val (.int (1 : Int32)), .val (.ref b66), .val (.long ((v0 - (2 : Int64)) + (1 : Int64))), .second, .val (.long (((f_max (0 : Int64) (v0 - (2 : Int64))) + (1 : Int64)) + (1 : Int64))), .second, .unset, .unset] [(.ref b66)])) rfl (by rw [hml]; rfl) (Steps.refl _) (argsL := []) (rest := []) (lenOf pd_2 rfl) rfl (by show 2 * 0 + _ ≤ _; exact Nat.le_of_eq rfl) (hb hby at_114) (fun _ _ => ⟨rfl, rfl, (by decide : 1 + 0 ≤ _), (by decide : 1 + 0 ≤ _)⟩)
              dsimp only [Pt.U, Pt.locs, Pt.cells, Pt.slots] at X71 l71 y71 z71 st71 hQ71
              subst l71 y71 z71
              obtain ⟨rfl, N71q, e71⟩ := hQ71
              have N71 := Fr.app N70 N71q
              refine Go.st (fun _ k => st71.trans k) ?_
              show Go p e below s _ _ _ T71 (mkF m 117 #[.val (.long v0), .second, .val (.int v1), .val (.long (v0 - (2 : Int64))), .second, .val (.int (1 : Int32)), .val (.int (1 : Int32)), .val (.ref b66), .val (.long ((v0 - (2 : Int64)) + (1 : Int64))), .second, .val (.long (((f_max (0 : Int64) (v0 - (2 : Int64))) + (1 : Int64)) + (1 : Int64))), .second, .unset, .unset] [(.long (((f_max (0 : Int64) (v0 - (2 : Int64))) + (1 : Int64)) + (1 : Int64)))])
              refine G_lload X71 hx (pc' := 119) rfl (hb hby at_117) rfl ?_
              refine G_lconst X71 hx (pc' := 120) rfl (hb hby at_119) (z := (1 : Int64)) rfl ?_
              refine G_ladd X71 hx (pc' := 121) rfl (hb hby at_120)  ?_
              refine G_lcmp X71 hx (pc' := 122) rfl (hb hby at_121)  ?_
              refine G_ifYes X71 hx (pc' := 127) (hb hby at_122) ((if0 _ _).trans (teq ((lw_eq _ _).2 hc109_33)).1) (by decide) (by decide) ?_
              refine G_iload X71 hx (pc' := 129) rfl (hb hby at_127) rfl ?_
              refine G_ifNo X71 hx (pc' := 132) rfl (hb hby at_129) ((if0 _ _).trans (feq (by decide : ¬ ((1 : Int32) = (0 : Int32)))).1) ?_
              refine G_lload X71 hx (pc' := 134) rfl (hb hby at_132) rfl ?_
              refine G_ldc2 X71 hx (pc' := 137) rfl hown (mvT hZ (hw _ (List.mem_of_getElem? (i := 26) rfl))) (hb hby at_134) ?_
              refine G_lcmp X71 hx (pc' := 138) rfl (hb hby at_137)  ?_
              by_cases hc138_34 : (((f_max (0 : Int64) (v0 - (2 : Int64))) + (1 : Int64)) + (1 : Int64)) = (9223372036854775807 : Int64)
              · refine G_ifYes X71 hx (pc' := 177) (hb hby at_138) ((if0 _ _).trans (teq ((lw_eq _ _).2 hc138_34)).1) (by decide) (by decide) ?_
                refine G_iconst X71 hx (pc' := 178) rfl (hb hby at_177) (z := (1 : Int32)) rfl ?_
                refine Go.fin X71 hlk (v := some (.int (1 : Int32))) (fun h => by rw [Bd.returns] at h; cases h) (by decide) (by decide) ?_ (fun fs hr => retN X71 hx (t := .boolean) Bd.returns (by simp) (hb hby at_178) hr)
                show Q_law Z v0 v1 h0 n0 _ T71.heap _
                rw [e71]
                exact ⟨congrArg (fun z => some (Value.int z)) (by rw [f_law]; rw [if_neg hc5_1, if_neg hc21_21, if_neg hc34_25, if_pos hc70_31, if_pos hc90_32, if_pos hc109_33, if_pos hc138_34]), N71⟩
              · refine G_ifNo X71 hx (pc' := 141) rfl (hb hby at_138) ((if0 _ _).trans (feq (fun q => hc138_34 ((lw_eq _ _).1 q))).1) ?_
                refine G_aload X71 hx (pc' := 143) rfl (hb hby at_141) rfl rfl ?_
                obtain ⟨cq72, kq72, q72a, q72b, q72c⟩ := isOf hZ e71 p70_0
                obtain ⟨_, _, ⟨T72, L72, k72, n72⟩, -, X72, ⟨Lc72, hQ72, l72, y72, z72⟩, st72⟩ := X71.virtualBack hx (y := (⟨"com/example/fencing/fencing/protocol/LamportClock", "tick", "()J"⟩ : MethodName)) (z := (⟨"com/example/fencing/fencing/protocol/LamportClock", "tick", "()J"⟩ : MethodName)) hown (mvT hZ (hw _ (List.mem_of_getElem? (i := 17) rfl))) (mvT hZ (hw _ (List.mem_of_getElem? (i := 18) rfl))) (notFace_of_selects (args := #[]) (mvT hZ (hw _ (List.mem_of_getElem? (i := 20) rfl)))) (mvT hZ (hw _ (List.mem_of_getElem? (i := 20) rfl))) (mvT hZ (hw _ (List.mem_of_getElem? (i := 19) rfl))) (by decide) (backOf (W := 0) (rm_tick l Z a0 hw [] b66 (((f_max (0 : Int64) (v0 - (2 : Int64))) + (1 : Int64)) + (1 : Int64)) T70.heap n0 Z_70 p70_0 p70_1 g_b66 (by first | decide | assumption)) hZ (hw _ (List.mem_of_getElem? (i := 21) rfl)) (hw _ (List.mem_of_getElem? (i := 3) rfl)) (by decide) (by decide)) q72a q72c (g := (mkF m 143 #[.val (.long v0), .second, .val (.int v1), .val (.long (v0 - (2 : Int64))), .second, .val (.int (1 : Int32)), .val (.int (1 : Int32)), .val (.ref b66), .val (.long ((v0 - (2 : Int64)) + (1 : Int64))), .second, .val (.long (((f_max (0 : Int64) (v0 - (2 : Int64))) + (1 : Int64)) + (1 : Int64))), .second, .unset, .unset] [(.ref b66)])) rfl (by rw [hml]; rfl) (Steps.refl _) (argsL := []) (rest := []) (lenOf pd_2 rfl) rfl (by show 2 * 0 + _ ≤ _; exact Nat.le_of_eq rfl) (hb hby at_143) (fun _ _ => ⟨rfl, e71, (by decide : 1 + 0 ≤ _), (by decide : 1 + 0 ≤ _)⟩)
                dsimp only [Pt.U, Pt.locs, Pt.cells, Pt.slots] at X72 l72 y72 z72 st72 hQ72
                subst l72 y72 z72
                obtain ⟨rfl, N72q, K72, p72_0, p72_1⟩ := hQ72
                have N72 := Fr.app N71 N72q
                refine Go.st (fun _ k => st72.trans k) ?_
                have K_72 : Keep h0 T72.heap [] := K_70.trans K72 (allS (Or.inr sz_b66) all0)
                have Z_72 : n0 ≤ T72.heap.size := Nat.le_trans Z0 K_72.1
                show Go p e below s _ _ _ T72 (mkF m 146 #[.val (.long v0), .second, .val (.int v1), .val (.long (v0 - (2 : Int64))), .second, .val (.int (1 : Int32)), .val (.int (1 : Int32)), .val (.ref b66), .val (.long ((v0 - (2 : Int64)) + (1 : Int64))), .second, .val (.long (((f_max (0 : Int64) (v0 - (2 : Int64))) + (1 : Int64)) + (1 : Int64))), .second, .unset, .unset] [(.long ((((f_max (0 : Int64) (v0 - (2 : Int64))) + (1 : Int64)) + (1 : Int64)) + (1 : Int64)))])
                refine G_lstore X72 hx (pc' := 148) rfl (hb hby at_146) (L' := #[.val (.long v0), .second, .val (.int v1), .val (.long (v0 - (2 : Int64))), .second, .val (.int (1 : Int32)), .val (.int (1 : Int32)), .val (.ref b66), .val (.long ((v0 - (2 : Int64)) + (1 : Int64))), .second, .val (.long (((f_max (0 : Int64) (v0 - (2 : Int64))) + (1 : Int64)) + (1 : Int64))), .second, .val (.long ((((f_max (0 : Int64) (v0 - (2 : Int64))) + (1 : Int64)) + (1 : Int64)) + (1 : Int64))), .second]) rfl ?_
                refine G_lload X72 hx (pc' := 150) rfl (hb hby at_148) rfl ?_
                refine G_lload X72 hx (pc' := 152) rfl (hb hby at_150) rfl ?_
                refine G_ldc2 X72 hx (pc' := 155) rfl hown (mvT hZ (hw _ (List.mem_of_getElem? (i := 27) rfl))) (hb hby at_152) ?_
                refine G_ladd X72 hx (pc' := 156) rfl (hb hby at_155)  ?_
                refine G_lcmp X72 hx (pc' := 157) rfl (hb hby at_156)  ?_
                by_cases hc157_35 : ((((f_max (0 : Int64) (v0 - (2 : Int64))) + (1 : Int64)) + (1 : Int64)) + (1 : Int64)) = (((v0 - (2 : Int64)) + (1 : Int64)) + (2 : Int64))
                · refine G_ifNo X72 hx (pc' := 160) rfl (hb hby at_157) ((if0 _ _).trans (teq ((lw_eq _ _).2 hc157_35)).2) ?_
                  refine G_aload X72 hx (pc' := 162) rfl (hb hby at_160) rfl rfl ?_
                  obtain ⟨cq73, kq73, q73a, q73b, q73c⟩ := isOf hZ rfl p72_0
                  obtain ⟨_, _, ⟨T73, L73, k73, n73⟩, -, X73, ⟨Lc73, hQ73, l73, y73, z73⟩, st73⟩ := X72.virtualBack hx (y := (⟨"com/example/fencing/fencing/protocol/LamportClock", "time", "()J"⟩ : MethodName)) (z := (⟨"com/example/fencing/fencing/protocol/LamportClock", "time", "()J"⟩ : MethodName)) hown (mvT hZ (hw _ (List.mem_of_getElem? (i := 10) rfl))) (mvT hZ (hw _ (List.mem_of_getElem? (i := 11) rfl))) (notFace_of_selects (args := #[]) (mvT hZ (hw _ (List.mem_of_getElem? (i := 13) rfl)))) (mvT hZ (hw _ (List.mem_of_getElem? (i := 13) rfl))) (mvT hZ (hw _ (List.mem_of_getElem? (i := 12) rfl))) (by decide) (backOf (W := 0) (rm_time l Z a0 hw [] b66 ((((f_max (0 : Int64) (v0 - (2 : Int64))) + (1 : Int64)) + (1 : Int64)) + (1 : Int64)) T72.heap n0 Z_72 p72_1) hZ (hw _ (List.mem_of_getElem? (i := 14) rfl)) (hw _ (List.mem_of_getElem? (i := 3) rfl)) (by decide) (by decide)) q73a q73c (g := (mkF m 162 #[.val (.long v0), .second, .val (.int v1), .val (.long (v0 - (2 : Int64))), .second, .val (.int (1 : Int32)), .val (.int (1 : Int32)), .val (.ref b66), .val (.long ((v0 - (2 : Int64)) + (1 : Int64))), .second, .val (.long (((f_max (0 : Int64) (v0 - (2 : Int64))) + (1 : Int64)) + (1 : Int64))), .second, .val (.long ((((f_max (0 : Int64) (v0 - (2 : Int64))) + (1 : Int64)) + (1 : Int64)) + (1 : Int64))), .second] [(.ref b66)])) rfl (by rw [hml]; rfl) (Steps.refl _) (argsL := []) (rest := []) (lenOf pd_2 rfl) rfl (by show 2 * 0 + _ ≤ _; exact Nat.le_of_eq rfl) (hb hby at_162) (fun _ _ => ⟨rfl, rfl, (by decide : 1 + 0 ≤ _), (by decide : 1 + 0 ≤ _)⟩)
                  dsimp only [Pt.U, Pt.locs, Pt.cells, Pt.slots] at X73 l73 y73 z73 st73 hQ73
                  subst l73 y73 z73
                  obtain ⟨rfl, N73q, e73⟩ := hQ73
                  have N73 := Fr.app N72 N73q
                  refine Go.st (fun _ k => st73.trans k) ?_
                  show Go p e below s _ _ _ T73 (mkF m 165 #[.val (.long v0), .second, .val (.int v1), .val (.long (v0 - (2 : Int64))), .second, .val (.int (1 : Int32)), .val (.int (1 : Int32)), .val (.ref b66), .val (.long ((v0 - (2 : Int64)) + (1 : Int64))), .second, .val (.long (((f_max (0 : Int64) (v0 - (2 : Int64))) + (1 : Int64)) + (1 : Int64))), .second, .val (.long ((((f_max (0 : Int64) (v0 - (2 : Int64))) + (1 : Int64)) + (1 : Int64)) + (1 : Int64))), .second] [(.long ((((f_max (0 : Int64) (v0 - (2 : Int64))) + (1 : Int64)) + (1 : Int64)) + (1 : Int64)))])
                  refine G_lload X73 hx (pc' := 167) rfl (hb hby at_165) rfl ?_
                  refine G_ldc2 X73 hx (pc' := 170) rfl hown (mvT hZ (hw _ (List.mem_of_getElem? (i := 27) rfl))) (hb hby at_167) ?_
                  refine G_ladd X73 hx (pc' := 171) rfl (hb hby at_170)  ?_
                  refine G_lcmp X73 hx (pc' := 172) rfl (hb hby at_171)  ?_
                  refine G_ifYes X73 hx (pc' := 177) (hb hby at_172) ((if0 _ _).trans (teq ((lw_eq _ _).2 hc157_35)).1) (by decide) (by decide) ?_
                  refine G_iconst X73 hx (pc' := 178) rfl (hb hby at_177) (z := (1 : Int32)) rfl ?_
                  refine Go.fin X73 hlk (v := some (.int (1 : Int32))) (fun h => by rw [Bd.returns] at h; cases h) (by decide) (by decide) ?_ (fun fs hr => retN X73 hx (t := .boolean) Bd.returns (by simp) (hb hby at_178) hr)
                  show Q_law Z v0 v1 h0 n0 _ T73.heap _
                  rw [e73]
                  exact ⟨congrArg (fun z => some (Value.int z)) (by rw [f_law]; rw [if_neg hc5_1, if_neg hc21_21, if_neg hc34_25, if_pos hc70_31, if_pos hc90_32, if_pos hc109_33, if_neg hc138_34, if_pos hc157_35]), N73⟩
                · refine G_ifYes X72 hx (pc' := 175) (hb hby at_157) ((if0 _ _).trans (feq (fun q => hc157_35 ((lw_eq _ _).1 q))).2) (by decide) (by decide) ?_
                  refine G_iconst X72 hx (pc' := 176) rfl (hb hby at_175) (z := (0 : Int32)) rfl ?_
                  refine Go.fin X72 hlk (v := some (.int (0 : Int32))) (fun h => by rw [Bd.returns] at h; cases h) (by decide) (by decide) ?_ (fun fs hr => retN X72 hx (t := .boolean) Bd.returns (by simp) (hb hby at_176) hr)
                  show Q_law Z v0 v1 h0 n0 _ T72.heap _
                  exact ⟨congrArg (fun z => some (Value.int z)) (by rw [f_law]; rw [if_neg hc5_1, if_neg hc21_21, if_neg hc34_25, if_pos hc70_31, if_pos hc90_32, if_pos hc109_33, if_neg hc138_34, if_neg hc157_35]), N72⟩
            · refine G_ifYes X70 hx (pc' := 125) (hb hby at_109) ((if0 _ _).trans (feq (fun q => hc109_33 ((lw_eq _ _).1 q))).2) (by decide) (by decide) ?_
              refine G_iconst X70 hx (pc' := 126) rfl (hb hby at_125) (z := (0 : Int32)) rfl ?_
              refine Go.fin X70 hlk (v := some (.int (0 : Int32))) (fun h => by rw [Bd.returns] at h; cases h) (by decide) (by decide) ?_ (fun fs hr => retN X70 hx (t := .boolean) Bd.returns (by simp) (hb hby at_126) hr)
              show Q_law Z v0 v1 h0 n0 _ T70.heap _
              exact ⟨congrArg (fun z => some (Value.int z)) (by rw [f_law]; rw [if_neg hc5_1, if_neg hc21_21, if_neg hc34_25, if_pos hc70_31, if_pos hc90_32, if_neg hc109_33]), N70⟩
          · refine G_ifNo X69 hx (pc' := 93) rfl (hb hby at_90) ((if0 _ _).trans (feq (fun q => hc90_32 ((lw_eq _ _).1 q))).1) ?_
            refine G_iconst X69 hx (pc' := 94) rfl (hb hby at_93) (z := (0 : Int32)) rfl ?_
            refine Go.fin X69 hlk (v := some (.int (0 : Int32))) (fun h => by rw [Bd.returns] at h; cases h) (by decide) (by decide) ?_ (fun fs hr => retN X69 hx (t := .boolean) Bd.returns (by simp) (hb hby at_94) hr)
            show Q_law Z v0 v1 h0 n0 _ T69.heap _
            rw [e69]
            exact ⟨congrArg (fun z => some (Value.int z)) (by rw [f_law]; rw [if_neg hc5_1, if_neg hc21_21, if_neg hc34_25, if_pos hc70_31, if_neg hc90_32]), N69⟩
        · refine G_ifYes X68 hx (pc' := 77) (hb hby at_70) ((if0 _ _).trans (flt (fun q => hc70_31 ((lw_gt _ _).1 q))).2.2.2) (by decide) (by decide) ?_
          refine G_lconst X68 hx (pc' := 78) rfl (hb hby at_77) (z := (0 : Int64)) rfl ?_
          refine G_lconst X68 hx (pc' := 79) rfl (hb hby at_78) (z := (1 : Int64)) rfl ?_
          refine G_ladd X68 hx (pc' := 80) rfl (hb hby at_79)  ?_
          refine G_lstore X68 hx (pc' := 82) rfl (hb hby at_80) (L' := #[.val (.long v0), .second, .val (.int v1), .val (.long (v0 - (2 : Int64))), .second, .val (.int (1 : Int32)), .val (.int (1 : Int32)), .val (.ref b66), .val (.long ((0 : Int64) + (1 : Int64))), .second, .unset, .unset, .unset, .unset]) rfl ?_
          refine G_aload X68 hx (pc' := 84) rfl (hb hby at_82) rfl rfl ?_
          obtain ⟨cq74, kq74, q74a, q74b, q74c⟩ := isOf hZ rfl p68_0
          obtain ⟨_, _, ⟨T74, L74, k74, n74⟩, -, X74, ⟨Lc74, hQ74, l74, y74, z74⟩, st74⟩ := X68.virtualBack hx (y := (⟨"com/example/fencing/fencing/protocol/LamportClock", "time", "()J"⟩ : MethodName)) (z := (⟨"com/example/fencing/fencing/protocol/LamportClock", "time", "()J"⟩ : MethodName)) hown (mvT hZ (hw _ (List.mem_of_getElem? (i := 10) rfl))) (mvT hZ (hw _ (List.mem_of_getElem? (i := 11) rfl))) (notFace_of_selects (args := #[]) (mvT hZ (hw _ (List.mem_of_getElem? (i := 13) rfl)))) (mvT hZ (hw _ (List.mem_of_getElem? (i := 13) rfl))) (mvT hZ (hw _ (List.mem_of_getElem? (i := 12) rfl))) (by decide) (backOf (W := 0) (rm_time l Z a0 hw [] b66 ((f_max (0 : Int64) (v0 - (2 : Int64))) + (1 : Int64)) T68.heap n0 Z_68 p68_1) hZ (hw _ (List.mem_of_getElem? (i := 14) rfl)) (hw _ (List.mem_of_getElem? (i := 3) rfl)) (by decide) (by decide)) q74a q74c (g := (mkF m 84 #[.val (.long v0), .second, .val (.int v1), .val (.long (v0 - (2 : Int64))), .second, .val (.int (1 : Int32)), .val (.int (1 : Int32)), .val (.ref b66), .val (.long ((0 : Int64) + (1 : Int64))), .second, .unset, .unset, .unset, .unset] [(.ref b66)])) rfl (by rw [hml]; rfl) (Steps.refl _) (argsL := []) (rest := []) (lenOf pd_2 rfl) rfl (by show 2 * 0 + _ ≤ _; exact Nat.le_of_eq rfl) (hb hby at_84) (fun _ _ => ⟨rfl, rfl, (by decide : 1 + 0 ≤ _), (by decide : 1 + 0 ≤ _)⟩)
          dsimp only [Pt.U, Pt.locs, Pt.cells, Pt.slots] at X74 l74 y74 z74 st74 hQ74
          subst l74 y74 z74
          obtain ⟨rfl, N74q, e74⟩ := hQ74
          have N74 := Fr.app N68 N74q
          refine Go.st (fun _ k => st74.trans k) ?_
          show Go p e below s _ _ _ T74 (mkF m 87 #[.val (.long v0), .second, .val (.int v1), .val (.long (v0 - (2 : Int64))), .second, .val (.int (1 : Int32)), .val (.int (1 : Int32)), .val (.ref b66), .val (.long ((0 : Int64) + (1 : Int64))), .second, .unset, .unset, .unset, .unset] [(.long ((f_max (0 : Int64) (v0 - (2 : Int64))) + (1 : Int64)))])
          refine G_lload X74 hx (pc' := 89) rfl (hb hby at_87) rfl ?_
          refine G_lcmp X74 hx (pc' := 90) rfl (hb hby at_89)  ?_
          by_cases hc90_36 : ((f_max (0 : Int64) (v0 - (2 : Int64))) + (1 : Int64)) = ((0 : Int64) + (1 : Int64))
          · refine G_ifYes X74 hx (pc' := 95) (hb hby at_90) ((if0 _ _).trans (teq ((lw_eq _ _).2 hc90_36)).1) (by decide) (by decide) ?_
            refine G_aload X74 hx (pc' := 97) rfl (hb hby at_95) rfl rfl ?_
            obtain ⟨cq75, kq75, q75a, q75b, q75c⟩ := isOf hZ e74 p68_0
            obtain ⟨_, _, ⟨T75, L75, k75, n75⟩, -, X75, ⟨Lc75, hQ75, l75, y75, z75⟩, st75⟩ := X74.virtualBack hx (y := (⟨"com/example/fencing/fencing/protocol/LamportClock", "tick", "()J"⟩ : MethodName)) (z := (⟨"com/example/fencing/fencing/protocol/LamportClock", "tick", "()J"⟩ : MethodName)) hown (mvT hZ (hw _ (List.mem_of_getElem? (i := 17) rfl))) (mvT hZ (hw _ (List.mem_of_getElem? (i := 18) rfl))) (notFace_of_selects (args := #[]) (mvT hZ (hw _ (List.mem_of_getElem? (i := 20) rfl)))) (mvT hZ (hw _ (List.mem_of_getElem? (i := 20) rfl))) (mvT hZ (hw _ (List.mem_of_getElem? (i := 19) rfl))) (by decide) (backOf (W := 0) (rm_tick l Z a0 hw [] b66 ((f_max (0 : Int64) (v0 - (2 : Int64))) + (1 : Int64)) T68.heap n0 Z_68 p68_0 p68_1 g_b66 (by first | decide | exact own_tk1 (by assumption) | exact own_tk2 (by assumption))) hZ (hw _ (List.mem_of_getElem? (i := 21) rfl)) (hw _ (List.mem_of_getElem? (i := 3) rfl)) (by decide) (by decide)) q75a q75c (g := (mkF m 97 #[.val (.long v0), .second, .val (.int v1), .val (.long (v0 - (2 : Int64))), .second, .val (.int (1 : Int32)), .val (.int (1 : Int32)), .val (.ref b66), .val (.long ((0 : Int64) + (1 : Int64))), .second, .unset, .unset, .unset, .unset] [(.ref b66)])) rfl (by rw [hml]; rfl) (Steps.refl _) (argsL := []) (rest := []) (lenOf pd_2 rfl) rfl (by show 2 * 0 + _ ≤ _; exact Nat.le_of_eq rfl) (hb hby at_97) (fun _ _ => ⟨rfl, e74, (by decide : 1 + 0 ≤ _), (by decide : 1 + 0 ≤ _)⟩)
            dsimp only [Pt.U, Pt.locs, Pt.cells, Pt.slots] at X75 l75 y75 z75 st75 hQ75
            subst l75 y75 z75
            obtain ⟨rfl, N75q, K75, p75_0, p75_1⟩ := hQ75
            have N75 := Fr.app N74 N75q
            refine Go.st (fun _ k => st75.trans k) ?_
            have K_75 : Keep h0 T75.heap [] := K_68.trans K75 (allS (Or.inr sz_b66) all0)
            have Z_75 : n0 ≤ T75.heap.size := Nat.le_trans Z0 K_75.1
            show Go p e below s _ _ _ T75 (mkF m 100 #[.val (.long v0), .second, .val (.int v1), .val (.long (v0 - (2 : Int64))), .second, .val (.int (1 : Int32)), .val (.int (1 : Int32)), .val (.ref b66), .val (.long ((0 : Int64) + (1 : Int64))), .second, .unset, .unset, .unset, .unset] [(.long (((f_max (0 : Int64) (v0 - (2 : Int64))) + (1 : Int64)) + (1 : Int64)))])
            refine G_lstore X75 hx (pc' := 102) rfl (hb hby at_100) (L' := #[.val (.long v0), .second, .val (.int v1), .val (.long (v0 - (2 : Int64))), .second, .val (.int (1 : Int32)), .val (.int (1 : Int32)), .val (.ref b66), .val (.long ((0 : Int64) + (1 : Int64))), .second, .val (.long (((f_max (0 : Int64) (v0 - (2 : Int64))) + (1 : Int64)) + (1 : Int64))), .second, .unset, .unset]) rfl ?_
            refine G_lload X75 hx (pc' := 104) rfl (hb hby at_102) rfl ?_
            refine G_lload X75 hx (pc' := 106) rfl (hb hby at_104) rfl ?_
            refine G_lconst X75 hx (pc' := 107) rfl (hb hby at_106) (z := (1 : Int64)) rfl ?_
            refine G_ladd X75 hx (pc' := 108) rfl (hb hby at_107)  ?_
            refine G_lcmp X75 hx (pc' := 109) rfl (hb hby at_108)  ?_
            by_cases hc109_37 : (((f_max (0 : Int64) (v0 - (2 : Int64))) + (1 : Int64)) + (1 : Int64)) = (((0 : Int64) + (1 : Int64)) + (1 : Int64))
            · refine G_ifNo X75 hx (pc' := 112) rfl (hb hby at_109) ((if0 _ _).trans (teq ((lw_eq _ _).2 hc109_37)).2) ?_
              refine G_aload X75 hx (pc' := 114) rfl (hb hby at_112) rfl rfl ?_
              obtain ⟨cq76, kq76, q76a, q76b, q76c⟩ := isOf hZ rfl p75_0
              obtain ⟨_, _, ⟨T76, L76, k76, n76⟩, -, X76, ⟨Lc76, hQ76, l76, y76, z76⟩, st76⟩ := X75.virtualBack hx (y := (⟨"com/example/fencing/fencing/protocol/LamportClock", "time", "()J"⟩ : MethodName)) (z := (⟨"com/example/fencing/fencing/protocol/LamportClock", "time", "()J"⟩ : MethodName)) hown (mvT hZ (hw _ (List.mem_of_getElem? (i := 10) rfl))) (mvT hZ (hw _ (List.mem_of_getElem? (i := 11) rfl))) (notFace_of_selects (args := #[]) (mvT hZ (hw _ (List.mem_of_getElem? (i := 13) rfl)))) (mvT hZ (hw _ (List.mem_of_getElem? (i := 13) rfl))) (mvT hZ (hw _ (List.mem_of_getElem? (i := 12) rfl))) (by decide) (backOf (W := 0) (rm_time l Z a0 hw [] b66 (((f_max (0 : Int64) (v0 - (2 : Int64))) + (1 : Int64)) + (1 : Int64)) T75.heap n0 Z_75 p75_1) hZ (hw _ (List.mem_of_getElem? (i := 14) rfl)) (hw _ (List.mem_of_getElem? (i := 3) rfl)) (by decide) (by decide)) q76a q76c (g := (mkF m 114 #[.val (.long v0), .second, .val (.int v1), .val (.long (v0 - (2 : Int64))), .second, .val (.int (1 : Int32)), .val (.int (1 : Int32)), .val (.ref b66), .val (.long ((0 : Int64) + (1 : Int64))), .second, .val (.long (((f_max (0 : Int64) (v0 - (2 : Int64))) + (1 : Int64)) + (1 : Int64))), .second, .unset, .unset] [(.ref b66)])) rfl (by rw [hml]; rfl) (Steps.refl _) (argsL := []) (rest := []) (lenOf pd_2 rfl) rfl (by show 2 * 0 + _ ≤ _; exact Nat.le_of_eq rfl) (hb hby at_114) (fun _ _ => ⟨rfl, rfl, (by decide : 1 + 0 ≤ _), (by decide : 1 + 0 ≤ _)⟩)
              dsimp only [Pt.U, Pt.locs, Pt.cells, Pt.slots] at X76 l76 y76 z76 st76 hQ76
              subst l76 y76 z76
              obtain ⟨rfl, N76q, e76⟩ := hQ76
              have N76 := Fr.app N75 N76q
              refine Go.st (fun _ k => st76.trans k) ?_
              show Go p e below s _ _ _ T76 (mkF m 117 #[.val (.long v0), .second, .val (.int v1), .val (.long (v0 - (2 : Int64))), .second, .val (.int (1 : Int32)), .val (.int (1 : Int32)), .val (.ref b66), .val (.long ((0 : Int64) + (1 : Int64))), .second, .val (.long (((f_max (0 : Int64) (v0 - (2 : Int64))) + (1 : Int64)) + (1 : Int64))), .second, .unset, .unset] [(.long (((f_max (0 : Int64) (v0 - (2 : Int64))) + (1 : Int64)) + (1 : Int64)))])
              refine G_lload X76 hx (pc' := 119) rfl (hb hby at_117) rfl ?_
              refine G_lconst X76 hx (pc' := 120) rfl (hb hby at_119) (z := (1 : Int64)) rfl ?_
              refine G_ladd X76 hx (pc' := 121) rfl (hb hby at_120)  ?_
              refine G_lcmp X76 hx (pc' := 122) rfl (hb hby at_121)  ?_
              refine G_ifYes X76 hx (pc' := 127) (hb hby at_122) ((if0 _ _).trans (teq ((lw_eq _ _).2 hc109_37)).1) (by decide) (by decide) ?_
              refine G_iload X76 hx (pc' := 129) rfl (hb hby at_127) rfl ?_
              refine G_ifNo X76 hx (pc' := 132) rfl (hb hby at_129) ((if0 _ _).trans (feq (by decide : ¬ ((1 : Int32) = (0 : Int32)))).1) ?_
              refine G_lload X76 hx (pc' := 134) rfl (hb hby at_132) rfl ?_
              refine G_ldc2 X76 hx (pc' := 137) rfl hown (mvT hZ (hw _ (List.mem_of_getElem? (i := 26) rfl))) (hb hby at_134) ?_
              refine G_lcmp X76 hx (pc' := 138) rfl (hb hby at_137)  ?_
              by_cases hc138_38 : (((f_max (0 : Int64) (v0 - (2 : Int64))) + (1 : Int64)) + (1 : Int64)) = (9223372036854775807 : Int64)
              · refine G_ifYes X76 hx (pc' := 177) (hb hby at_138) ((if0 _ _).trans (teq ((lw_eq _ _).2 hc138_38)).1) (by decide) (by decide) ?_
                refine G_iconst X76 hx (pc' := 178) rfl (hb hby at_177) (z := (1 : Int32)) rfl ?_
                refine Go.fin X76 hlk (v := some (.int (1 : Int32))) (fun h => by rw [Bd.returns] at h; cases h) (by decide) (by decide) ?_ (fun fs hr => retN X76 hx (t := .boolean) Bd.returns (by simp) (hb hby at_178) hr)
                show Q_law Z v0 v1 h0 n0 _ T76.heap _
                rw [e76]
                exact ⟨congrArg (fun z => some (Value.int z)) (by rw [f_law]; rw [if_neg hc5_1, if_neg hc21_21, if_neg hc34_25, if_neg hc70_31, if_pos hc90_36, if_pos hc109_37, if_pos hc138_38]), N76⟩
              · refine G_ifNo X76 hx (pc' := 141) rfl (hb hby at_138) ((if0 _ _).trans (feq (fun q => hc138_38 ((lw_eq _ _).1 q))).1) ?_
                refine G_aload X76 hx (pc' := 143) rfl (hb hby at_141) rfl rfl ?_
                obtain ⟨cq77, kq77, q77a, q77b, q77c⟩ := isOf hZ e76 p75_0
                obtain ⟨_, _, ⟨T77, L77, k77, n77⟩, -, X77, ⟨Lc77, hQ77, l77, y77, z77⟩, st77⟩ := X76.virtualBack hx (y := (⟨"com/example/fencing/fencing/protocol/LamportClock", "tick", "()J"⟩ : MethodName)) (z := (⟨"com/example/fencing/fencing/protocol/LamportClock", "tick", "()J"⟩ : MethodName)) hown (mvT hZ (hw _ (List.mem_of_getElem? (i := 17) rfl))) (mvT hZ (hw _ (List.mem_of_getElem? (i := 18) rfl))) (notFace_of_selects (args := #[]) (mvT hZ (hw _ (List.mem_of_getElem? (i := 20) rfl)))) (mvT hZ (hw _ (List.mem_of_getElem? (i := 20) rfl))) (mvT hZ (hw _ (List.mem_of_getElem? (i := 19) rfl))) (by decide) (backOf (W := 0) (rm_tick l Z a0 hw [] b66 (((f_max (0 : Int64) (v0 - (2 : Int64))) + (1 : Int64)) + (1 : Int64)) T75.heap n0 Z_75 p75_0 p75_1 g_b66 (by first | decide | assumption)) hZ (hw _ (List.mem_of_getElem? (i := 21) rfl)) (hw _ (List.mem_of_getElem? (i := 3) rfl)) (by decide) (by decide)) q77a q77c (g := (mkF m 143 #[.val (.long v0), .second, .val (.int v1), .val (.long (v0 - (2 : Int64))), .second, .val (.int (1 : Int32)), .val (.int (1 : Int32)), .val (.ref b66), .val (.long ((0 : Int64) + (1 : Int64))), .second, .val (.long (((f_max (0 : Int64) (v0 - (2 : Int64))) + (1 : Int64)) + (1 : Int64))), .second, .unset, .unset] [(.ref b66)])) rfl (by rw [hml]; rfl) (Steps.refl _) (argsL := []) (rest := []) (lenOf pd_2 rfl) rfl (by show 2 * 0 + _ ≤ _; exact Nat.le_of_eq rfl) (hb hby at_143) (fun _ _ => ⟨rfl, e76, (by decide : 1 + 0 ≤ _), (by decide : 1 + 0 ≤ _)⟩)
                dsimp only [Pt.U, Pt.locs, Pt.cells, Pt.slots] at X77 l77 y77 z77 st77 hQ77
                subst l77 y77 z77
                obtain ⟨rfl, N77q, K77, p77_0, p77_1⟩ := hQ77
                have N77 := Fr.app N76 N77q
                refine Go.st (fun _ k => st77.trans k) ?_
                have K_77 : Keep h0 T77.heap [] := K_75.trans K77 (allS (Or.inr sz_b66) all0)
                have Z_77 : n0 ≤ T77.heap.size := Nat.le_trans Z0 K_77.1
                show Go p e below s _ _ _ T77 (mkF m 146 #[.val (.long v0), .second, .val (.int v1), .val (.long (v0 - (2 : Int64))), .second, .val (.int (1 : Int32)), .val (.int (1 : Int32)), .val (.ref b66), .val (.long ((0 : Int64) + (1 : Int64))), .second, .val (.long (((f_max (0 : Int64) (v0 - (2 : Int64))) + (1 : Int64)) + (1 : Int64))), .second, .unset, .unset] [(.long ((((f_max (0 : Int64) (v0 - (2 : Int64))) + (1 : Int64)) + (1 : Int64)) + (1 : Int64)))])
                refine G_lstore X77 hx (pc' := 148) rfl (hb hby at_146) (L' := #[.val (.long v0), .second, .val (.int v1), .val (.long (v0 - (2 : Int64))), .second, .val (.int (1 : Int32)), .val (.int (1 : Int32)), .val (.ref b66), .val (.long ((0 : Int64) + (1 : Int64))), .second, .val (.long (((f_max (0 : Int64) (v0 - (2 : Int64))) + (1 : Int64)) + (1 : Int64))), .second, .val (.long ((((f_max (0 : Int64) (v0 - (2 : Int64))) + (1 : Int64)) + (1 : Int64)) + (1 : Int64))), .second]) rfl ?_
                refine G_lload X77 hx (pc' := 150) rfl (hb hby at_148) rfl ?_
                refine G_lload X77 hx (pc' := 152) rfl (hb hby at_150) rfl ?_
                refine G_ldc2 X77 hx (pc' := 155) rfl hown (mvT hZ (hw _ (List.mem_of_getElem? (i := 27) rfl))) (hb hby at_152) ?_
                refine G_ladd X77 hx (pc' := 156) rfl (hb hby at_155)  ?_
                refine G_lcmp X77 hx (pc' := 157) rfl (hb hby at_156)  ?_
                by_cases hc157_39 : ((((f_max (0 : Int64) (v0 - (2 : Int64))) + (1 : Int64)) + (1 : Int64)) + (1 : Int64)) = (((0 : Int64) + (1 : Int64)) + (2 : Int64))
                · refine G_ifNo X77 hx (pc' := 160) rfl (hb hby at_157) ((if0 _ _).trans (teq ((lw_eq _ _).2 hc157_39)).2) ?_
                  refine G_aload X77 hx (pc' := 162) rfl (hb hby at_160) rfl rfl ?_
                  obtain ⟨cq78, kq78, q78a, q78b, q78c⟩ := isOf hZ rfl p77_0
                  obtain ⟨_, _, ⟨T78, L78, k78, n78⟩, -, X78, ⟨Lc78, hQ78, l78, y78, z78⟩, st78⟩ := X77.virtualBack hx (y := (⟨"com/example/fencing/fencing/protocol/LamportClock", "time", "()J"⟩ : MethodName)) (z := (⟨"com/example/fencing/fencing/protocol/LamportClock", "time", "()J"⟩ : MethodName)) hown (mvT hZ (hw _ (List.mem_of_getElem? (i := 10) rfl))) (mvT hZ (hw _ (List.mem_of_getElem? (i := 11) rfl))) (notFace_of_selects (args := #[]) (mvT hZ (hw _ (List.mem_of_getElem? (i := 13) rfl)))) (mvT hZ (hw _ (List.mem_of_getElem? (i := 13) rfl))) (mvT hZ (hw _ (List.mem_of_getElem? (i := 12) rfl))) (by decide) (backOf (W := 0) (rm_time l Z a0 hw [] b66 ((((f_max (0 : Int64) (v0 - (2 : Int64))) + (1 : Int64)) + (1 : Int64)) + (1 : Int64)) T77.heap n0 Z_77 p77_1) hZ (hw _ (List.mem_of_getElem? (i := 14) rfl)) (hw _ (List.mem_of_getElem? (i := 3) rfl)) (by decide) (by decide)) q78a q78c (g := (mkF m 162 #[.val (.long v0), .second, .val (.int v1), .val (.long (v0 - (2 : Int64))), .second, .val (.int (1 : Int32)), .val (.int (1 : Int32)), .val (.ref b66), .val (.long ((0 : Int64) + (1 : Int64))), .second, .val (.long (((f_max (0 : Int64) (v0 - (2 : Int64))) + (1 : Int64)) + (1 : Int64))), .second, .val (.long ((((f_max (0 : Int64) (v0 - (2 : Int64))) + (1 : Int64)) + (1 : Int64)) + (1 : Int64))), .second] [(.ref b66)])) rfl (by rw [hml]; rfl) (Steps.refl _) (argsL := []) (rest := []) (lenOf pd_2 rfl) rfl (by show 2 * 0 + _ ≤ _; exact Nat.le_of_eq rfl) (hb hby at_162) (fun _ _ => ⟨rfl, rfl, (by decide : 1 + 0 ≤ _), (by decide : 1 + 0 ≤ _)⟩)
                  dsimp only [Pt.U, Pt.locs, Pt.cells, Pt.slots] at X78 l78 y78 z78 st78 hQ78
                  subst l78 y78 z78
                  obtain ⟨rfl, N78q, e78⟩ := hQ78
                  have N78 := Fr.app N77 N78q
                  refine Go.st (fun _ k => st78.trans k) ?_
                  show Go p e below s _ _ _ T78 (mkF m 165 #[.val (.long v0), .second, .val (.int v1), .val (.long (v0 - (2 : Int64))), .second, .val (.int (1 : Int32)), .val (.int (1 : Int32)), .val (.ref b66), .val (.long ((0 : Int64) + (1 : Int64))), .second, .val (.long (((f_max (0 : Int64) (v0 - (2 : Int64))) + (1 : Int64)) + (1 : Int64))), .second, .val (.long ((((f_max (0 : Int64) (v0 - (2 : Int64))) + (1 : Int64)) + (1 : Int64)) + (1 : Int64))), .second] [(.long ((((f_max (0 : Int64) (v0 - (2 : Int64))) + (1 : Int64)) + (1 : Int64)) + (1 : Int64)))])
                  refine G_lload X78 hx (pc' := 167) rfl (hb hby at_165) rfl ?_
                  refine G_ldc2 X78 hx (pc' := 170) rfl hown (mvT hZ (hw _ (List.mem_of_getElem? (i := 27) rfl))) (hb hby at_167) ?_
                  refine G_ladd X78 hx (pc' := 171) rfl (hb hby at_170)  ?_
                  refine G_lcmp X78 hx (pc' := 172) rfl (hb hby at_171)  ?_
                  refine G_ifYes X78 hx (pc' := 177) (hb hby at_172) ((if0 _ _).trans (teq ((lw_eq _ _).2 hc157_39)).1) (by decide) (by decide) ?_
                  refine G_iconst X78 hx (pc' := 178) rfl (hb hby at_177) (z := (1 : Int32)) rfl ?_
                  refine Go.fin X78 hlk (v := some (.int (1 : Int32))) (fun h => by rw [Bd.returns] at h; cases h) (by decide) (by decide) ?_ (fun fs hr => retN X78 hx (t := .boolean) Bd.returns (by simp) (hb hby at_178) hr)
                  show Q_law Z v0 v1 h0 n0 _ T78.heap _
                  rw [e78]
                  exact ⟨congrArg (fun z => some (Value.int z)) (by rw [f_law]; rw [if_neg hc5_1, if_neg hc21_21, if_neg hc34_25, if_neg hc70_31, if_pos hc90_36, if_pos hc109_37, if_neg hc138_38, if_pos hc157_39]), N78⟩
                · refine G_ifYes X77 hx (pc' := 175) (hb hby at_157) ((if0 _ _).trans (feq (fun q => hc157_39 ((lw_eq _ _).1 q))).2) (by decide) (by decide) ?_
                  refine G_iconst X77 hx (pc' := 176) rfl (hb hby at_175) (z := (0 : Int32)) rfl ?_
                  refine Go.fin X77 hlk (v := some (.int (0 : Int32))) (fun h => by rw [Bd.returns] at h; cases h) (by decide) (by decide) ?_ (fun fs hr => retN X77 hx (t := .boolean) Bd.returns (by simp) (hb hby at_176) hr)
                  show Q_law Z v0 v1 h0 n0 _ T77.heap _
                  exact ⟨congrArg (fun z => some (Value.int z)) (by rw [f_law]; rw [if_neg hc5_1, if_neg hc21_21, if_neg hc34_25, if_neg hc70_31, if_pos hc90_36, if_pos hc109_37, if_neg hc138_38, if_neg hc157_39]), N77⟩
            · refine G_ifYes X75 hx (pc' := 125) (hb hby at_109) ((if0 _ _).trans (feq (fun q => hc109_37 ((lw_eq _ _).1 q))).2) (by decide) (by decide) ?_
              refine G_iconst X75 hx (pc' := 126) rfl (hb hby at_125) (z := (0 : Int32)) rfl ?_
              refine Go.fin X75 hlk (v := some (.int (0 : Int32))) (fun h => by rw [Bd.returns] at h; cases h) (by decide) (by decide) ?_ (fun fs hr => retN X75 hx (t := .boolean) Bd.returns (by simp) (hb hby at_126) hr)
              show Q_law Z v0 v1 h0 n0 _ T75.heap _
              exact ⟨congrArg (fun z => some (Value.int z)) (by rw [f_law]; rw [if_neg hc5_1, if_neg hc21_21, if_neg hc34_25, if_neg hc70_31, if_pos hc90_36, if_neg hc109_37]), N75⟩
          · refine G_ifNo X74 hx (pc' := 93) rfl (hb hby at_90) ((if0 _ _).trans (feq (fun q => hc90_36 ((lw_eq _ _).1 q))).1) ?_
            refine G_iconst X74 hx (pc' := 94) rfl (hb hby at_93) (z := (0 : Int32)) rfl ?_
            refine Go.fin X74 hlk (v := some (.int (0 : Int32))) (fun h => by rw [Bd.returns] at h; cases h) (by decide) (by decide) ?_ (fun fs hr => retN X74 hx (t := .boolean) Bd.returns (by simp) (hb hby at_94) hr)
            show Q_law Z v0 v1 h0 n0 _ T74.heap _
            rw [e74]
            exact ⟨congrArg (fun z => some (Value.int z)) (by rw [f_law]; rw [if_neg hc5_1, if_neg hc21_21, if_neg hc34_25, if_neg hc70_31, if_neg hc90_36]), N74⟩
theorem own_two (x : Int64) : x + (1 : Int64) + (1 : Int64) = x + (2 : Int64) := by rw [Int64.add_assoc]; rfl
theorem own_mp {r : Int64} (h : (0 : Int64) < r) : f_max (0 : Int64) r = r := if_pos h
theorem own_mn {r : Int64} (h : ¬ (0 : Int64) < r) : f_max (0 : Int64) r = 0 := if_neg h
theorem own_three (x : Int64) : x + (1 : Int64) + (1 : Int64) + (1 : Int64) = x + (1 : Int64) + (2 : Int64) := own_two _
theorem own_law (a : Int64) (b : Int32) : f_law a b = 1 := by
  unfold f_law
  by_cases h : a < (9223372036854775806 : Int64)
  · rw [if_pos h]
    by_cases h2 : (0 : Int64) < a
    · simp only [own_mp h2, h2, own_three, if_true]
      repeat' split
      all_goals first | rfl | simp_all
    · simp [own_mn h2, h2, own_two]
  · rw [if_neg h]
    by_cases h2 : (0 : Int64) < a - (2 : Int64)
    · simp only [own_mp h2, h2, own_three, if_true]
      repeat' split
      all_goals first | rfl | simp_all
    · simp [own_mn h2, h2, own_two]

set_option maxRecDepth 65536 in
set_option maxHeartbeats 40000000 in
theorem comes_1 {Post : Tables → Env → Array Value → State → Outcome → State → Prop} (hpost : ∀ tb e args s v u, (limb_1_1.after args s (.returned v) u = true ∧ limb_1_2.after args s (.returned v) u = true ∧ True) → FrameEnd s (.returned v) u (Jvm.fieldLocs frame_1_writes args s ++ Jvm.arrayLocs frame_1_arrays args s ++ Jvm.staticLocs frame_1_statics s) 16 128 → Post tb e args s (.returned v) u) :
    ArmFor flags0 classFile x code maxLocals ret World_1 tables_1 room_1 Calls_1 rest_1 Pre_1 Post := by
  intro l hfl _ _ p e ha hc hk s m args below hf hA hF happ hP
  obtain ⟨hcalls, hrest, hpre⟩ := hP
  obtain ⟨-, -, -, hnamed, -, -, -, hat⟩ := (Spec.applies_iff hf).mp happ
  obtain ⟨hg, hn⟩ := and_e (Cond.before_iff.mp (show (Jvm.Cond.and given_1 narrow_1).before args s = true from hpre))
  obtain ⟨hcnt, hg0⟩ := and_e hg
  obtain ⟨ha0, hg1⟩ := and_e hg0
  have ha1 := hg1
  obtain ⟨w0, w1, rfl⟩ : ∃ w0 w1 : Value, args = #[w0, w1] := by
    have hs : args.size = 2 := by simpa [Cond.value, given_1] using hcnt
    obtain ⟨L⟩ := args
    match L, hs with
    | [w0, w1], _ => exact ⟨w0, w1, rfl⟩
  have hw := fun d (hd : d ∈ tables_1) => atoms_spec (ws := Jvm.Cond.code x code maxLocals ret :: tables_1) hat d (List.mem_cons_of_mem _ hd)
  have hfit : Fit s := fun {y c} hc i hi => by
    obtain ⟨ha, rfl⟩ := Array.getElem?_eq_some_iff.mp hc
    have q := List.all_eq_true.mp ((Array.all_eq_true_iff_forall_mem.mp hF) _ (Array.getElem_mem ha)) i (List.mem_range.mpr hi)
    simpa [Array.getElem?_eq_getElem hi] using q
  obtain ⟨i0, ei0⟩ := isL_v ha0
  obtain rfl : w0 = (.long i0) := Option.some.inj ei0
  obtain ⟨i1, ei1⟩ := is_v ha1
  obtain rfl : w1 = (.int i1) := Option.some.inj ei1
  obtain ⟨n, o, h1, h2, h3, v, L, rfl, ⟨hv, N⟩, hq⟩ := rm_law l s _ hw tables_1 i0 i1  s.heap s.heap.size (Nat.le_refl _)  p e ha hc hk s m _ below hf ((Spec.applies_iff_loose hf).mp happ).1 ⟨rfl, State.Warmed39.refl s, rfl⟩ trivial
  rw [own_law i0 i1] at hv
  subst hv
  refine ⟨n, _, h1, h2, h3, hpost _ _ _ _ _ _ ⟨Cond.after_iff.mpr rfl, Cond.after_iff.mpr (eq_i res_at (Term.int_eval (1)) rfl), trivial⟩ ⟨hq.1, hq.2.1, (hq.2.2.sift fun y hy => Or.inr (N y hy)).mono (by decide) (by decide)⟩⟩
theorem main_1_1 : Claimed_1_1 := comes_1 fun _ _ _ _ _ _ h hF => ⟨h.1, hF⟩
theorem main_1_2 : Claimed_1_2 := comes_1 fun _ _ _ _ _ _ h hF => ⟨h.2.1, hF⟩
end Jvm.Pilot.@@N@@
namespace Jvm.Pilot.@@N@@
open Jvm Jvm.ClassFile Sem Op Lib Jvm.Free Jvm.Stand Jvm.Pilot.@@N@@.Jvm.D
/-! MADE BY PROGRAM (witnessworld.py) out of the Statement's table words and the real class files: 10 classes; the members and pool entries that the words name. The judged class is class 1, her method 1. -/
namespace start1
open Jvm.ClassFile
def u (s : String) : CpInfo := .utf8 (stringToUtf16 s)
/-- a pool by its gaps: so many unusable entries, then the entry; so many at the end -/
def gap : Nat → List CpInfo → List CpInfo
  | 0, r => r
  | n + 1, r => .unusable :: gap n r
def poolList (es : List (Nat × CpInfo)) (last : Nat) : List CpInfo := es.foldr (fun e r => gap e.1 (e.2 :: r)) (gap last [])
def pool (es : List (Nat × CpInfo)) (last : Nat) : Array CpInfo := ⟨poolList es last⟩
def fileOf (pool : Array CpInfo) (this : Nat) (attrs : Array Attribute := #[]) (ms : Array MethodInfo := #[]) (fl : Nat := 33) (sup : Nat := 0) (ifs : Array Nat := #[]) (fds : Array FieldInfo := #[]) : ClassFile where
  minorVersion := 0
  majorVersion := 65
  constantPool := pool
  accessFlags := fl
  thisClass := this
  superClass := sup
  interfaces := ifs
  fields := fds
  methods := ms
  attributes := attrs
def plain (name : String) (sup : Option ClassId) : Class where
  name := name
  kind := .ordinary
  loader := none
  accessFlags := 33
  super := sup
  interfaces := #[]
  cf := none
  fields := #[]
  methods := #[]
  instanceTypes := #[]
  staticTypes := #[]
  resolved := #[]
  callSites := []
  init := .initialized
  statics := none
  mirror := none

def pool0 : Array CpInfo := pool [(5, u "<init>"), (0, u "()V"), (1, .class_ 10), (1, u "java/lang/Object")] 113

def k0c0 : Code := { maxStack := 0, maxLocals := 1, code := object_method_1_code, exceptionTable := #[], attributes := #[] }
def k0m0 : Method := { name := "<init>", desc := "()V", sig := { parameters := [], returnType := none }, accessFlags := 1, code := some k0c0 }
/-- java/lang/Object -/
def k0 : Class := { plain "java/lang/Object" none with
  accessFlags := 33
  interfaces := #[]
  cf := some (fileOf pool0 8 #[] #[{ accessFlags := 1, nameIndex := 5, descriptorIndex := 6, attributes := #[] }] 33 0 #[] #[])
  fields := #[]
  methods := #[k0m0]
  instanceTypes := #[]
  staticTypes := #[]
  resolved := Array.replicate 124 none
  statics := none }

def pool1 : Array CpInfo := pool [(2, .class_ 4), (0, .nameAndType 5 6), (0, u "java/lang/Object"), (0, u "<init>"), (0, u "()V"), (2, .long 9223372036854775806), (1, .long 2), (1, .class_ 14), (0, u "com/example/fencing/fencing/protocol/LamportClock"), (0, .methodref 13 3), (0, .methodref 13 17), (0, .nameAndType 18 19), (0, u "receive"), (0, u "(J)V"), (0, .methodref 13 21), (0, .nameAndType 22 23), (0, u "time"), (0, u "()J"), (0, .methodref 13 25), (0, .nameAndType 26 23), (0, u "tick"), (0, .long 9223372036854775807), (1, .class_ 30), (0, u "com/example/fencing/fencing/protocol/LamportClockTickPinLaw"), (2, u "law"), (0, u "(JI)Z")] 3

def k1m0 : Method := { name := "<init>", desc := "()V", sig := { parameters := [], returnType := none }, accessFlags := 1, code := none }
def k1c1 : Code := { maxStack := 6, maxLocals := 14, code := code, exceptionTable := #[], attributes := #[] }
def k1m1 : Method := { name := "law", desc := "(JI)Z", sig := { parameters := [.long, .int], returnType := some .boolean }, accessFlags := 9, code := some k1c1 }
/-- com/example/fencing/fencing/protocol/LamportClockTickPinLaw -/
def k1 : Class := { plain "com/example/fencing/fencing/protocol/LamportClockTickPinLaw" (some 0) with
  accessFlags := 49
  interfaces := #[]
  cf := some (fileOf pool1 29 #[] #[{ accessFlags := 1, nameIndex := 5, descriptorIndex := 6, attributes := #[] }, { accessFlags := 9, nameIndex := 33, descriptorIndex := 34, attributes := #[] }] 49 2 #[] #[])
  fields := #[]
  methods := #[k1m0, k1m1]
  instanceTypes := #[]
  staticTypes := #[]
  resolved := Array.replicate 38 none
  statics := none }

def pool2 : Array CpInfo := pool [(1, .methodref 2 3), (0, .class_ 4), (0, .nameAndType 5 6), (0, u "java/lang/Object"), (0, u "<init>"), (0, u "()V"), (0, .fieldref 8 9), (0, .class_ 10), (0, .nameAndType 11 12), (0, u "com/example/fencing/fencing/protocol/LamportClock"), (0, u "time"), (0, u "J"), (0, .methodref 14 15), (0, .class_ 16), (0, .nameAndType 17 18), (0, u "java/lang/Math"), (0, u "addExact"), (0, u "(JJ)J"), (0, .methodref 14 20), (0, .nameAndType 21 18), (0, u "max"), (2, u "()J"), (0, u "tick"), (0, u "receive"), (0, u "(J)V")] 2

def k2c0 : Code := { maxStack := 1, maxLocals := 1, code := prog_9_method_1_code, exceptionTable := #[], attributes := #[] }
def k2m0 : Method := { name := "<init>", desc := "()V", sig := { parameters := [], returnType := none }, accessFlags := 1, code := some k2c0 }
def k2c1 : Code := { maxStack := 2, maxLocals := 1, code := prog_9_method_2_code, exceptionTable := #[], attributes := #[] }
def k2m1 : Method := { name := "time", desc := "()J", sig := { parameters := [], returnType := some .long }, accessFlags := 1, code := some k2c1 }
def k2c2 : Code := { maxStack := 5, maxLocals := 1, code := prog_9_method_3_code, exceptionTable := #[], attributes := #[] }
def k2m2 : Method := { name := "tick", desc := "()J", sig := { parameters := [], returnType := some .long }, accessFlags := 1, code := some k2c2 }
def k2c3 : Code := { maxStack := 5, maxLocals := 3, code := prog_9_method_4_code, exceptionTable := #[], attributes := #[] }
def k2m3 : Method := { name := "receive", desc := "(J)V", sig := { parameters := [.long], returnType := none }, accessFlags := 1, code := some k2c3 }
/-- com/example/fencing/fencing/protocol/LamportClock -/
def k2 : Class := { plain "com/example/fencing/fencing/protocol/LamportClock" (some 0) with
  accessFlags := 33
  interfaces := #[]
  cf := some (fileOf pool2 8 #[] #[{ accessFlags := 1, nameIndex := 5, descriptorIndex := 6, attributes := #[] }, { accessFlags := 1, nameIndex := 11, descriptorIndex := 24, attributes := #[] }, { accessFlags := 1, nameIndex := 25, descriptorIndex := 24, attributes := #[] }, { accessFlags := 1, nameIndex := 26, descriptorIndex := 27, attributes := #[] }] 33 2 #[] #[{ accessFlags := 2, nameIndex := 11, descriptorIndex := 12, attributes := #[] }])
  fields := #[{ name := "time", type := .long, accessFlags := 2, slot := 0, constantValue := 0 }]
  methods := #[k2m0, k2m1, k2m2, k2m3]
  instanceTypes := #[.long]
  staticTypes := #[]
  resolved := Array.replicate 30 none
  statics := none }

def pool3 : Array CpInfo := pool [(1, .class_ 2), (0, u "java/lang/Math"), (1, .class_ 6), (1, u "java/lang/Object"), (0, u "<init>"), (0, u "()V"), (89, .class_ 100), (1, u "java/lang/Math$RandomNumberGeneratorHolder"), (20, u "(JJ)J"), (50, u "negativeZeroFloatBits"), (0, u "J"), (2, u "negativeZeroDoubleBits"), (21, u "max"), (46, u "$assertionsDisabled"), (0, u "Z"), (91, u "twoToTheDoubleScaleDown"), (0, u "D"), (4, u "twoToTheDoubleScaleUp"), (9, u "E"), (3, u "PI"), (2, u "TAU"), (2, u "DEGREES_TO_RADIANS"), (0, u "RADIANS_TO_DEGREES"), (27, u "addExact")] 66

def k3m0 : Method := { name := "<init>", desc := "()V", sig := { parameters := [], returnType := none }, accessFlags := 2, code := none }
def k3c1 : Code := { maxStack := 6, maxLocals := 6, code := jdk_29_method_25_code, exceptionTable := #[], attributes := #[] }
def k3m1 : Method := { name := "addExact", desc := "(JJ)J", sig := { parameters := [.long, .long], returnType := some .long }, accessFlags := 9, code := some k3c1 }
def k3c2 : Code := { maxStack := 4, maxLocals := 4, code := jdk_29_method_66_code, exceptionTable := #[], attributes := #[] }
def k3m2 : Method := { name := "max", desc := "(JJ)J", sig := { parameters := [.long, .long], returnType := some .long }, accessFlags := 9, code := some k3c2 }
/-- java/lang/Math -/
def k3 : Class := { plain "java/lang/Math" (some 0) with
  accessFlags := 49
  interfaces := #[]
  cf := some (fileOf pool3 1 #[.nestMembers #[98]] #[{ accessFlags := 2, nameIndex := 7, descriptorIndex := 8, attributes := #[] }, { accessFlags := 9, nameIndex := 393, descriptorIndex := 121, attributes := #[] }, { accessFlags := 9, nameIndex := 198, descriptorIndex := 121, attributes := #[] }] 49 4 #[] #[{ accessFlags := 25, nameIndex := 354, descriptorIndex := 339, attributes := #[] }, { accessFlags := 25, nameIndex := 358, descriptorIndex := 339, attributes := #[] }, { accessFlags := 25, nameIndex := 361, descriptorIndex := 339, attributes := #[] }, { accessFlags := 26, nameIndex := 364, descriptorIndex := 339, attributes := #[] }, { accessFlags := 26, nameIndex := 365, descriptorIndex := 339, attributes := #[] }, { accessFlags := 26, nameIndex := 172, descriptorIndex := 173, attributes := #[] }, { accessFlags := 26, nameIndex := 176, descriptorIndex := 173, attributes := #[] }, { accessFlags := 8, nameIndex := 344, descriptorIndex := 339, attributes := #[] }, { accessFlags := 8, nameIndex := 338, descriptorIndex := 339, attributes := #[] }, { accessFlags := 4120, nameIndex := 245, descriptorIndex := 246, attributes := #[] }])
  fields := #[{ name := "E", type := .double, accessFlags := 25, slot := 0, constantValue := 0 }, { name := "PI", type := .double, accessFlags := 25, slot := 1, constantValue := 0 }, { name := "TAU", type := .double, accessFlags := 25, slot := 2, constantValue := 0 }, { name := "DEGREES_TO_RADIANS", type := .double, accessFlags := 26, slot := 3, constantValue := 0 }, { name := "RADIANS_TO_DEGREES", type := .double, accessFlags := 26, slot := 4, constantValue := 0 }, { name := "negativeZeroFloatBits", type := .long, accessFlags := 26, slot := 5, constantValue := 0 }, { name := "negativeZeroDoubleBits", type := .long, accessFlags := 26, slot := 6, constantValue := 0 }, { name := "twoToTheDoubleScaleUp", type := .double, accessFlags := 8, slot := 7, constantValue := 0 }, { name := "twoToTheDoubleScaleDown", type := .double, accessFlags := 8, slot := 8, constantValue := 0 }, { name := "$assertionsDisabled", type := .boolean, accessFlags := 4120, slot := 9, constantValue := 0 }]
  methods := #[k3m0, k3m1, k3m2]
  instanceTypes := #[]
  staticTypes := #[.double, .double, .double, .double, .double, .long, .long, .double, .double, .boolean]
  resolved := Array.replicate 460 none
  statics := none }

def pool4 : Array CpInfo := pool [(1, u "java/lang/Cloneable"), (0, .class_ 1), (0, u "java/lang/Object"), (0, .class_ 3)] 3

/-- java/lang/Cloneable -/
def k4 : Class := { plain "java/lang/Cloneable" (some 0) with
  accessFlags := 1537
  interfaces := #[]
  cf := some (fileOf pool4 2 #[] #[] 1537 4 #[] #[])
  fields := #[]
  methods := #[]
  instanceTypes := #[]
  staticTypes := #[]
  resolved := Array.replicate 8 none
  statics := none }

def pool5 : Array CpInfo := pool [(1, u "java/io/Serializable"), (0, .class_ 1), (0, u "java/lang/Object"), (0, .class_ 3)] 3

/-- java/io/Serializable -/
def k5 : Class := { plain "java/io/Serializable" (some 0) with
  accessFlags := 1537
  interfaces := #[]
  cf := some (fileOf pool5 2 #[] #[] 1537 4 #[] #[])
  fields := #[]
  methods := #[]
  instanceTypes := #[]
  staticTypes := #[]
  resolved := Array.replicate 8 none
  statics := none }

/-- the primitive byte -/
def k6 : Class := { plain "byte" none with kind := .primitive 'B', accessFlags := 0x411 }
/-- [B -/
def k7 : Class := { plain "[B" (some 0) with kind := .array 6 .byte, interfaces := #[4, 5], accessFlags := 1041 }

/-- the primitive int -/
def k8 : Class := { plain "int" none with kind := .primitive 'I', accessFlags := 0x411 }
/-- [I -/
def k9 : Class := { plain "[I" (some 0) with kind := .array 8 .int, interfaces := #[4, 5], accessFlags := 1041 }

def heap : Heap := #[]
def classes : Array Class := #[k0, k1, k2, k3, k4, k5, k6, k7, k8, k9]
def interned : List (Array UInt16 × Addr) := []
def slotsUsed : Nat := 0
def theMethod : MethodId := ⟨1, 1⟩
def args0 : Array Value := #[.long 5, .int 3]
def aboutOver (below : List Frame) : State where
  vm := { classes := classes, interned := interned.toArray }
  heap := heap
  slotsUsed := slotsUsed
  threads := #[{ frames := .invoking theMethod args0 :: below }]
def below0 : List Frame := [.native { method := ⟨0, 0⟩, args := #[] }]
def about1 : State := aboutOver below0
def p0 : Program := .bare "" "" ""
def e0 : Env := launch0.env 0 0 0
theorem w_frames : about1.frames = Frame.invoking theMethod args0 :: below0 := rfl
set_option maxRecDepth 65536 in
theorem w_args : argsFit about1.vm theMethod args0 = true := by decide +kernel
set_option maxRecDepth 65536 in
theorem w_heap : heapFits about1 = true := by decide +kernel
set_option maxRecDepth 65536 in
theorem w_runnable : about1.curStatus? = some .runnable := by decide +kernel
set_option maxRecDepth 65536 in
theorem w_alone : about1.alone = true := by decide +kernel
set_option maxRecDepth 65536 in
theorem w_named : about1.methodNamed? x = some theMethod := by decide +kernel
set_option maxRecDepth 65536 in
theorem w_hears : about1.hears theMethod below0 = true := by decide +kernel
set_option maxRecDepth 65536 in
theorem w_ripe : about1.ripe theMethod args0 below0 = true := by decide +kernel
theorem w_running : about1.status = .running := rfl
set_option maxRecDepth 65536 in
theorem w_room : about1.hasRoom e0.platform room_1 = true :=
  launch0.hasRoom_least _ room_1 (by decide +kernel) (by decide +kernel) (by decide +kernel) (by decide +kernel) (by decide +kernel) (by decide +kernel)
theorem allAtoms_all (ts : List Jvm.Cond) (a : Array Jvm.Value) (st : Jvm.State) : (allAtoms ts).before a st = ts.all (fun c => c.before a st) := by
  induction ts with
  | nil => rfl
  | cons c t ih =>
    show (Jvm.Cond.and c (allAtoms t)).before a st = _
    rw [Jvm.Cond.before_and, ih, List.all_cons]
def words1 : List Jvm.Cond := Jvm.Cond.code x code maxLocals ret :: tables_1
/-- a 'code' word, met by the world's own term for the bytes: nothing is compared byte by byte -/
theorem code_word {y : MethodName} {bytes : ByteArray} {mx : Nat} {rt : Option FieldType} {a : Array Value} {s : State} {m : MethodId} {meth : Method} {c : Code} (h1 : s.methodNamed? y = some m) (h2 : s.vm.method? m = some meth) (h3 : meth.code = some c) (h4 : c.code = bytes)
    (h5 : (c.maxLocals == mx && c.exceptionTable.isEmpty && decide (c.maxStack ≤ mostOperands) && decide (meth.sig.returnType = rt) && !meth.locks && decide (parseMethodDescriptor y.desc = some meth.sig)) = true) : (Jvm.Cond.code y bytes mx rt).before a s = true := by
  simp only [Bool.and_eq_true, beq_iff_eq, Bool.not_eq_true', decide_eq_true_eq] at h5
  obtain ⟨⟨⟨⟨⟨g1, g2⟩, g3⟩, g4⟩, g5⟩, g6⟩ := h5
  simp [Cond.before, Cond.holds, Cond.value, h1, h2, h3, h4, g1, g2, g3, g4, g5, g6]
def isCode : Jvm.Cond → Bool
  | .code _ _ _ _ => true
  | _ => false
theorem all_split {L : List Jvm.Cond} {P : Jvm.Cond → Bool} (h1 : L.all (fun c => isCode c || P c) = true) (h2 : ∀ c ∈ L.filter isCode, P c = true) : L.all P = true := by
  refine List.all_eq_true.mpr fun c hc => ?_
  have h := List.all_eq_true.mp h1 c hc
  rcases Bool.eq_false_or_eq_true (isCode c) with hi | hi
  · exact h2 c (List.mem_filter.mpr ⟨hc, hi⟩)
  · simpa [hi] using h
set_option maxRecDepth 65536 in
theorem w_c0 : (Jvm.Cond.code x code maxLocals ret).before args0 about1 = true := code_word (m := ⟨1, 1⟩) (meth := k1m1) (c := k1c1) (by decide +kernel) rfl rfl rfl (by decide +kernel)
set_option maxRecDepth 65536 in
theorem w_c1 : (Jvm.Cond.code ({ cls := "com/example/fencing/fencing/protocol/LamportClock", name := "<init>", desc := "()V" } : Jvm.MethodName) prog_9_method_1_code (1 : Nat) (Option.none : Option Jvm.ClassFile.FieldType)).before args0 about1 = true := code_word (m := ⟨2, 0⟩) (meth := k2m0) (c := k2c0) (by decide +kernel) rfl rfl rfl (by decide +kernel)
set_option maxRecDepth 65536 in
theorem w_c2 : (Jvm.Cond.code ({ cls := "java/lang/Object", name := "<init>", desc := "()V" } : Jvm.MethodName) object_method_1_code (1 : Nat) (Option.none : Option Jvm.ClassFile.FieldType)).before args0 about1 = true := code_word (m := ⟨0, 0⟩) (meth := k0m0) (c := k0c0) (by decide +kernel) rfl rfl rfl (by decide +kernel)
set_option maxRecDepth 65536 in
theorem w_c3 : (Jvm.Cond.code ({ cls := "com/example/fencing/fencing/protocol/LamportClock", name := "time", desc := "()J" } : Jvm.MethodName) prog_9_method_2_code (1 : Nat) (Option.some Jvm.ClassFile.FieldType.long)).before args0 about1 = true := code_word (m := ⟨2, 1⟩) (meth := k2m1) (c := k2c1) (by decide +kernel) rfl rfl rfl (by decide +kernel)
set_option maxRecDepth 65536 in
theorem w_c4 : (Jvm.Cond.code ({ cls := "com/example/fencing/fencing/protocol/LamportClock", name := "tick", desc := "()J" } : Jvm.MethodName) prog_9_method_3_code (1 : Nat) (Option.some Jvm.ClassFile.FieldType.long)).before args0 about1 = true := code_word (m := ⟨2, 2⟩) (meth := k2m2) (c := k2c2) (by decide +kernel) rfl rfl rfl (by decide +kernel)
set_option maxRecDepth 65536 in
theorem w_c5 : (Jvm.Cond.code ({ cls := "java/lang/Math", name := "addExact", desc := "(JJ)J" } : Jvm.MethodName) jdk_29_method_25_code (6 : Nat) (Option.some Jvm.ClassFile.FieldType.long)).before args0 about1 = true := code_word (m := ⟨3, 1⟩) (meth := k3m1) (c := k3c1) (by decide +kernel) rfl rfl rfl (by decide +kernel)
set_option maxRecDepth 65536 in
theorem w_c6 : (Jvm.Cond.code ({ cls := "com/example/fencing/fencing/protocol/LamportClock", name := "receive", desc := "(J)V" } : Jvm.MethodName) prog_9_method_4_code (3 : Nat) (Option.none : Option Jvm.ClassFile.FieldType)).before args0 about1 = true := code_word (m := ⟨2, 3⟩) (meth := k2m3) (c := k2c3) (by decide +kernel) rfl rfl rfl (by decide +kernel)
set_option maxRecDepth 65536 in
theorem w_c7 : (Jvm.Cond.code ({ cls := "java/lang/Math", name := "max", desc := "(JJ)J" } : Jvm.MethodName) jdk_29_method_66_code (4 : Nat) (Option.some Jvm.ClassFile.FieldType.long)).before args0 about1 = true := code_word (m := ⟨3, 2⟩) (meth := k3m2) (c := k3c2) (by decide +kernel) rfl rfl rfl (by decide +kernel)
def codes1 : List Jvm.Cond := [Jvm.Cond.code x code maxLocals ret, Jvm.Cond.code ({ cls := "com/example/fencing/fencing/protocol/LamportClock", name := "<init>", desc := "()V" } : Jvm.MethodName) prog_9_method_1_code (1 : Nat) (Option.none : Option Jvm.ClassFile.FieldType), Jvm.Cond.code ({ cls := "java/lang/Object", name := "<init>", desc := "()V" } : Jvm.MethodName) object_method_1_code (1 : Nat) (Option.none : Option Jvm.ClassFile.FieldType), Jvm.Cond.code ({ cls := "com/example/fencing/fencing/protocol/LamportClock", name := "time", desc := "()J" } : Jvm.MethodName) prog_9_method_2_code (1 : Nat) (Option.some Jvm.ClassFile.FieldType.long), Jvm.Cond.code ({ cls := "com/example/fencing/fencing/protocol/LamportClock", name := "tick", desc := "()J" } : Jvm.MethodName) prog_9_method_3_code (1 : Nat) (Option.some Jvm.ClassFile.FieldType.long), Jvm.Cond.code ({ cls := "java/lang/Math", name := "addExact", desc := "(JJ)J" } : Jvm.MethodName) jdk_29_method_25_code (6 : Nat) (Option.some Jvm.ClassFile.FieldType.long), Jvm.Cond.code ({ cls := "com/example/fencing/fencing/protocol/LamportClock", name := "receive", desc := "(J)V" } : Jvm.MethodName) prog_9_method_4_code (3 : Nat) (Option.none : Option Jvm.ClassFile.FieldType), Jvm.Cond.code ({ cls := "java/lang/Math", name := "max", desc := "(JJ)J" } : Jvm.MethodName) jdk_29_method_66_code (4 : Nat) (Option.some Jvm.ClassFile.FieldType.long)]
set_option maxRecDepth 65536 in
theorem codes_eq : words1.filter isCode = codes1 := rfl
theorem w_codes : ∀ c ∈ words1.filter isCode, c.before args0 about1 = true := by
  rw [codes_eq]
  intro c hc
  simp only [codes1, List.mem_cons, List.not_mem_nil, or_false] at hc
  rcases hc with rfl | rfl | rfl | rfl | rfl | rfl | rfl | rfl
  · exact w_c0
  · exact w_c1
  · exact w_c2
  · exact w_c3
  · exact w_c4
  · exact w_c5
  · exact w_c6
  · exact w_c7
set_option maxRecDepth 65536 in
theorem w_t1 : (words1.take 24).all (fun c => isCode c || c.before args0 about1) = true := by decide +kernel
set_option maxRecDepth 65536 in
theorem w_t2 : (words1.drop 24).all (fun c => isCode c || c.before args0 about1) = true := by decide +kernel
theorem w_tables : (allAtoms (Jvm.Cond.code x code maxLocals ret :: tables_1)).before args0 about1 = true := by
  rw [allAtoms_all]
  show words1.all (fun c => c.before args0 about1) = true
  refine all_split ?_ w_codes
  rw [← List.take_append_drop 24 words1, List.all_append, w_t1, w_t2]
  rfl
set_option maxRecDepth 65536 in
theorem w_case : (Jvm.Cond.and given_1 narrow_1).before args0 about1 = true := by decide +kernel
theorem w_applies : (headSpec (Jvm.Cond.code x code maxLocals ret :: tables_1) room_1).applies x e0.platform about1 = true :=
  (Spec.applies_iff w_frames).mpr ⟨w_running, w_runnable, w_alone, w_named, w_hears, w_ripe, w_room, w_tables⟩
theorem atStart : AtStart classFile x code maxLocals ret World_1 tables_1 room_1 Calls_1 rest_1 Pre_1 launch0 p0 e0 about1 theMethod args0 below0 :=
  ⟨lists_1, trivial, launch0.admits_env _ _ _, launch0.least_env, fairChoices_fair.cas, fairChoices_fair.clock, w_frames, w_args, w_heap, w_applies, trivial, trivial, w_case⟩
end start1
theorem witness_1 : WitnessClaimed_1 := ⟨start1.p0, start1.e0, start1.about1, start1.theMethod, start1.args0, start1.below0, start1.atStart⟩
end Jvm.Pilot.@@N@@
